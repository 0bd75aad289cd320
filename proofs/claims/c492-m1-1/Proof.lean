import JvmDerived
import JvmDerived.Pilot.@@N@@Statement
import JvmDerived.Pilot.@@N@@Code
set_option linter.unusedVariables false
set_option linter.unusedSimpArgs false
namespace Jvm.RoadKit
open Sem ClassFile Op Lib Jvm.Stand Jvm.Free Jvm.LawKit
section New
variable {p : Program} {l : Launch} {e : Env} {R : Room} {s : State} {m : MethodId} {args : Array Value} {below : List Frame} {meth : Method} {c : Code} {T : State} {locs : List Loc} {cells slots : Nat}
theorem retI (X : Stand p l e R s m args below meth c T locs cells slots) (hx : p.tables.exec = Jvm.exec) {pc : Nat} {Ls : Array Slot} {z : Int32} {rest : List Value} (hret : meth.sig.returnType = some .int) (hd : decode c.code pc = .ok (.ireturn, 1)) {fs : List Frame}
    (hl : ∀ (f : JFrame) (acts : List Action), f.method = m → f.locked = none → f.entered = [] → (doReturn e (T.setTop f) acts (some (.int z))).1 = T.setFrames fs) : Steps p.tables e below (T.setTop (mkF m pc Ls (.int z :: rest))) (T.setFrames fs) := by
  have hm' : T.vm.method? m = some meth := X.method'
  have hn : narrow .int (.int z) = .int z := rfl
  show Steps p.tables e below (T.setTop { method := m, pc := pc, locals := Ls, stack := _ :: rest, locked := none }) _
  jvm_step X.here [X.here.top, hx, hd, hm', hret, hn]
  first | (intro acts; rw [hl _ acts rfl rfl rfl]) | rw [hl _ _ rfl rfl rfl]
  exact Steps.refl _
end New
end Jvm.RoadKit
@@BLOCK:NumsL.lean.txt@@
namespace Jvm.Pilot.@@N@@
open Jvm Jvm.ClassFile Sem Op Lib Jvm.Free Jvm.Stand Jvm.LawKit Jvm.RoadKit Bundle Jvm.Pilot.@@N@@.Jvm.D
/-- from S the run comes to an end that says Q -/
def own_Go (p : Program) (e : Env) (below : List Frame) (s : State) (Q : Option Value → Heap → List Loc → Prop) (c n : Nat) (S : State) : Prop :=
  ∃ s₂ o, Steps p.tables e below S s₂ ∧ s₂.status = .running ∧ Ended s₂ below o ∧ ∃ v L, o = .returned v ∧ Q v s₂.heap L ∧ FrameEnd s o s₂ L c n
theorem own_go {p : Program} {e : Env} {below : List Frame} {s : State} {Q : Option Value → Heap → List Loc → Prop} {c n : Nat} {S S' : State} (st : ∀ t, Steps p.tables e below S' t → Steps p.tables e below S t) (k : own_Go p e below s Q c n S') : own_Go p e below s Q c n S := by
  obtain ⟨s₂, o, h, r⟩ := k
  exact ⟨s₂, o, st _ h, r⟩
theorem own_goT {p : Program} {e : Env} {below : List Frame} {s : State} {Q : Option Value → Heap → List Loc → Prop} {c n : Nat} {S S' : State} (st : Steps p.tables e below S S') (k : own_Go p e below s Q c n S') : own_Go p e below s Q c n S := own_go (fun _ h => st.trans h) k
theorem own_end {p : Program} {e : Env} {below : List Frame} {s : State} {Q : Option Value → Heap → List Loc → Prop} {c n : Nat} {S s₂ : State} {v : Option Value} {L : List Loc} (h : Steps p.tables e below S s₂) (hrun : s₂.status = .running) (he : Ended s₂ below (.returned v)) (hq : Q v s₂.heap L) (hW : s.WarmedH s₂.vm) (hs : s.sameButNew ({ s₂ with vm := s.vm } : State) L c n) : own_Go p e below s Q c n S :=
  ⟨s₂, _, h, hrun, he, v, L, rfl, hq, ⟨_, rfl⟩, hW, hs⟩
/-- an array of known values, its class's number unsaid -/
def own_Arv (Z : State) (h : Heap) (a : Addr) (ty : FieldType) (n : Int32) (vs : List Value) (d : Value) : Prop := ∃ k, Arv Z h a k ty n vs d
theorem own_Arv.lt {Z : State} {h : Heap} {a : Addr} {ty : FieldType} {n : Int32} {vs : List Value} {d : Value} (F : own_Arv Z h a ty n vs d) : a < h.size := by obtain ⟨k, F⟩ := F; exact F.lt
theorem own_Arv.ext {Z : State} {h h' : Heap} {a : Addr} {ty : FieldType} {n : Int32} {vs : List Value} {d : Value} (F : own_Arv Z h a ty n vs d) (E : Ext h h') : own_Arv Z h' a ty n vs d := by obtain ⟨k, F⟩ := F; exact ⟨k, F.ext E⟩
theorem own_Arv.other {Z : State} {h h' : Heap} {a b : Addr} {sl : Nat} {v : Value} {ty : FieldType} {n : Int32} {vs : List Value} {d : Value} (F : own_Arv Z h b ty n vs d) (W : Wr h h' a sl v) (q : b ≠ a) : own_Arv Z h' b ty n vs d := by obtain ⟨k, F⟩ := F; exact ⟨k, F.other W q⟩
theorem own_Arv.keep {Z : State} {h h' : Heap} {a : Addr} {ws : List Addr} {ty : FieldType} {n : Int32} {vs : List Value} {d : Value} (F : own_Arv Z h a ty n vs d) (K : Keep h h' ws) (q : a ∉ ws) : own_Arv Z h' a ty n vs d := by obtain ⟨k, F⟩ := F; exact ⟨k, F.keep K q⟩
theorem own_plain {Z : State} {h : Heap} {a : Addr} {C : String} (F : Exa Z h a C) : ∃ c : Cell, h[a]? = some c ∧ c.vm.isStatics = false := by obtain ⟨c, k, h1, -, -, h4, -⟩ := F; exact ⟨c, h1, h4⟩
theorem own_sta_keep {Z : State} {h h' : Heap} {ws : List Addr} {C n d : String} {v : Value} (F : Sta Z h C n d v) (K : Keep h h' ws) (q : ∀ x ∈ ws, ∃ c : Cell, h[x]? = some c ∧ c.vm.isStatics = false) : Sta Z h' C n d v := by
  obtain ⟨cf, i, k, f, st, cell, h1, h2, h3, h4, h5, h6, h7⟩ := F
  refine ⟨cf, i, k, f, st, cell, h1, h2, h3, h4, K.2.1 st cell h5 fun hm => ?_, h6, h7⟩
  obtain ⟨c, g1, g2⟩ := q st hm
  cases h5.symm.trans g1
  rw [h6] at g2; cases g2
theorem own_ins_keep {Z : State} {h h' : Heap} {ws : List Addr} {a : Addr} {C : String} {b : Bool} (F : Ins Z h a C b) (K : Keep h h' ws) : Ins Z h' a C b := by
  obtain ⟨cell, cT, h1, h2, h3⟩ := F
  obtain ⟨c', g1, g2, g3, -⟩ := K.2.2 a cell h1
  exact ⟨c', cT, g1, h2, by rw [g2, g3]; exact h3⟩
/-- an array of which the length alone is known -/
def own_Len (Z : State) (h : Heap) (a : Addr) (ty : FieldType) (n : Int32) : Prop := ∃ c : Cell, Arr Z h a c ty ∧ c.slots.size = n.toNatClampNeg ∧ ¬ n < 0
theorem own_Len.lt {Z : State} {h : Heap} {a : Addr} {ty : FieldType} {n : Int32} (F : own_Len Z h a ty n) : a < h.size := by obtain ⟨c, A, -⟩ := F; exact A.lt
theorem own_Len.new {Z : State} {h : Heap} {a : Addr} {k : ClassId} {ty : FieldType} {n : Int32} (A : Arr Z h a (newA k ty n) ty) (q : ¬ n < 0) : own_Len Z h a ty n := ⟨_, A, sz_new _ _ _, q⟩
theorem own_Len.ext {Z : State} {h h' : Heap} {a : Addr} {ty : FieldType} {n : Int32} (F : own_Len Z h a ty n) (E : Ext h h') : own_Len Z h' a ty n := by obtain ⟨c, A, r⟩ := F; exact ⟨c, A.ext E, r⟩
theorem own_Len.other {Z : State} {h h' : Heap} {a b : Addr} {sl : Nat} {v : Value} {ty : FieldType} {n : Int32} (F : own_Len Z h b ty n) (W : Wr h h' a sl v) (q : b ≠ a) : own_Len Z h' b ty n := by obtain ⟨c, A, r⟩ := F; exact ⟨c, A.other W q, r⟩
theorem own_Len.keep {Z : State} {h h' : Heap} {a : Addr} {ws : List Addr} {ty : FieldType} {n : Int32} (F : own_Len Z h a ty n) (K : Keep h h' ws) (q : a ∉ ws) : own_Len Z h' a ty n := by obtain ⟨c, A, r⟩ := F; exact ⟨c, ⟨K.2.1 a c A.1 q, A.2⟩, r⟩
theorem own_unt_keep {h h' : Heap} {a : Addr} {ws : List Addr} (F : Unt h a) (K : Keep h h' ws) (q : a ∉ ws) : Unt h' a := by obtain ⟨c, h1, r⟩ := F; exact ⟨c, K.2.1 a c h1 q, r⟩
theorem own_unt_lt {h : Heap} {a : Addr} (F : Unt h a) : a < h.size := by obtain ⟨c, h1, -⟩ := F; exact (Array.getElem?_eq_some_iff.mp h1).1
/-- an array of references, of known values, its component's class C -/
def own_ArvR (Z : State) (h : Heap) (a : Addr) (C : String) (n : Int32) (vs : List Value) : Prop := ∃ k, Arv Z h a k (.object C) n vs .null ∧ Ovr Z k C
theorem own_ArvR.lt {Z : State} {h : Heap} {a : Addr} {C : String} {n : Int32} {vs : List Value} (F : own_ArvR Z h a C n vs) : a < h.size := by obtain ⟨k, F, -⟩ := F; exact F.lt
theorem own_ArvR.ext {Z : State} {h h' : Heap} {a : Addr} {C : String} {n : Int32} {vs : List Value} (F : own_ArvR Z h a C n vs) (E : Ext h h') : own_ArvR Z h' a C n vs := by obtain ⟨k, F, O⟩ := F; exact ⟨k, F.ext E, O⟩
theorem own_ArvR.other {Z : State} {h h' : Heap} {a b : Addr} {sl : Nat} {v : Value} {C : String} {n : Int32} {vs : List Value} (F : own_ArvR Z h b C n vs) (W : Wr h h' a sl v) (q : b ≠ a) : own_ArvR Z h' b C n vs := by obtain ⟨k, F, O⟩ := F; exact ⟨k, F.other W q, O⟩
theorem own_ArvR.keep {Z : State} {h h' : Heap} {a : Addr} {ws : List Addr} {C : String} {n : Int32} {vs : List Value} (F : own_ArvR Z h a C n vs) (K : Keep h h' ws) (q : a ∉ ws) : own_ArvR Z h' a C n vs := by obtain ⟨k, F, O⟩ := F; exact ⟨k, F.keep K q, O⟩
theorem own_plainB {Z : State} {h : Heap} {a : Addr} {C : String} {n : Int32} {vs : List Value} (F : own_ArvR Z h a C n vs) : ∃ c : Cell, h[a]? = some c ∧ c.vm.isStatics = false := by obtain ⟨k, ⟨c, A, -⟩, -⟩ := F; exact ⟨c, A.1, A.plain⟩
theorem own_plainA {Z : State} {h : Heap} {a : Addr} {ty : FieldType} {n : Int32} {vs : List Value} {d : Value} (F : own_Arv Z h a ty n vs d) : ∃ c : Cell, h[a]? = some c ∧ c.vm.isStatics = false := by obtain ⟨k, c, A, -⟩ := F; exact ⟨c, A.1, A.plain⟩
theorem own_plainL {Z : State} {h : Heap} {a : Addr} {ty : FieldType} {n : Int32} (F : own_Len Z h a ty n) : ∃ c : Cell, h[a]? = some c ∧ c.vm.isStatics = false := by obtain ⟨c, A, -⟩ := F; exact ⟨c, A.1, A.plain⟩
theorem own_neA {Z : State} {h : Heap} {x b : Addr} {C : String} {a0 : Array Value} {m : Nat} {ty : FieldType} {n : Int32} {vs : List Value} {d : Value} (E : Exa Z h x C) (F : own_Arv Z h b ty n vs d) (w : (Jvm.Cond.instantiable C m).before a0 Z = true) : x ≠ b := by obtain ⟨k, c, A, -⟩ := F; exact ne_arr E w A
theorem own_neL {Z : State} {h : Heap} {x b : Addr} {C : String} {a0 : Array Value} {m : Nat} {ty : FieldType} {n : Int32} (E : Exa Z h x C) (F : own_Len Z h b ty n) (w : (Jvm.Cond.instantiable C m).before a0 Z = true) : x ≠ b := by obtain ⟨c, A, -⟩ := F; exact ne_arr E w A
theorem own_neB {Z : State} {h : Heap} {x b : Addr} {C D : String} {a0 : Array Value} {m : Nat} {n : Int32} {vs : List Value} (E : Exa Z h x C) (F : own_ArvR Z h b D n vs) (w : (Jvm.Cond.instantiable C m).before a0 Z = true) : x ≠ b := by obtain ⟨k, ⟨c, A, -⟩, -⟩ := F; exact ne_arr E w A

theorem own_mask (x : Int64) : (x &&& (9223372036854775807 : Int64)).toInt = x.toInt % 2 ^ 63 := Jvm.Kit.i64_mask x 9223372036854775807 (k := 63) (by decide) (by decide)
theorem own_nn (x : Int64) : ¬ (x &&& (9223372036854775807 : Int64)) < (0 : Int64) := by
  have e := own_mask x
  have z : (0 : Int64).toInt = 0 := rfl
  rw [Int64.lt_iff_toInt_lt]; omega
theorem own_or (x y : Int64) : (x ||| y).toInt < 0 ↔ x.toInt < 0 ∨ y.toInt < 0 := by
  have e1 : (x ||| y).toInt = (x.toBitVec ||| y.toBitVec).toInt := rfl
  have e2 : x.toInt = x.toBitVec.toInt := rfl
  have e3 : y.toInt = y.toBitVec.toInt := rfl
  have m : (x.toBitVec ||| y.toBitVec).msb = (x.toBitVec.msb || y.toBitVec.msb) := BitVec.msb_or
  rw [BitVec.msb_eq_toInt, BitVec.msb_eq_toInt, BitVec.msb_eq_toInt] at m
  rw [e1, e2, e3]
  constructor
  · intro h
    have q : (decide (x.toBitVec.toInt < 0) || decide (y.toBitVec.toInt < 0)) = true := m ▸ decide_eq_true h
    simpa only [Bool.or_eq_true, decide_eq_true_eq] using q
  · intro h
    have q : (decide (x.toBitVec.toInt < 0) || decide (y.toBitVec.toInt < 0)) = true := by simpa only [Bool.or_eq_true, decide_eq_true_eq] using h
    exact of_decide_eq_true (m.trans q)
theorem d2_0 : decode jdk_30_method_1_code 0 = .ok (.aload_n 0, 1) := by decide +kernel
theorem d2_1 : decode jdk_30_method_1_code 1 = .ok (.invokespecial 1, 3) := by decide +kernel
theorem d2_4 : decode jdk_30_method_1_code 4 = .ok (.return_, 1) := by decide +kernel
theorem pn_3 : plainName "java/lang/Record" = true := by first | (simp [plainName, overriddenIn]; done) | decide +kernel
theorem ef_rm2 (m : MethodId) (x0 : Addr) : entryFrame m #[(.ref x0)] 1 = mkF m 0 #[.val (.ref x0)] [] := by first | (simp [entryFrame, mkF, argsToLocals, Value.category]; done) | rfl
def Qrm2 (Z : State) (o0 : Addr) (h0 : Heap) (n0 : Nat) (v : Option Value) (h : Heap) (L : List Loc) : Prop := v = none ∧ Fr n0 L ∧ h = h0
set_option maxRecDepth 65536 in
set_option maxHeartbeats 40000000 in
theorem rm2 (l : Launch) (Z : State) (a0 : Array Value) (hw : ∀ d ∈ tables_1, d.before a0 Z = true) (ws : List Jvm.Cond) (o0 : Addr) (h0 : Heap) (n0 : Nat) (Z0 : n0 ≤ h0.size) :
    MetFree l (⟨"java/lang/Record", "<init>", "()V"⟩ : MethodName) (head1 (Jvm.Cond.code (⟨"java/lang/Record", "<init>", "()V"⟩ : MethodName) jdk_30_method_1_code 1 none :: ws) ({ frames := 1, cells := 0, slots := 0, locals := 12 } : Room)) (fun a U => a = #[(.ref o0)] ∧ Z.Warmed39 U.vm ∧ U.heap = h0) (fun _ _ _ _ _ => True) (fun _ U o U' => ∃ v L, o = .returned v ∧ Qrm2 Z o0 h0 n0 v U'.heap L ∧ FrameEnd U o U' L ({ frames := 1, cells := 0, slots := 0, locals := 12 } : Room).cells ({ frames := 1, cells := 0, slots := 0, locals := 12 } : Room).slots) := by
  refine MetFree.of_bodySF (plainFor_of_name pn_3) hisR ?_
  intro p e s m args below meth c s₁ Bd hml0 hP hK
  obtain ⟨rfl, hZ, hh⟩ := hP
  have hx := Bd.exec
  have hby := Bd.bytes
  have hml : c.maxLocals = 1 := hml0
  have hown : s.vm.findClass "java/lang/Record" = some m.cls := findClass_of_methodNamed Bd.named
  have hnm := (name_of_methodNamed Bd.named Bd.method).1
  have X0 : Stand p l e ({ frames := 1, cells := 0, slots := 0, locals := 12 } : Room) s m #[(.ref o0)] below meth c s₁ [] 0 0 := Stand.of_body Bd
  have e0 : s₁.heap = h0 := by rw [← hh, Bd.state]; rfl
  have N0 := Fr.nil n0
  show own_Go p e below s (Qrm2 Z o0 h0 n0) ({ frames := 1, cells := 0, slots := 0, locals := 12 } : Room).cells ({ frames := 1, cells := 0, slots := 0, locals := 12 } : Room).slots (s₁.setTop (entryFrame m #[(.ref o0)] 1))
  rw [ef_rm2 m o0]
  have K0 : Keep h0 h0 [] := Keep.refl h0 []
  refine own_go (S' := s₁.setTop (mkF m 1 #[.val (.ref o0)] [(.ref o0)])) (fun t k => ?_) ?_
  · show Steps p.tables e below (s₁.setTop (mkF m 0 #[.val (.ref o0)] [])) t
    refine XS.aloadN X0.here hx rfl (hb hby d2_0) rfl rfl ?_
    exact k
  obtain ⟨T1, X1, e1, st1⟩ := initO X0 hx hZ hown (hw _ (List.mem_of_getElem? (i := 12) rfl)) (hw _ (List.mem_of_getElem? (i := 13) rfl)) (hw _ (List.mem_of_getElem? (i := 14) rfl)) e0 (g := (mkF m 1 #[.val (.ref o0)] [(.ref o0)])) rfl (by rw [hml]; rfl) rfl (hb hby d2_1) (by decide) (W := 0) (by show 2 * 0 + _ ≤ _; exact Nat.le_of_eq rfl) (by decide)
  refine own_go st1 ?_
  obtain ⟨fs, hr, hrun, hended, hW, hsame⟩ := X1.leave (v := none) (fun _ => rfl)
  refine own_end (v := none) ?_ hrun hended ?_ hW (hsame.mono (by decide) (by decide))
  · show Steps p.tables e below (T1.setTop (mkF m 4 #[.val (.ref o0)] [])) _
    exact X1.returnOut hx Bd.returns (hb hby d2_4) hr
  · show Qrm2 Z o0 h0 n0 _ T1.heap _
    rw [e1]
    exact ⟨rfl, N0, rfl⟩
theorem d1_0 : decode prog_51_method_1_code 0 = .ok (.aload_n 0, 1) := by decide +kernel
theorem d1_1 : decode prog_51_method_1_code 1 = .ok (.invokespecial 1, 3) := by decide +kernel
theorem pd_6 : parseMethodDescriptor "()V" = some ⟨[], none⟩ := by decide +kernel
theorem d1_4 : decode prog_51_method_1_code 4 = .ok (.lload_n 1, 1) := by decide +kernel
theorem d1_5 : decode prog_51_method_1_code 5 = .ok (.lconst 0, 1) := by decide +kernel
theorem d1_6 : decode prog_51_method_1_code 6 = .ok (.lcmp, 1) := by decide +kernel
theorem d1_7 : decode prog_51_method_1_code 7 = .ok (.ifCond .lt 9, 3) := by decide +kernel
theorem d1_10 : decode prog_51_method_1_code 10 = .ok (.lload_n 3, 1) := by decide +kernel
theorem d1_11 : decode prog_51_method_1_code 11 = .ok (.lconst 0, 1) := by decide +kernel
theorem d1_12 : decode prog_51_method_1_code 12 = .ok (.lcmp, 1) := by decide +kernel
theorem d1_13 : decode prog_51_method_1_code 13 = .ok (.ifCond .ge 18, 3) := by decide +kernel
theorem d1_31 : decode prog_51_method_1_code 31 = .ok (.aload_n 0, 1) := by decide +kernel
theorem d1_32 : decode prog_51_method_1_code 32 = .ok (.lload_n 1, 1) := by decide +kernel
theorem d1_33 : decode prog_51_method_1_code 33 = .ok (.putfield 16, 3) := by decide +kernel
theorem d1_36 : decode prog_51_method_1_code 36 = .ok (.aload_n 0, 1) := by decide +kernel
theorem d1_37 : decode prog_51_method_1_code 37 = .ok (.lload_n 3, 1) := by decide +kernel
theorem d1_38 : decode prog_51_method_1_code 38 = .ok (.putfield 22, 3) := by decide +kernel
theorem d1_41 : decode prog_51_method_1_code 41 = .ok (.return_, 1) := by decide +kernel
theorem pn_22 : plainName "com/example/tollgate/tollgate/tariff/Quantities" = true := by first | (simp [plainName, overriddenIn]; done) | decide +kernel
theorem ef_rm1 (m : MethodId) (x0 : Addr) (x1 : Int64) (x2 : Int64) : entryFrame m #[(.ref x0), (.long x1), (.long x2)] 5 = mkF m 0 #[.val (.ref x0), .val (.long x1), .second, .val (.long x2), .second] [] := by first | (simp [entryFrame, mkF, argsToLocals, Value.category]; done) | rfl
def Qrm1 (Z : State) (o0 : Addr) (q1 : Int64) (q2 : Int64) (w_o0_primary : Int64) (w_o0_secondary : Int64) (h0 : Heap) (n0 : Nat) (v : Option Value) (h : Heap) (L : List Loc) : Prop := v = none ∧ Fr n0 L ∧ Keep h0 h [o0] ∧ Exa Z h o0 "com/example/tollgate/tollgate/tariff/Quantities" ∧ Fld Z h o0 "com/example/tollgate/tollgate/tariff/Quantities" "primary" "J" (.long q1) ∧ Fld Z h o0 "com/example/tollgate/tollgate/tariff/Quantities" "secondary" "J" (.long q2)
set_option maxRecDepth 65536 in
set_option maxHeartbeats 40000000 in
theorem rm1 (l : Launch) (Z : State) (a0 : Array Value) (hw : ∀ d ∈ tables_1, d.before a0 Z = true) (ws : List Jvm.Cond) (o0 : Addr) (q1 : Int64) (q2 : Int64) (w_o0_primary : Int64) (w_o0_secondary : Int64) (h0 : Heap) (n0 : Nat) (Z0 : n0 ≤ h0.size) (hc7 : ¬ (q1 < (0 : Int64))) (hc13 : ¬ (q2 < (0 : Int64))) (E_o0 : Exa Z h0 o0 "com/example/tollgate/tollgate/tariff/Quantities") (F_o0_primary : Fld Z h0 o0 "com/example/tollgate/tollgate/tariff/Quantities" "primary" "J" (.long w_o0_primary)) (F_o0_secondary : Fld Z h0 o0 "com/example/tollgate/tollgate/tariff/Quantities" "secondary" "J" (.long w_o0_secondary)) (g_o0 : n0 ≤ o0) :
    MetFree l (⟨"com/example/tollgate/tollgate/tariff/Quantities", "<init>", "(JJ)V"⟩ : MethodName) (head1 (Jvm.Cond.code (⟨"com/example/tollgate/tollgate/tariff/Quantities", "<init>", "(JJ)V"⟩ : MethodName) prog_51_method_1_code 5 none :: ws) ({ frames := 2, cells := 0, slots := 0, locals := 24 } : Room)) (fun a U => a = #[(.ref o0), (.long q1), (.long q2)] ∧ Z.Warmed39 U.vm ∧ U.heap = h0) (fun _ _ _ _ _ => True) (fun _ U o U' => ∃ v L, o = .returned v ∧ Qrm1 Z o0 q1 q2 w_o0_primary w_o0_secondary h0 n0 v U'.heap L ∧ FrameEnd U o U' L ({ frames := 2, cells := 0, slots := 0, locals := 24 } : Room).cells ({ frames := 2, cells := 0, slots := 0, locals := 24 } : Room).slots) := by
  refine MetFree.of_bodySF (plainFor_of_name pn_22) hisR ?_
  intro p e s m args below meth c s₁ Bd hml0 hP hK
  obtain ⟨rfl, hZ, hh⟩ := hP
  have hx := Bd.exec
  have hby := Bd.bytes
  have hml : c.maxLocals = 5 := hml0
  have hown : s.vm.findClass "com/example/tollgate/tollgate/tariff/Quantities" = some m.cls := findClass_of_methodNamed Bd.named
  have hnm := (name_of_methodNamed Bd.named Bd.method).1
  have X0 : Stand p l e ({ frames := 2, cells := 0, slots := 0, locals := 24 } : Room) s m #[(.ref o0), (.long q1), (.long q2)] below meth c s₁ [] 0 0 := Stand.of_body Bd
  have e0 : s₁.heap = h0 := by rw [← hh, Bd.state]; rfl
  have N0 := Fr.nil n0
  show own_Go p e below s (Qrm1 Z o0 q1 q2 w_o0_primary w_o0_secondary h0 n0) ({ frames := 2, cells := 0, slots := 0, locals := 24 } : Room).cells ({ frames := 2, cells := 0, slots := 0, locals := 24 } : Room).slots (s₁.setTop (entryFrame m #[(.ref o0), (.long q1), (.long q2)] 5))
  rw [ef_rm1 m o0 q1 q2]
  have K0 : Keep h0 h0 [o0] := Keep.refl h0 [o0]
  refine own_go (S' := s₁.setTop (mkF m 1 #[.val (.ref o0), .val (.long q1), .second, .val (.long q2), .second] [(.ref o0)])) (fun t k => ?_) ?_
  · show Steps p.tables e below (s₁.setTop (mkF m 0 #[.val (.ref o0), .val (.long q1), .second, .val (.long q2), .second] [])) t
    refine XS.aloadN X0.here hx rfl (hb hby d1_0) rfl rfl ?_
    exact k
  obtain ⟨_, _, ⟨T2, L2, kk2, nn2⟩, -, X2, ⟨Lc2, hQ2, l2, y2, z2⟩, st2⟩ := X0.specialBack hx (y := (⟨"java/lang/Record", "<init>", "()V"⟩ : MethodName)) rfl hown (mvT hZ (hw _ (List.mem_of_getElem? (i := 7) rfl))) (mvT hZ (hw _ (List.mem_of_getElem? (i := 8) rfl))) (mvT hZ (hw _ (List.mem_of_getElem? (i := 11) rfl))) (by decide) (backOf (W := 0) (rm2 l Z a0 hw [] o0 h0 n0 Z0 ) hZ (hw _ (List.mem_of_getElem? (i := 11) rfl)) (hw _ (List.mem_of_getElem? (i := 10) rfl)) (by decide) (by decide)) (g := (mkF m 1 #[.val (.ref o0), .val (.long q1), .second, .val (.long q2), .second] [(.ref o0)])) rfl (by rw [hml]; rfl) (Steps.refl _) (a := o0) (argsL := []) (rest := []) (lenOf pd_6 rfl) rfl (by show 2 * 0 + _ ≤ _; exact Nat.le_of_eq rfl) (hb hby d1_1) (fun _ _ => ⟨rfl, e0, (by decide : 0 + 0 ≤ _), (by decide : 0 + 0 ≤ _)⟩)
  dsimp only [Pt.U, Pt.locs, Pt.cells, Pt.slots] at X2 l2 y2 z2 st2 hQ2
  subst l2 y2 z2
  obtain ⟨rfl, N3, e2⟩ := hQ2
  have N5 := Fr.app N0 N3
  refine own_goT st2 ?_
  refine own_go (S' := T2.setTop (mkF m 33 #[.val (.ref o0), .val (.long q1), .second, .val (.long q2), .second] [(.long q1), (.ref o0)])) (fun t k => ?_) ?_
  · show Steps p.tables e below (T2.setTop (mkF m 4 #[.val (.ref o0), .val (.long q1), .second, .val (.long q2), .second] [])) t
    refine XS.lloadN X2.here hx rfl (hb hby d1_4) rfl ?_
    show Steps p.tables e below (T2.setTop (mkF m 5 #[.val (.ref o0), .val (.long q1), .second, .val (.long q2), .second] [(.long q1)])) t
    refine XS.lconst X2.here hx rfl (hb hby d1_5) ?_
    show Steps p.tables e below (T2.setTop (mkF m 6 #[.val (.ref o0), .val (.long q1), .second, .val (.long q2), .second] [(.long (0 : Int64)), (.long q1)])) t
    refine XS.lcmp X2.here hx rfl (hb hby d1_6) rfl ?_
    show Steps p.tables e below (T2.setTop (mkF m 7 #[.val (.ref o0), .val (.long q1), .second, .val (.long q2), .second] [(.int (Jvm.Free.XT.cmpL q1 (0 : Int64)))])) t
    refine XS.ifNo X2.here hx rfl (hb hby d1_7) rfl (Jvm.Free.XT.ll_lt_f hc7) ?_
    show Steps p.tables e below (T2.setTop (mkF m 10 #[.val (.ref o0), .val (.long q1), .second, .val (.long q2), .second] [])) t
    refine XS.lloadN X2.here hx rfl (hb hby d1_10) rfl ?_
    show Steps p.tables e below (T2.setTop (mkF m 11 #[.val (.ref o0), .val (.long q1), .second, .val (.long q2), .second] [(.long q2)])) t
    refine XS.lconst X2.here hx rfl (hb hby d1_11) ?_
    show Steps p.tables e below (T2.setTop (mkF m 12 #[.val (.ref o0), .val (.long q1), .second, .val (.long q2), .second] [(.long (0 : Int64)), (.long q2)])) t
    refine XS.lcmp X2.here hx rfl (hb hby d1_12) rfl ?_
    show Steps p.tables e below (T2.setTop (mkF m 13 #[.val (.ref o0), .val (.long q1), .second, .val (.long q2), .second] [(.int (Jvm.Free.XT.cmpL q2 (0 : Int64)))])) t
    refine XS.ifYes X2.here hx rfl (pc0 := 13) (pc' := 31) rfl (hb hby d1_13) rfl (Jvm.Free.XT.ll_ge_t hc13) (by decide) (by decide) ?_
    show Steps p.tables e below (T2.setTop (mkF m 31 #[.val (.ref o0), .val (.long q1), .second, .val (.long q2), .second] [])) t
    refine XS.aloadN X2.here hx rfl (hb hby d1_31) rfl rfl ?_
    show Steps p.tables e below (T2.setTop (mkF m 32 #[.val (.ref o0), .val (.long q1), .second, .val (.long q2), .second] [(.ref o0)])) t
    refine XS.lloadN X2.here hx rfl (hb hby d1_32) rfl ?_
    exact k
  obtain ⟨T6, h6, X6, e6, W6, st6⟩ := putF X2 hx hZ hown (host := "") (Or.inl (hw _ (List.mem_of_getElem? (i := 15) rfl))) Via.refl e2 F_o0_primary E_o0 (Or.inr ⟨(hw _ (List.mem_of_getElem? (i := 16) rfl)), rfl, hnm⟩) (hw _ (List.mem_of_getElem? (i := 2) rfl)) (ty := .long) (by decide) rfl rfl (g := (mkF m 33 #[.val (.ref o0), .val (.long q1), .second, .val (.long q2), .second] [(.long q1), (.ref o0)])) rfl rfl (hb hby d1_33)
  have f7 : Exa Z h6 o0 "com/example/tollgate/tollgate/tariff/Quantities" := E_o0.wr W6
  have f8 : Fld Z h6 o0 "com/example/tollgate/tollgate/tariff/Quantities" "secondary" "J" (.long w_o0_secondary) := F_o0_secondary.other W6 (Or.inr (slot_ne (Or.inr (hw _ (List.mem_of_getElem? (i := 18) rfl))) (Or.inr (hw _ (List.mem_of_getElem? (i := 16) rfl))) (by decide) (t := .long) (t' := .long) (by decide) (by decide)))
  have f9 : Fld Z h6 o0 "com/example/tollgate/tollgate/tariff/Quantities" "primary" "J" (.long q1) := F_o0_primary.same W6
  have N10 := Fr.snoc X6 N5 g_o0
  have Z11 : n0 ≤ h6.size := Nat.le_trans Z0 (Keep.of_wr W6).1
  have K12 : Keep h0 h6 [o0] := K0.wr W6 (Or.inl (List.mem_of_getElem? (i := 0) rfl))
  refine own_go st6 ?_
  refine own_go (S' := T6.setTop (mkF m 38 #[.val (.ref o0), .val (.long q1), .second, .val (.long q2), .second] [(.long q2), (.ref o0)])) (fun t k => ?_) ?_
  · show Steps p.tables e below (T6.setTop (mkF m 36 #[.val (.ref o0), .val (.long q1), .second, .val (.long q2), .second] [])) t
    refine XS.aloadN X6.here hx rfl (hb hby d1_36) rfl rfl ?_
    show Steps p.tables e below (T6.setTop (mkF m 37 #[.val (.ref o0), .val (.long q1), .second, .val (.long q2), .second] [(.ref o0)])) t
    refine XS.lloadN X6.here hx rfl (hb hby d1_37) rfl ?_
    exact k
  obtain ⟨T13, h13, X13, e13, W13, st13⟩ := putF X6 hx hZ hown (host := "") (Or.inl (hw _ (List.mem_of_getElem? (i := 17) rfl))) Via.refl e6 f8 f7 (Or.inr ⟨(hw _ (List.mem_of_getElem? (i := 18) rfl)), rfl, hnm⟩) (hw _ (List.mem_of_getElem? (i := 2) rfl)) (ty := .long) (by decide) rfl rfl (g := (mkF m 38 #[.val (.ref o0), .val (.long q1), .second, .val (.long q2), .second] [(.long q2), (.ref o0)])) rfl rfl (hb hby d1_38)
  have f14 : Exa Z h13 o0 "com/example/tollgate/tollgate/tariff/Quantities" := f7.wr W13
  have f15 : Fld Z h13 o0 "com/example/tollgate/tollgate/tariff/Quantities" "primary" "J" (.long q1) := f9.other W13 (Or.inr (slot_ne (Or.inr (hw _ (List.mem_of_getElem? (i := 16) rfl))) (Or.inr (hw _ (List.mem_of_getElem? (i := 18) rfl))) (by decide) (t := .long) (t' := .long) (by decide) (by decide)))
  have f16 : Fld Z h13 o0 "com/example/tollgate/tollgate/tariff/Quantities" "secondary" "J" (.long q2) := f8.same W13
  have N17 := Fr.snoc X13 N10 g_o0
  have Z18 : n0 ≤ h13.size := Nat.le_trans Z11 (Keep.of_wr W13).1
  have K19 : Keep h0 h13 [o0] := K12.wr W13 (Or.inl (List.mem_of_getElem? (i := 0) rfl))
  refine own_go st13 ?_
  obtain ⟨fs, hr, hrun, hended, hW, hsame⟩ := X13.leave (v := none) (fun _ => rfl)
  refine own_end (v := none) ?_ hrun hended ?_ hW (hsame.mono (by decide) (by decide))
  · show Steps p.tables e below (T13.setTop (mkF m 41 #[.val (.ref o0), .val (.long q1), .second, .val (.long q2), .second] [])) _
    exact X13.returnOut hx Bd.returns (hb hby d1_41) hr
  · show Qrm1 Z o0 q1 q2 w_o0_primary w_o0_secondary h0 n0 _ T13.heap _
    rw [e13]
    exact ⟨rfl, N17, K19, f14, f15, f16⟩
theorem d4_0 : decode prog_51_method_7_code 0 = .ok (.aload_n 0, 1) := by decide +kernel
theorem d4_1 : decode prog_51_method_7_code 1 = .ok (.getfield 16, 3) := by decide +kernel
theorem d4_4 : decode prog_51_method_7_code 4 = .ok (.aload_n 1, 1) := by decide +kernel
theorem d4_5 : decode prog_51_method_7_code 5 = .ok (.getfield 16, 3) := by decide +kernel
theorem d4_8 : decode prog_51_method_7_code 8 = .ok (.lcmp, 1) := by decide +kernel
theorem d4_9 : decode prog_51_method_7_code 9 = .ok (.ifCond .gt 19, 3) := by decide +kernel
theorem d4_28 : decode prog_51_method_7_code 28 = .ok (.iconst 0, 1) := by decide +kernel
theorem d4_29 : decode prog_51_method_7_code 29 = .ok (.ireturn, 1) := by decide +kernel
theorem d4_12 : decode prog_51_method_7_code 12 = .ok (.aload_n 0, 1) := by decide +kernel
theorem d4_13 : decode prog_51_method_7_code 13 = .ok (.getfield 22, 3) := by decide +kernel
theorem d4_16 : decode prog_51_method_7_code 16 = .ok (.aload_n 1, 1) := by decide +kernel
theorem d4_17 : decode prog_51_method_7_code 17 = .ok (.getfield 22, 3) := by decide +kernel
theorem d4_20 : decode prog_51_method_7_code 20 = .ok (.lcmp, 1) := by decide +kernel
theorem d4_21 : decode prog_51_method_7_code 21 = .ok (.ifCond .gt 7, 3) := by decide +kernel
theorem d4_24 : decode prog_51_method_7_code 24 = .ok (.iconst 1, 1) := by decide +kernel
theorem d4_25 : decode prog_51_method_7_code 25 = .ok (.goto 4, 3) := by decide +kernel
theorem ef_rm4 (m : MethodId) (x0 : Addr) (x1 : Addr) : entryFrame m #[(.ref x0), (.ref x1)] 2 = mkF m 0 #[.val (.ref x0), .val (.ref x1)] [] := by first | (simp [entryFrame, mkF, argsToLocals, Value.category]; done) | rfl
def rm4_r (w_o0_primary : Int64) (w_o1_primary : Int64) (w_o0_secondary : Int64) (w_o1_secondary : Int64) : Int32 := (if w_o1_primary < w_o0_primary then (0 : Int32) else (if w_o1_secondary < w_o0_secondary then (0 : Int32) else (1 : Int32)))
def Qrm4 (Z : State) (o0 : Addr) (o1 : Addr) (w_o0_primary : Int64) (w_o1_primary : Int64) (w_o0_secondary : Int64) (w_o1_secondary : Int64) (h0 : Heap) (n0 : Nat) (v : Option Value) (h : Heap) (L : List Loc) : Prop := v = some (.int (rm4_r w_o0_primary w_o1_primary w_o0_secondary w_o1_secondary)) ∧ Fr n0 L ∧ h = h0
set_option maxRecDepth 65536 in
set_option maxHeartbeats 40000000 in
theorem rm4 (l : Launch) (Z : State) (a0 : Array Value) (hw : ∀ d ∈ tables_1, d.before a0 Z = true) (ws : List Jvm.Cond) (o0 : Addr) (o1 : Addr) (w_o0_primary : Int64) (w_o1_primary : Int64) (w_o0_secondary : Int64) (w_o1_secondary : Int64) (h0 : Heap) (n0 : Nat) (Z0 : n0 ≤ h0.size) (F_o0_primary : Fld Z h0 o0 "com/example/tollgate/tollgate/tariff/Quantities" "primary" "J" (.long w_o0_primary)) (F_o1_primary : Fld Z h0 o1 "com/example/tollgate/tollgate/tariff/Quantities" "primary" "J" (.long w_o1_primary)) (F_o0_secondary : Fld Z h0 o0 "com/example/tollgate/tollgate/tariff/Quantities" "secondary" "J" (.long w_o0_secondary)) (F_o1_secondary : Fld Z h0 o1 "com/example/tollgate/tollgate/tariff/Quantities" "secondary" "J" (.long w_o1_secondary)) :
    MetFree l (⟨"com/example/tollgate/tollgate/tariff/Quantities", "isAtMost", "(Lcom/example/tollgate/tollgate/tariff/Quantities;)Z"⟩ : MethodName) (head1 (Jvm.Cond.code (⟨"com/example/tollgate/tollgate/tariff/Quantities", "isAtMost", "(Lcom/example/tollgate/tollgate/tariff/Quantities;)Z"⟩ : MethodName) prog_51_method_7_code 2 (some .boolean) :: ws) ({ frames := 0, cells := 0, slots := 0, locals := 0 } : Room)) (fun a U => a = #[(.ref o0), (.ref o1)] ∧ Z.Warmed39 U.vm ∧ U.heap = h0) (fun _ _ _ _ _ => True) (fun _ U o U' => ∃ v L, o = .returned v ∧ Qrm4 Z o0 o1 w_o0_primary w_o1_primary w_o0_secondary w_o1_secondary h0 n0 v U'.heap L ∧ FrameEnd U o U' L ({ frames := 0, cells := 0, slots := 0, locals := 0 } : Room).cells ({ frames := 0, cells := 0, slots := 0, locals := 0 } : Room).slots) := by
  refine MetFree.of_bodySF (plainFor_of_name pn_22) hisR ?_
  intro p e s m args below meth c s₁ Bd hml0 hP hK
  obtain ⟨rfl, hZ, hh⟩ := hP
  have hx := Bd.exec
  have hby := Bd.bytes
  have hml : c.maxLocals = 2 := hml0
  have hown : s.vm.findClass "com/example/tollgate/tollgate/tariff/Quantities" = some m.cls := findClass_of_methodNamed Bd.named
  have hnm := (name_of_methodNamed Bd.named Bd.method).1
  have X0 : Stand p l e ({ frames := 0, cells := 0, slots := 0, locals := 0 } : Room) s m #[(.ref o0), (.ref o1)] below meth c s₁ [] 0 0 := Stand.of_body Bd
  have e0 : s₁.heap = h0 := by rw [← hh, Bd.state]; rfl
  have N0 := Fr.nil n0
  show own_Go p e below s (Qrm4 Z o0 o1 w_o0_primary w_o1_primary w_o0_secondary w_o1_secondary h0 n0) ({ frames := 0, cells := 0, slots := 0, locals := 0 } : Room).cells ({ frames := 0, cells := 0, slots := 0, locals := 0 } : Room).slots (s₁.setTop (entryFrame m #[(.ref o0), (.ref o1)] 2))
  rw [ef_rm4 m o0 o1]
  have K0 : Keep h0 h0 [] := Keep.refl h0 []
  refine own_go (S' := s₁.setTop (mkF m 1 #[.val (.ref o0), .val (.ref o1)] [(.ref o0)])) (fun t k => ?_) ?_
  · show Steps p.tables e below (s₁.setTop (mkF m 0 #[.val (.ref o0), .val (.ref o1)] [])) t
    refine XS.aloadN X0.here hx rfl (hb hby d4_0) rfl rfl ?_
    exact k
  obtain ⟨T20, X20, e20, st20⟩ := getF X0 hx hZ hown (host := "") (Or.inl (hw _ (List.mem_of_getElem? (i := 15) rfl))) Via.refl e0 F_o0_primary (g := (mkF m 1 #[.val (.ref o0), .val (.ref o1)] [(.ref o0)])) rfl rfl (hb hby d4_1)
  refine own_go st20 ?_
  refine own_go (S' := T20.setTop (mkF m 5 #[.val (.ref o0), .val (.ref o1)] [(.ref o1), (.long w_o0_primary)])) (fun t k => ?_) ?_
  · show Steps p.tables e below (T20.setTop (mkF m 4 #[.val (.ref o0), .val (.ref o1)] [(.long w_o0_primary)])) t
    refine XS.aloadN X20.here hx rfl (hb hby d4_4) rfl rfl ?_
    exact k
  obtain ⟨T21, X21, e21, st21⟩ := getF X20 hx hZ hown (host := "") (Or.inl (hw _ (List.mem_of_getElem? (i := 15) rfl))) Via.refl e20 F_o1_primary (g := (mkF m 5 #[.val (.ref o0), .val (.ref o1)] [(.ref o1), (.long w_o0_primary)])) rfl rfl (hb hby d4_5)
  refine own_go st21 ?_
  refine own_go (S' := T21.setTop (mkF m 9 #[.val (.ref o0), .val (.ref o1)] [(.int (Jvm.Free.XT.cmpL w_o0_primary w_o1_primary))])) (fun t k => ?_) ?_
  · show Steps p.tables e below (T21.setTop (mkF m 8 #[.val (.ref o0), .val (.ref o1)] [(.long w_o1_primary), (.long w_o0_primary)])) t
    refine XS.lcmp X21.here hx rfl (hb hby d4_8) rfl ?_
    exact k
  by_cases hc9 : w_o1_primary < w_o0_primary
  · skip
    refine own_go (S' := T21.setTop (mkF m 29 #[.val (.ref o0), .val (.ref o1)] [(.int (0 : Int32))])) (fun t k => ?_) ?_
    · show Steps p.tables e below (T21.setTop (mkF m 9 #[.val (.ref o0), .val (.ref o1)] [(.int (Jvm.Free.XT.cmpL w_o0_primary w_o1_primary))])) t
      refine XS.ifYes X21.here hx rfl (pc0 := 9) (pc' := 28) rfl (hb hby d4_9) rfl (Jvm.Free.XT.ll_gt_t hc9) (by decide) (by decide) ?_
      show Steps p.tables e below (T21.setTop (mkF m 28 #[.val (.ref o0), .val (.ref o1)] [])) t
      refine XS.iconst X21.here hx rfl (hb hby d4_28) ?_
      exact k
    obtain ⟨fs, hr, hrun, hended, hW, hsame⟩ := X21.leave (v := some (.int (0 : Int32))) (fun h => by rw [Bd.returns] at h; cases h)
    refine own_end (v := some (.int (0 : Int32))) ?_ hrun hended ?_ hW (hsame.mono (by decide) (by decide))
    · show Steps p.tables e below (T21.setTop (mkF m 29 #[.val (.ref o0), .val (.ref o1)] [(.int (0 : Int32))])) _
      exact retN X21 hx (t := .boolean) Bd.returns (by simp) (hb hby d4_29) hr
    · show Qrm4 Z o0 o1 w_o0_primary w_o1_primary w_o0_secondary w_o1_secondary h0 n0 _ T21.heap _
      rw [e21]
      exact ⟨(by simp only [rm4_r, if_pos hc9]), N0, rfl⟩
  · skip
    refine own_go (S' := T21.setTop (mkF m 13 #[.val (.ref o0), .val (.ref o1)] [(.ref o0)])) (fun t k => ?_) ?_
    · show Steps p.tables e below (T21.setTop (mkF m 9 #[.val (.ref o0), .val (.ref o1)] [(.int (Jvm.Free.XT.cmpL w_o0_primary w_o1_primary))])) t
      refine XS.ifNo X21.here hx rfl (hb hby d4_9) rfl (Jvm.Free.XT.ll_gt_f hc9) ?_
      show Steps p.tables e below (T21.setTop (mkF m 12 #[.val (.ref o0), .val (.ref o1)] [])) t
      refine XS.aloadN X21.here hx rfl (hb hby d4_12) rfl rfl ?_
      exact k
    obtain ⟨T22, X22, e22, st22⟩ := getF X21 hx hZ hown (host := "") (Or.inl (hw _ (List.mem_of_getElem? (i := 17) rfl))) Via.refl e21 F_o0_secondary (g := (mkF m 13 #[.val (.ref o0), .val (.ref o1)] [(.ref o0)])) rfl rfl (hb hby d4_13)
    refine own_go st22 ?_
    refine own_go (S' := T22.setTop (mkF m 17 #[.val (.ref o0), .val (.ref o1)] [(.ref o1), (.long w_o0_secondary)])) (fun t k => ?_) ?_
    · show Steps p.tables e below (T22.setTop (mkF m 16 #[.val (.ref o0), .val (.ref o1)] [(.long w_o0_secondary)])) t
      refine XS.aloadN X22.here hx rfl (hb hby d4_16) rfl rfl ?_
      exact k
    obtain ⟨T23, X23, e23, st23⟩ := getF X22 hx hZ hown (host := "") (Or.inl (hw _ (List.mem_of_getElem? (i := 17) rfl))) Via.refl e22 F_o1_secondary (g := (mkF m 17 #[.val (.ref o0), .val (.ref o1)] [(.ref o1), (.long w_o0_secondary)])) rfl rfl (hb hby d4_17)
    refine own_go st23 ?_
    refine own_go (S' := T23.setTop (mkF m 21 #[.val (.ref o0), .val (.ref o1)] [(.int (Jvm.Free.XT.cmpL w_o0_secondary w_o1_secondary))])) (fun t k => ?_) ?_
    · show Steps p.tables e below (T23.setTop (mkF m 20 #[.val (.ref o0), .val (.ref o1)] [(.long w_o1_secondary), (.long w_o0_secondary)])) t
      refine XS.lcmp X23.here hx rfl (hb hby d4_20) rfl ?_
      exact k
    by_cases hc21 : w_o1_secondary < w_o0_secondary
    · skip
      refine own_go (S' := T23.setTop (mkF m 29 #[.val (.ref o0), .val (.ref o1)] [(.int (0 : Int32))])) (fun t k => ?_) ?_
      · show Steps p.tables e below (T23.setTop (mkF m 21 #[.val (.ref o0), .val (.ref o1)] [(.int (Jvm.Free.XT.cmpL w_o0_secondary w_o1_secondary))])) t
        refine XS.ifYes X23.here hx rfl (pc0 := 21) (pc' := 28) rfl (hb hby d4_21) rfl (Jvm.Free.XT.ll_gt_t hc21) (by decide) (by decide) ?_
        show Steps p.tables e below (T23.setTop (mkF m 28 #[.val (.ref o0), .val (.ref o1)] [])) t
        refine XS.iconst X23.here hx rfl (hb hby d4_28) ?_
        exact k
      obtain ⟨fs, hr, hrun, hended, hW, hsame⟩ := X23.leave (v := some (.int (0 : Int32))) (fun h => by rw [Bd.returns] at h; cases h)
      refine own_end (v := some (.int (0 : Int32))) ?_ hrun hended ?_ hW (hsame.mono (by decide) (by decide))
      · show Steps p.tables e below (T23.setTop (mkF m 29 #[.val (.ref o0), .val (.ref o1)] [(.int (0 : Int32))])) _
        exact retN X23 hx (t := .boolean) Bd.returns (by simp) (hb hby d4_29) hr
      · show Qrm4 Z o0 o1 w_o0_primary w_o1_primary w_o0_secondary w_o1_secondary h0 n0 _ T23.heap _
        rw [e23]
        exact ⟨(by simp only [rm4_r, if_neg hc9, if_pos hc21]), N0, rfl⟩
    · skip
      refine own_go (S' := T23.setTop (mkF m 29 #[.val (.ref o0), .val (.ref o1)] [(.int (1 : Int32))])) (fun t k => ?_) ?_
      · show Steps p.tables e below (T23.setTop (mkF m 21 #[.val (.ref o0), .val (.ref o1)] [(.int (Jvm.Free.XT.cmpL w_o0_secondary w_o1_secondary))])) t
        refine XS.ifNo X23.here hx rfl (hb hby d4_21) rfl (Jvm.Free.XT.ll_gt_f hc21) ?_
        show Steps p.tables e below (T23.setTop (mkF m 24 #[.val (.ref o0), .val (.ref o1)] [])) t
        refine XS.iconst X23.here hx rfl (hb hby d4_24) ?_
        show Steps p.tables e below (T23.setTop (mkF m 25 #[.val (.ref o0), .val (.ref o1)] [(.int (1 : Int32))])) t
        refine XS.goto X23.here hx rfl (pc0 := 25) (pc' := 29) rfl (hb hby d4_25) (by decide) (by decide) ?_
        exact k
      obtain ⟨fs, hr, hrun, hended, hW, hsame⟩ := X23.leave (v := some (.int (1 : Int32))) (fun h => by rw [Bd.returns] at h; cases h)
      refine own_end (v := some (.int (1 : Int32))) ?_ hrun hended ?_ hW (hsame.mono (by decide) (by decide))
      · show Steps p.tables e below (T23.setTop (mkF m 29 #[.val (.ref o0), .val (.ref o1)] [(.int (1 : Int32))])) _
        exact retN X23 hx (t := .boolean) Bd.returns (by simp) (hb hby d4_29) hr
      · show Qrm4 Z o0 o1 w_o0_primary w_o1_primary w_o0_secondary w_o1_secondary h0 n0 _ T23.heap _
        rw [e23]
        exact ⟨(by simp only [rm4_r, if_neg hc9, if_neg hc21]), N0, rfl⟩
theorem own_fin (q0 q1 q2 q3 : Int64) : (if (rm4_r (q0 &&& (9223372036854775807 : Int64)) (q2 &&& (9223372036854775807 : Int64)) (q1 &&& (9223372036854775807 : Int64)) (q3 &&& (9223372036854775807 : Int64))) = (if (((q2 &&& (9223372036854775807 : Int64)) - (q0 &&& (9223372036854775807 : Int64))) ||| ((q3 &&& (9223372036854775807 : Int64)) - (q1 &&& (9223372036854775807 : Int64)))) < (0 : Int64) then (0 : Int32) else (1 : Int32)) then (1 : Int32) else (0 : Int32)) = (1 : Int32) := by
  have m0 := own_mask q0
  have m1 := own_mask q1
  have m2 := own_mask q2
  have m3 := own_mask q3
  generalize q0 &&& (9223372036854775807 : Int64) = a at *
  generalize q1 &&& (9223372036854775807 : Int64) = b at *
  generalize q2 &&& (9223372036854775807 : Int64) = c at *
  generalize q3 &&& (9223372036854775807 : Int64) = d at *
  have s1 : (c - a).toInt = c.toInt - a.toInt := Jvm.Kit.i64_sub (by omega) (by omega)
  have s2 : (d - b).toInt = d.toInt - b.toInt := Jvm.Kit.i64_sub (by omega) (by omega)
  have o := own_or (c - a) (d - b)
  have z : (0 : Int64).toInt = 0 := rfl
  unfold rm4_r
  simp only [Int64.lt_iff_toInt_lt, z, o, s1, s2]
  by_cases h1 : c.toInt < a.toInt
  · have h3 : c.toInt - a.toInt < 0 := by omega
    simp [h1, h3]
  · have h3 : ¬ c.toInt - a.toInt < 0 := by omega
    by_cases h2 : d.toInt < b.toInt
    · have h4 : d.toInt - b.toInt < 0 := by omega
      simp [h1, h2, h3, h4]
    · have h4 : ¬ d.toInt - b.toInt < 0 := by omega
      simp [h1, h2, h3, h4]
theorem pd_39 : parseMethodDescriptor "(JJ)V" = some ⟨[.long, .long], none⟩ := by decide +kernel
theorem pd_40 : parseMethodDescriptor "(Lcom/example/tollgate/tollgate/tariff/Quantities;)Z" = some ⟨[(.object "com/example/tollgate/tollgate/tariff/Quantities")], some .boolean⟩ := by decide +kernel
theorem pn_41 : plainName "com/example/tollgate/tollgate/tariff/QuantitiesIsAtMostPinLaw" = true := by first | (simp [plainName, overriddenIn]; done) | decide +kernel
theorem ef_rm0 (m : MethodId) (x0 : Int64) (x1 : Int64) (x2 : Int64) (x3 : Int64) : entryFrame m #[(.long x0), (.long x1), (.long x2), (.long x3)] maxLocals = mkF m 0 #[.val (.long x0), .second, .val (.long x1), .second, .val (.long x2), .second, .val (.long x3), .second, .unset, .unset, .unset, .unset, .unset, .unset, .unset, .unset, .unset, .unset, .unset, .unset] [] := by first | (simp [entryFrame, mkF, argsToLocals, Value.category, maxLocals]; done) | rfl
def Qrm0 (Z : State) (q0 : Int64) (q1 : Int64) (q2 : Int64) (q3 : Int64) (h0 : Heap) (n0 : Nat) (v : Option Value) (h : Heap) (L : List Loc) : Prop := v = some (.int 1) ∧ Fr n0 L
set_option maxRecDepth 65536 in
set_option maxHeartbeats 40000000 in
theorem rm0 (l : Launch) (Z : State) (a0 : Array Value) (hw : ∀ d ∈ tables_1, d.before a0 Z = true) (ws : List Jvm.Cond) (q0 : Int64) (q1 : Int64) (q2 : Int64) (q3 : Int64) (h0 : Heap) (n0 : Nat) (Z0 : n0 ≤ h0.size) :
    MetFree l x (head1 (Jvm.Cond.code x code maxLocals ret :: ws) room_1) (fun a U => a = #[(.long q0), (.long q1), (.long q2), (.long q3)] ∧ Z.Warmed39 U.vm ∧ U.heap = h0) (fun _ _ _ _ _ => True) (fun _ U o U' => ∃ v L, o = .returned v ∧ Qrm0 Z q0 q1 q2 q3 h0 n0 v U'.heap L ∧ FrameEnd U o U' L room_1.cells room_1.slots) := by
  refine MetFree.of_bodySF (plainFor_of_name pn_41) hisR ?_
  intro p e s m args below meth c s₁ Bd hml0 hP hK
  obtain ⟨rfl, hZ, hh⟩ := hP
  have hx := Bd.exec
  have hby := Bd.bytes
  have hml : c.maxLocals = 20 := hml0
  have hown : s.vm.findClass "com/example/tollgate/tollgate/tariff/QuantitiesIsAtMostPinLaw" = some m.cls := findClass_of_methodNamed Bd.named
  have hnm := (name_of_methodNamed Bd.named Bd.method).1
  have X0 : Stand p l e room_1 s m #[(.long q0), (.long q1), (.long q2), (.long q3)] below meth c s₁ [] 0 0 := Stand.of_body Bd
  have e0 : s₁.heap = h0 := by rw [← hh, Bd.state]; rfl
  have N0 := Fr.nil n0
  show own_Go p e below s (Qrm0 Z q0 q1 q2 q3 h0 n0) room_1.cells room_1.slots (s₁.setTop (entryFrame m #[(.long q0), (.long q1), (.long q2), (.long q3)] maxLocals))
  rw [ef_rm0 m q0 q1 q2 q3]
  refine own_go (S' := s₁.setTop (mkF m 30 #[.val (.long q0), .second, .val (.long q1), .second, .val (.long q2), .second, .val (.long q3), .second, .val (.long (q0 &&& (9223372036854775807 : Int64))), .second, .val (.long (q1 &&& (9223372036854775807 : Int64))), .second, .val (.long (q2 &&& (9223372036854775807 : Int64))), .second, .val (.long (q3 &&& (9223372036854775807 : Int64))), .second, .unset, .unset, .unset, .unset] [])) (fun t k => ?_) ?_
  · show Steps p.tables e below (s₁.setTop (mkF m 0 #[.val (.long q0), .second, .val (.long q1), .second, .val (.long q2), .second, .val (.long q3), .second, .unset, .unset, .unset, .unset, .unset, .unset, .unset, .unset, .unset, .unset, .unset, .unset] [])) t
    refine XS.lloadN X0.here hx rfl (hb hby at_0) rfl ?_
    show Steps p.tables e below (s₁.setTop (mkF m 1 #[.val (.long q0), .second, .val (.long q1), .second, .val (.long q2), .second, .val (.long q3), .second, .unset, .unset, .unset, .unset, .unset, .unset, .unset, .unset, .unset, .unset, .unset, .unset] [(.long q0)])) t
    refine X0.ldc2Long hx hown (mvT hZ (hw _ (List.mem_of_getElem? (i := 0) rfl))) (g := (mkF m 1 #[.val (.long q0), .second, .val (.long q1), .second, .val (.long q2), .second, .val (.long q3), .second, .unset, .unset, .unset, .unset, .unset, .unset, .unset, .unset, .unset, .unset, .unset, .unset] [(.long q0)])) rfl (hb hby at_1) _ ?_
    show Steps p.tables e below (s₁.setTop (mkF m 4 #[.val (.long q0), .second, .val (.long q1), .second, .val (.long q2), .second, .val (.long q3), .second, .unset, .unset, .unset, .unset, .unset, .unset, .unset, .unset, .unset, .unset, .unset, .unset] [(.long (9223372036854775807 : Int64)), (.long q0)])) t
    refine XS.land X0.here hx rfl (hb hby at_4) rfl ?_
    show Steps p.tables e below (s₁.setTop (mkF m 5 #[.val (.long q0), .second, .val (.long q1), .second, .val (.long q2), .second, .val (.long q3), .second, .unset, .unset, .unset, .unset, .unset, .unset, .unset, .unset, .unset, .unset, .unset, .unset] [(.long (q0 &&& (9223372036854775807 : Int64)))])) t
    refine XS.lstore X0.here hx rfl (hb hby at_5) rfl (l' := #[.val (.long q0), .second, .val (.long q1), .second, .val (.long q2), .second, .val (.long q3), .second, .val (.long (q0 &&& (9223372036854775807 : Int64))), .second, .unset, .unset, .unset, .unset, .unset, .unset, .unset, .unset, .unset, .unset]) rfl ?_
    show Steps p.tables e below (s₁.setTop (mkF m 7 #[.val (.long q0), .second, .val (.long q1), .second, .val (.long q2), .second, .val (.long q3), .second, .val (.long (q0 &&& (9223372036854775807 : Int64))), .second, .unset, .unset, .unset, .unset, .unset, .unset, .unset, .unset, .unset, .unset] [])) t
    refine XS.lloadN X0.here hx rfl (hb hby at_7) rfl ?_
    show Steps p.tables e below (s₁.setTop (mkF m 8 #[.val (.long q0), .second, .val (.long q1), .second, .val (.long q2), .second, .val (.long q3), .second, .val (.long (q0 &&& (9223372036854775807 : Int64))), .second, .unset, .unset, .unset, .unset, .unset, .unset, .unset, .unset, .unset, .unset] [(.long q1)])) t
    refine X0.ldc2Long hx hown (mvT hZ (hw _ (List.mem_of_getElem? (i := 0) rfl))) (g := (mkF m 8 #[.val (.long q0), .second, .val (.long q1), .second, .val (.long q2), .second, .val (.long q3), .second, .val (.long (q0 &&& (9223372036854775807 : Int64))), .second, .unset, .unset, .unset, .unset, .unset, .unset, .unset, .unset, .unset, .unset] [(.long q1)])) rfl (hb hby at_8) _ ?_
    show Steps p.tables e below (s₁.setTop (mkF m 11 #[.val (.long q0), .second, .val (.long q1), .second, .val (.long q2), .second, .val (.long q3), .second, .val (.long (q0 &&& (9223372036854775807 : Int64))), .second, .unset, .unset, .unset, .unset, .unset, .unset, .unset, .unset, .unset, .unset] [(.long (9223372036854775807 : Int64)), (.long q1)])) t
    refine XS.land X0.here hx rfl (hb hby at_11) rfl ?_
    show Steps p.tables e below (s₁.setTop (mkF m 12 #[.val (.long q0), .second, .val (.long q1), .second, .val (.long q2), .second, .val (.long q3), .second, .val (.long (q0 &&& (9223372036854775807 : Int64))), .second, .unset, .unset, .unset, .unset, .unset, .unset, .unset, .unset, .unset, .unset] [(.long (q1 &&& (9223372036854775807 : Int64)))])) t
    refine XS.lstore X0.here hx rfl (hb hby at_12) rfl (l' := #[.val (.long q0), .second, .val (.long q1), .second, .val (.long q2), .second, .val (.long q3), .second, .val (.long (q0 &&& (9223372036854775807 : Int64))), .second, .val (.long (q1 &&& (9223372036854775807 : Int64))), .second, .unset, .unset, .unset, .unset, .unset, .unset, .unset, .unset]) rfl ?_
    show Steps p.tables e below (s₁.setTop (mkF m 14 #[.val (.long q0), .second, .val (.long q1), .second, .val (.long q2), .second, .val (.long q3), .second, .val (.long (q0 &&& (9223372036854775807 : Int64))), .second, .val (.long (q1 &&& (9223372036854775807 : Int64))), .second, .unset, .unset, .unset, .unset, .unset, .unset, .unset, .unset] [])) t
    refine XS.lload X0.here hx rfl (hb hby at_14) rfl ?_
    show Steps p.tables e below (s₁.setTop (mkF m 16 #[.val (.long q0), .second, .val (.long q1), .second, .val (.long q2), .second, .val (.long q3), .second, .val (.long (q0 &&& (9223372036854775807 : Int64))), .second, .val (.long (q1 &&& (9223372036854775807 : Int64))), .second, .unset, .unset, .unset, .unset, .unset, .unset, .unset, .unset] [(.long q2)])) t
    refine X0.ldc2Long hx hown (mvT hZ (hw _ (List.mem_of_getElem? (i := 0) rfl))) (g := (mkF m 16 #[.val (.long q0), .second, .val (.long q1), .second, .val (.long q2), .second, .val (.long q3), .second, .val (.long (q0 &&& (9223372036854775807 : Int64))), .second, .val (.long (q1 &&& (9223372036854775807 : Int64))), .second, .unset, .unset, .unset, .unset, .unset, .unset, .unset, .unset] [(.long q2)])) rfl (hb hby at_16) _ ?_
    show Steps p.tables e below (s₁.setTop (mkF m 19 #[.val (.long q0), .second, .val (.long q1), .second, .val (.long q2), .second, .val (.long q3), .second, .val (.long (q0 &&& (9223372036854775807 : Int64))), .second, .val (.long (q1 &&& (9223372036854775807 : Int64))), .second, .unset, .unset, .unset, .unset, .unset, .unset, .unset, .unset] [(.long (9223372036854775807 : Int64)), (.long q2)])) t
    refine XS.land X0.here hx rfl (hb hby at_19) rfl ?_
    show Steps p.tables e below (s₁.setTop (mkF m 20 #[.val (.long q0), .second, .val (.long q1), .second, .val (.long q2), .second, .val (.long q3), .second, .val (.long (q0 &&& (9223372036854775807 : Int64))), .second, .val (.long (q1 &&& (9223372036854775807 : Int64))), .second, .unset, .unset, .unset, .unset, .unset, .unset, .unset, .unset] [(.long (q2 &&& (9223372036854775807 : Int64)))])) t
    refine XS.lstore X0.here hx rfl (hb hby at_20) rfl (l' := #[.val (.long q0), .second, .val (.long q1), .second, .val (.long q2), .second, .val (.long q3), .second, .val (.long (q0 &&& (9223372036854775807 : Int64))), .second, .val (.long (q1 &&& (9223372036854775807 : Int64))), .second, .val (.long (q2 &&& (9223372036854775807 : Int64))), .second, .unset, .unset, .unset, .unset, .unset, .unset]) rfl ?_
    show Steps p.tables e below (s₁.setTop (mkF m 22 #[.val (.long q0), .second, .val (.long q1), .second, .val (.long q2), .second, .val (.long q3), .second, .val (.long (q0 &&& (9223372036854775807 : Int64))), .second, .val (.long (q1 &&& (9223372036854775807 : Int64))), .second, .val (.long (q2 &&& (9223372036854775807 : Int64))), .second, .unset, .unset, .unset, .unset, .unset, .unset] [])) t
    refine XS.lload X0.here hx rfl (hb hby at_22) rfl ?_
    show Steps p.tables e below (s₁.setTop (mkF m 24 #[.val (.long q0), .second, .val (.long q1), .second, .val (.long q2), .second, .val (.long q3), .second, .val (.long (q0 &&& (9223372036854775807 : Int64))), .second, .val (.long (q1 &&& (9223372036854775807 : Int64))), .second, .val (.long (q2 &&& (9223372036854775807 : Int64))), .second, .unset, .unset, .unset, .unset, .unset, .unset] [(.long q3)])) t
    refine X0.ldc2Long hx hown (mvT hZ (hw _ (List.mem_of_getElem? (i := 0) rfl))) (g := (mkF m 24 #[.val (.long q0), .second, .val (.long q1), .second, .val (.long q2), .second, .val (.long q3), .second, .val (.long (q0 &&& (9223372036854775807 : Int64))), .second, .val (.long (q1 &&& (9223372036854775807 : Int64))), .second, .val (.long (q2 &&& (9223372036854775807 : Int64))), .second, .unset, .unset, .unset, .unset, .unset, .unset] [(.long q3)])) rfl (hb hby at_24) _ ?_
    show Steps p.tables e below (s₁.setTop (mkF m 27 #[.val (.long q0), .second, .val (.long q1), .second, .val (.long q2), .second, .val (.long q3), .second, .val (.long (q0 &&& (9223372036854775807 : Int64))), .second, .val (.long (q1 &&& (9223372036854775807 : Int64))), .second, .val (.long (q2 &&& (9223372036854775807 : Int64))), .second, .unset, .unset, .unset, .unset, .unset, .unset] [(.long (9223372036854775807 : Int64)), (.long q3)])) t
    refine XS.land X0.here hx rfl (hb hby at_27) rfl ?_
    show Steps p.tables e below (s₁.setTop (mkF m 28 #[.val (.long q0), .second, .val (.long q1), .second, .val (.long q2), .second, .val (.long q3), .second, .val (.long (q0 &&& (9223372036854775807 : Int64))), .second, .val (.long (q1 &&& (9223372036854775807 : Int64))), .second, .val (.long (q2 &&& (9223372036854775807 : Int64))), .second, .unset, .unset, .unset, .unset, .unset, .unset] [(.long (q3 &&& (9223372036854775807 : Int64)))])) t
    refine XS.lstore X0.here hx rfl (hb hby at_28) rfl (l' := #[.val (.long q0), .second, .val (.long q1), .second, .val (.long q2), .second, .val (.long q3), .second, .val (.long (q0 &&& (9223372036854775807 : Int64))), .second, .val (.long (q1 &&& (9223372036854775807 : Int64))), .second, .val (.long (q2 &&& (9223372036854775807 : Int64))), .second, .val (.long (q3 &&& (9223372036854775807 : Int64))), .second, .unset, .unset, .unset, .unset]) rfl ?_
    exact k
  obtain ⟨T24, h24, X24, e24, E24, A24, D24, -, st24⟩ := newO X0 hx hZ hown (hw _ (List.mem_of_getElem? (i := 1) rfl)) (hw _ (List.mem_of_getElem? (i := 2) rfl)) (hw _ (List.mem_of_getElem? (i := 3) rfl)) e0 (g := (mkF m 30 #[.val (.long q0), .second, .val (.long q1), .second, .val (.long q2), .second, .val (.long q3), .second, .val (.long (q0 &&& (9223372036854775807 : Int64))), .second, .val (.long (q1 &&& (9223372036854775807 : Int64))), .second, .val (.long (q2 &&& (9223372036854775807 : Int64))), .second, .val (.long (q3 &&& (9223372036854775807 : Int64))), .second, .unset, .unset, .unset, .unset] [])) rfl (hb hby at_30) (by decide) (by decide)
  obtain ⟨b24, g24⟩ : ∃ z, z = h0.size := ⟨_, rfl⟩
  rw [← g24] at A24 D24 st24
  have g_b24 : n0 ≤ b24 := Nat.le_trans Z0 (Nat.le_of_eq g24.symm)
  have Z25 : n0 ≤ h24.size := Nat.le_trans Z0 E24.1
  have f26 : Fld Z h24 b24 "com/example/tollgate/tollgate/tariff/Quantities" "primary" "J" (.long (0 : Int64)) := D24 (Or.inr (hw _ (List.mem_of_getElem? (i := 16) rfl))) (ty := .long) (by decide)
  have f27 : Fld Z h24 b24 "com/example/tollgate/tollgate/tariff/Quantities" "secondary" "J" (.long (0 : Int64)) := D24 (Or.inr (hw _ (List.mem_of_getElem? (i := 18) rfl))) (ty := .long) (by decide)
  refine own_go st24 ?_
  refine own_go (S' := T24.setTop (mkF m 38 #[.val (.long q0), .second, .val (.long q1), .second, .val (.long q2), .second, .val (.long q3), .second, .val (.long (q0 &&& (9223372036854775807 : Int64))), .second, .val (.long (q1 &&& (9223372036854775807 : Int64))), .second, .val (.long (q2 &&& (9223372036854775807 : Int64))), .second, .val (.long (q3 &&& (9223372036854775807 : Int64))), .second, .unset, .unset, .unset, .unset] [(.long (q1 &&& (9223372036854775807 : Int64))), (.long (q0 &&& (9223372036854775807 : Int64))), (.ref b24), (.ref b24)])) (fun t k => ?_) ?_
  · show Steps p.tables e below (T24.setTop (mkF m 33 #[.val (.long q0), .second, .val (.long q1), .second, .val (.long q2), .second, .val (.long q3), .second, .val (.long (q0 &&& (9223372036854775807 : Int64))), .second, .val (.long (q1 &&& (9223372036854775807 : Int64))), .second, .val (.long (q2 &&& (9223372036854775807 : Int64))), .second, .val (.long (q3 &&& (9223372036854775807 : Int64))), .second, .unset, .unset, .unset, .unset] [(.ref b24)])) t
    refine XS.dup X24.here hx rfl (hb hby at_33) rfl rfl ?_
    show Steps p.tables e below (T24.setTop (mkF m 34 #[.val (.long q0), .second, .val (.long q1), .second, .val (.long q2), .second, .val (.long q3), .second, .val (.long (q0 &&& (9223372036854775807 : Int64))), .second, .val (.long (q1 &&& (9223372036854775807 : Int64))), .second, .val (.long (q2 &&& (9223372036854775807 : Int64))), .second, .val (.long (q3 &&& (9223372036854775807 : Int64))), .second, .unset, .unset, .unset, .unset] [(.ref b24), (.ref b24)])) t
    refine XS.lload X24.here hx rfl (hb hby at_34) rfl ?_
    show Steps p.tables e below (T24.setTop (mkF m 36 #[.val (.long q0), .second, .val (.long q1), .second, .val (.long q2), .second, .val (.long q3), .second, .val (.long (q0 &&& (9223372036854775807 : Int64))), .second, .val (.long (q1 &&& (9223372036854775807 : Int64))), .second, .val (.long (q2 &&& (9223372036854775807 : Int64))), .second, .val (.long (q3 &&& (9223372036854775807 : Int64))), .second, .unset, .unset, .unset, .unset] [(.long (q0 &&& (9223372036854775807 : Int64))), (.ref b24), (.ref b24)])) t
    refine XS.lload X24.here hx rfl (hb hby at_36) rfl ?_
    exact k
  obtain ⟨_, _, ⟨T28, L28, kk28, nn28⟩, -, X28, ⟨Lc28, hQ28, l28, y28, z28⟩, st28⟩ := X24.specialBack hx (y := (⟨"com/example/tollgate/tollgate/tariff/Quantities", "<init>", "(JJ)V"⟩ : MethodName)) rfl hown (mvT hZ (hw _ (List.mem_of_getElem? (i := 4) rfl))) (mvT hZ (hw _ (List.mem_of_getElem? (i := 5) rfl))) (mvT hZ (hw _ (List.mem_of_getElem? (i := 6) rfl))) (by decide) (backOf (W := 1) (rm1 l Z a0 hw [] b24 (q0 &&& (9223372036854775807 : Int64)) (q1 &&& (9223372036854775807 : Int64)) (0 : Int64) (0 : Int64) h24 n0 Z25 (own_nn _ : ¬ ((q0 &&& (9223372036854775807 : Int64)) < (0 : Int64))) (own_nn _ : ¬ ((q1 &&& (9223372036854775807 : Int64)) < (0 : Int64))) A24 f26 f27 g_b24) hZ (hw _ (List.mem_of_getElem? (i := 6) rfl)) (hw _ (List.mem_of_getElem? (i := 3) rfl)) (by decide) (by decide)) (g := (mkF m 38 #[.val (.long q0), .second, .val (.long q1), .second, .val (.long q2), .second, .val (.long q3), .second, .val (.long (q0 &&& (9223372036854775807 : Int64))), .second, .val (.long (q1 &&& (9223372036854775807 : Int64))), .second, .val (.long (q2 &&& (9223372036854775807 : Int64))), .second, .val (.long (q3 &&& (9223372036854775807 : Int64))), .second, .unset, .unset, .unset, .unset] [(.long (q1 &&& (9223372036854775807 : Int64))), (.long (q0 &&& (9223372036854775807 : Int64))), (.ref b24), (.ref b24)])) rfl (by rw [hml]; rfl) (Steps.refl _) (a := b24) (argsL := [(.long (q0 &&& (9223372036854775807 : Int64))), (.long (q1 &&& (9223372036854775807 : Int64)))]) (rest := [(.ref b24)]) (lenOf pd_39 rfl) rfl (by show 2 * 0 + _ ≤ _; exact Nat.le_of_eq rfl) (hb hby at_38) (fun _ _ => ⟨rfl, e24, (by decide : 1 + 0 ≤ _), (by decide : 2 + 0 ≤ _)⟩)
  dsimp only [Pt.U, Pt.locs, Pt.cells, Pt.slots] at X28 l28 y28 z28 st28 hQ28
  subst l28 y28 z28
  obtain ⟨rfl, N29, K30, p31, p32, p33⟩ := hQ28
  have N34 := Fr.app N0 N29
  have f35 : Exa Z T28.heap b24 "com/example/tollgate/tollgate/tariff/Quantities" := A24.keep K30
  have Z36 : n0 ≤ T28.heap.size := Nat.le_trans Z25 K30.1
  refine own_goT st28 ?_
  refine own_go (S' := T28.setTop (mkF m 43 #[.val (.long q0), .second, .val (.long q1), .second, .val (.long q2), .second, .val (.long q3), .second, .val (.long (q0 &&& (9223372036854775807 : Int64))), .second, .val (.long (q1 &&& (9223372036854775807 : Int64))), .second, .val (.long (q2 &&& (9223372036854775807 : Int64))), .second, .val (.long (q3 &&& (9223372036854775807 : Int64))), .second, .val (.ref b24), .unset, .unset, .unset] [])) (fun t k => ?_) ?_
  · show Steps p.tables e below (T28.setTop (mkF m 41 #[.val (.long q0), .second, .val (.long q1), .second, .val (.long q2), .second, .val (.long q3), .second, .val (.long (q0 &&& (9223372036854775807 : Int64))), .second, .val (.long (q1 &&& (9223372036854775807 : Int64))), .second, .val (.long (q2 &&& (9223372036854775807 : Int64))), .second, .val (.long (q3 &&& (9223372036854775807 : Int64))), .second, .unset, .unset, .unset, .unset] [(.ref b24)])) t
    refine XS.astore X28.here hx rfl (hb hby at_41) rfl rfl (l' := #[.val (.long q0), .second, .val (.long q1), .second, .val (.long q2), .second, .val (.long q3), .second, .val (.long (q0 &&& (9223372036854775807 : Int64))), .second, .val (.long (q1 &&& (9223372036854775807 : Int64))), .second, .val (.long (q2 &&& (9223372036854775807 : Int64))), .second, .val (.long (q3 &&& (9223372036854775807 : Int64))), .second, .val (.ref b24), .unset, .unset, .unset]) rfl ?_
    exact k
  obtain ⟨T37, h37, X37, e37, E37, A37, D37, -, st37⟩ := newO X28 hx hZ hown (hw _ (List.mem_of_getElem? (i := 1) rfl)) (hw _ (List.mem_of_getElem? (i := 2) rfl)) (hw _ (List.mem_of_getElem? (i := 3) rfl)) rfl (g := (mkF m 43 #[.val (.long q0), .second, .val (.long q1), .second, .val (.long q2), .second, .val (.long q3), .second, .val (.long (q0 &&& (9223372036854775807 : Int64))), .second, .val (.long (q1 &&& (9223372036854775807 : Int64))), .second, .val (.long (q2 &&& (9223372036854775807 : Int64))), .second, .val (.long (q3 &&& (9223372036854775807 : Int64))), .second, .val (.ref b24), .unset, .unset, .unset] [])) rfl (hb hby at_43) (by decide) (by decide)
  obtain ⟨b37, g37⟩ : ∃ z, z = T28.heap.size := ⟨_, rfl⟩
  rw [← g37] at A37 D37 st37
  have ne38 : b24 ≠ b37 := Nat.ne_of_lt (Nat.lt_of_lt_of_le p31.lt (Nat.le_of_eq g37.symm))
  have g_b37 : n0 ≤ b37 := Nat.le_trans Z36 (Nat.le_of_eq g37.symm)
  have Z39 : n0 ≤ h37.size := Nat.le_trans Z36 E37.1
  have f40 : Exa Z h37 b24 "com/example/tollgate/tollgate/tariff/Quantities" := Exa.ext E37 p31
  have f41 : Fld Z h37 b24 "com/example/tollgate/tollgate/tariff/Quantities" "primary" "J" (.long (q0 &&& (9223372036854775807 : Int64))) := Fld.ext E37 p32
  have f42 : Fld Z h37 b24 "com/example/tollgate/tollgate/tariff/Quantities" "secondary" "J" (.long (q1 &&& (9223372036854775807 : Int64))) := Fld.ext E37 p33
  have f43 : Fld Z h37 b37 "com/example/tollgate/tollgate/tariff/Quantities" "primary" "J" (.long (0 : Int64)) := D37 (Or.inr (hw _ (List.mem_of_getElem? (i := 16) rfl))) (ty := .long) (by decide)
  have f44 : Fld Z h37 b37 "com/example/tollgate/tollgate/tariff/Quantities" "secondary" "J" (.long (0 : Int64)) := D37 (Or.inr (hw _ (List.mem_of_getElem? (i := 18) rfl))) (ty := .long) (by decide)
  refine own_go st37 ?_
  refine own_go (S' := T37.setTop (mkF m 51 #[.val (.long q0), .second, .val (.long q1), .second, .val (.long q2), .second, .val (.long q3), .second, .val (.long (q0 &&& (9223372036854775807 : Int64))), .second, .val (.long (q1 &&& (9223372036854775807 : Int64))), .second, .val (.long (q2 &&& (9223372036854775807 : Int64))), .second, .val (.long (q3 &&& (9223372036854775807 : Int64))), .second, .val (.ref b24), .unset, .unset, .unset] [(.long (q3 &&& (9223372036854775807 : Int64))), (.long (q2 &&& (9223372036854775807 : Int64))), (.ref b37), (.ref b37)])) (fun t k => ?_) ?_
  · show Steps p.tables e below (T37.setTop (mkF m 46 #[.val (.long q0), .second, .val (.long q1), .second, .val (.long q2), .second, .val (.long q3), .second, .val (.long (q0 &&& (9223372036854775807 : Int64))), .second, .val (.long (q1 &&& (9223372036854775807 : Int64))), .second, .val (.long (q2 &&& (9223372036854775807 : Int64))), .second, .val (.long (q3 &&& (9223372036854775807 : Int64))), .second, .val (.ref b24), .unset, .unset, .unset] [(.ref b37)])) t
    refine XS.dup X37.here hx rfl (hb hby at_46) rfl rfl ?_
    show Steps p.tables e below (T37.setTop (mkF m 47 #[.val (.long q0), .second, .val (.long q1), .second, .val (.long q2), .second, .val (.long q3), .second, .val (.long (q0 &&& (9223372036854775807 : Int64))), .second, .val (.long (q1 &&& (9223372036854775807 : Int64))), .second, .val (.long (q2 &&& (9223372036854775807 : Int64))), .second, .val (.long (q3 &&& (9223372036854775807 : Int64))), .second, .val (.ref b24), .unset, .unset, .unset] [(.ref b37), (.ref b37)])) t
    refine XS.lload X37.here hx rfl (hb hby at_47) rfl ?_
    show Steps p.tables e below (T37.setTop (mkF m 49 #[.val (.long q0), .second, .val (.long q1), .second, .val (.long q2), .second, .val (.long q3), .second, .val (.long (q0 &&& (9223372036854775807 : Int64))), .second, .val (.long (q1 &&& (9223372036854775807 : Int64))), .second, .val (.long (q2 &&& (9223372036854775807 : Int64))), .second, .val (.long (q3 &&& (9223372036854775807 : Int64))), .second, .val (.ref b24), .unset, .unset, .unset] [(.long (q2 &&& (9223372036854775807 : Int64))), (.ref b37), (.ref b37)])) t
    refine XS.lload X37.here hx rfl (hb hby at_49) rfl ?_
    exact k
  obtain ⟨_, _, ⟨T45, L45, kk45, nn45⟩, -, X45, ⟨Lc45, hQ45, l45, y45, z45⟩, st45⟩ := X37.specialBack hx (y := (⟨"com/example/tollgate/tollgate/tariff/Quantities", "<init>", "(JJ)V"⟩ : MethodName)) rfl hown (mvT hZ (hw _ (List.mem_of_getElem? (i := 4) rfl))) (mvT hZ (hw _ (List.mem_of_getElem? (i := 5) rfl))) (mvT hZ (hw _ (List.mem_of_getElem? (i := 6) rfl))) (by decide) (backOf (W := 1) (rm1 l Z a0 hw [] b37 (q2 &&& (9223372036854775807 : Int64)) (q3 &&& (9223372036854775807 : Int64)) (0 : Int64) (0 : Int64) h37 n0 Z39 (own_nn _ : ¬ ((q2 &&& (9223372036854775807 : Int64)) < (0 : Int64))) (own_nn _ : ¬ ((q3 &&& (9223372036854775807 : Int64)) < (0 : Int64))) A37 f43 f44 g_b37) hZ (hw _ (List.mem_of_getElem? (i := 6) rfl)) (hw _ (List.mem_of_getElem? (i := 3) rfl)) (by decide) (by decide)) (g := (mkF m 51 #[.val (.long q0), .second, .val (.long q1), .second, .val (.long q2), .second, .val (.long q3), .second, .val (.long (q0 &&& (9223372036854775807 : Int64))), .second, .val (.long (q1 &&& (9223372036854775807 : Int64))), .second, .val (.long (q2 &&& (9223372036854775807 : Int64))), .second, .val (.long (q3 &&& (9223372036854775807 : Int64))), .second, .val (.ref b24), .unset, .unset, .unset] [(.long (q3 &&& (9223372036854775807 : Int64))), (.long (q2 &&& (9223372036854775807 : Int64))), (.ref b37), (.ref b37)])) rfl (by rw [hml]; rfl) (Steps.refl _) (a := b37) (argsL := [(.long (q2 &&& (9223372036854775807 : Int64))), (.long (q3 &&& (9223372036854775807 : Int64)))]) (rest := [(.ref b37)]) (lenOf pd_39 rfl) rfl (by show 2 * 0 + _ ≤ _; exact Nat.le_of_eq rfl) (hb hby at_51) (fun _ _ => ⟨rfl, e37, (by decide : 2 + 0 ≤ _), (by decide : 4 + 0 ≤ _)⟩)
  dsimp only [Pt.U, Pt.locs, Pt.cells, Pt.slots] at X45 l45 y45 z45 st45 hQ45
  subst l45 y45 z45
  obtain ⟨rfl, N46, K47, p48, p49, p50⟩ := hQ45
  have N51 := Fr.app N34 N46
  have f52 : Exa Z T45.heap b24 "com/example/tollgate/tollgate/tariff/Quantities" := f40.keep K47
  have f53 : Fld Z T45.heap b24 "com/example/tollgate/tollgate/tariff/Quantities" "primary" "J" (.long (q0 &&& (9223372036854775807 : Int64))) := f41.keep K47 (ninS ne38 nin0)
  have f54 : Fld Z T45.heap b24 "com/example/tollgate/tollgate/tariff/Quantities" "secondary" "J" (.long (q1 &&& (9223372036854775807 : Int64))) := f42.keep K47 (ninS ne38 nin0)
  have f55 : Exa Z T45.heap b37 "com/example/tollgate/tollgate/tariff/Quantities" := A37.keep K47
  have Z56 : n0 ≤ T45.heap.size := Nat.le_trans Z39 K47.1
  refine own_goT st45 ?_
  refine own_go (S' := T45.setTop (mkF m 60 #[.val (.long q0), .second, .val (.long q1), .second, .val (.long q2), .second, .val (.long q3), .second, .val (.long (q0 &&& (9223372036854775807 : Int64))), .second, .val (.long (q1 &&& (9223372036854775807 : Int64))), .second, .val (.long (q2 &&& (9223372036854775807 : Int64))), .second, .val (.long (q3 &&& (9223372036854775807 : Int64))), .second, .val (.ref b24), .val (.ref b37), .unset, .unset] [(.ref b37), (.ref b24)])) (fun t k => ?_) ?_
  · show Steps p.tables e below (T45.setTop (mkF m 54 #[.val (.long q0), .second, .val (.long q1), .second, .val (.long q2), .second, .val (.long q3), .second, .val (.long (q0 &&& (9223372036854775807 : Int64))), .second, .val (.long (q1 &&& (9223372036854775807 : Int64))), .second, .val (.long (q2 &&& (9223372036854775807 : Int64))), .second, .val (.long (q3 &&& (9223372036854775807 : Int64))), .second, .val (.ref b24), .unset, .unset, .unset] [(.ref b37)])) t
    refine XS.astore X45.here hx rfl (hb hby at_54) rfl rfl (l' := #[.val (.long q0), .second, .val (.long q1), .second, .val (.long q2), .second, .val (.long q3), .second, .val (.long (q0 &&& (9223372036854775807 : Int64))), .second, .val (.long (q1 &&& (9223372036854775807 : Int64))), .second, .val (.long (q2 &&& (9223372036854775807 : Int64))), .second, .val (.long (q3 &&& (9223372036854775807 : Int64))), .second, .val (.ref b24), .val (.ref b37), .unset, .unset]) rfl ?_
    show Steps p.tables e below (T45.setTop (mkF m 56 #[.val (.long q0), .second, .val (.long q1), .second, .val (.long q2), .second, .val (.long q3), .second, .val (.long (q0 &&& (9223372036854775807 : Int64))), .second, .val (.long (q1 &&& (9223372036854775807 : Int64))), .second, .val (.long (q2 &&& (9223372036854775807 : Int64))), .second, .val (.long (q3 &&& (9223372036854775807 : Int64))), .second, .val (.ref b24), .val (.ref b37), .unset, .unset] [])) t
    refine XS.aload X45.here hx rfl (hb hby at_56) rfl rfl ?_
    show Steps p.tables e below (T45.setTop (mkF m 58 #[.val (.long q0), .second, .val (.long q1), .second, .val (.long q2), .second, .val (.long q3), .second, .val (.long (q0 &&& (9223372036854775807 : Int64))), .second, .val (.long (q1 &&& (9223372036854775807 : Int64))), .second, .val (.long (q2 &&& (9223372036854775807 : Int64))), .second, .val (.long (q3 &&& (9223372036854775807 : Int64))), .second, .val (.ref b24), .val (.ref b37), .unset, .unset] [(.ref b24)])) t
    refine XS.aload X45.here hx rfl (hb hby at_58) rfl rfl ?_
    exact k
  obtain ⟨cq57, kq57, qa57, qb57, qc57⟩ := isOf hZ rfl f52
  obtain ⟨_, _, ⟨T57, L57, kk57, nn57⟩, -, X57, ⟨Lc57, hQ57, l57, y57, z57⟩, st57⟩ := X45.virtualBack hx (y := (⟨"com/example/tollgate/tollgate/tariff/Quantities", "isAtMost", "(Lcom/example/tollgate/tollgate/tariff/Quantities;)Z"⟩ : MethodName)) (z := (⟨"com/example/tollgate/tollgate/tariff/Quantities", "isAtMost", "(Lcom/example/tollgate/tollgate/tariff/Quantities;)Z"⟩ : MethodName)) hown (mvT hZ (hw _ (List.mem_of_getElem? (i := 19) rfl))) (mvT hZ (hw _ (List.mem_of_getElem? (i := 20) rfl))) (notFace_of_selects (args := #[]) (mvT hZ (hw _ (List.mem_of_getElem? (i := 22) rfl)))) (mvT hZ (hw _ (List.mem_of_getElem? (i := 22) rfl))) (mvT hZ (hw _ (List.mem_of_getElem? (i := 21) rfl))) (by decide) (backOf (W := 0) (rm4 l Z a0 hw [] b24 b37 (q0 &&& (9223372036854775807 : Int64)) (q2 &&& (9223372036854775807 : Int64)) (q1 &&& (9223372036854775807 : Int64)) (q3 &&& (9223372036854775807 : Int64)) T45.heap n0 Z56 f53 p49 f54 p50) hZ (hw _ (List.mem_of_getElem? (i := 23) rfl)) (hw _ (List.mem_of_getElem? (i := 3) rfl)) (by decide) (by decide)) qa57 qc57 (g := (mkF m 60 #[.val (.long q0), .second, .val (.long q1), .second, .val (.long q2), .second, .val (.long q3), .second, .val (.long (q0 &&& (9223372036854775807 : Int64))), .second, .val (.long (q1 &&& (9223372036854775807 : Int64))), .second, .val (.long (q2 &&& (9223372036854775807 : Int64))), .second, .val (.long (q3 &&& (9223372036854775807 : Int64))), .second, .val (.ref b24), .val (.ref b37), .unset, .unset] [(.ref b37), (.ref b24)])) rfl (by rw [hml]; rfl) (Steps.refl _) (argsL := [(.ref b37)]) (rest := []) (lenOf pd_40 rfl) rfl (by show 2 * 0 + _ ≤ _; exact Nat.le_of_eq rfl) (hb hby at_60) (fun _ _ => ⟨rfl, rfl, (by decide : 2 + 0 ≤ _), (by decide : 4 + 0 ≤ _)⟩)
  dsimp only [Pt.U, Pt.locs, Pt.cells, Pt.slots] at X57 l57 y57 z57 st57 hQ57
  subst l57 y57 z57
  obtain ⟨rfl, N58, e57⟩ := hQ57
  have N60 := Fr.app N51 N58
  refine own_goT st57 ?_
  refine own_go (S' := T57.setTop (mkF m 78 #[.val (.long q0), .second, .val (.long q1), .second, .val (.long q2), .second, .val (.long q3), .second, .val (.long (q0 &&& (9223372036854775807 : Int64))), .second, .val (.long (q1 &&& (9223372036854775807 : Int64))), .second, .val (.long (q2 &&& (9223372036854775807 : Int64))), .second, .val (.long (q3 &&& (9223372036854775807 : Int64))), .second, .val (.ref b24), .val (.ref b37), .val (.int (rm4_r (q0 &&& (9223372036854775807 : Int64)) (q2 &&& (9223372036854775807 : Int64)) (q1 &&& (9223372036854775807 : Int64)) (q3 &&& (9223372036854775807 : Int64)))), .unset] [(.int (Jvm.Free.XT.cmpL (((q2 &&& (9223372036854775807 : Int64)) - (q0 &&& (9223372036854775807 : Int64))) ||| ((q3 &&& (9223372036854775807 : Int64)) - (q1 &&& (9223372036854775807 : Int64)))) (0 : Int64)))])) (fun t k => ?_) ?_
  · show Steps p.tables e below (T57.setTop (mkF m 63 #[.val (.long q0), .second, .val (.long q1), .second, .val (.long q2), .second, .val (.long q3), .second, .val (.long (q0 &&& (9223372036854775807 : Int64))), .second, .val (.long (q1 &&& (9223372036854775807 : Int64))), .second, .val (.long (q2 &&& (9223372036854775807 : Int64))), .second, .val (.long (q3 &&& (9223372036854775807 : Int64))), .second, .val (.ref b24), .val (.ref b37), .unset, .unset] [(.int (rm4_r (q0 &&& (9223372036854775807 : Int64)) (q2 &&& (9223372036854775807 : Int64)) (q1 &&& (9223372036854775807 : Int64)) (q3 &&& (9223372036854775807 : Int64))))])) t
    refine XS.istore X57.here hx rfl (hb hby at_63) rfl (l' := #[.val (.long q0), .second, .val (.long q1), .second, .val (.long q2), .second, .val (.long q3), .second, .val (.long (q0 &&& (9223372036854775807 : Int64))), .second, .val (.long (q1 &&& (9223372036854775807 : Int64))), .second, .val (.long (q2 &&& (9223372036854775807 : Int64))), .second, .val (.long (q3 &&& (9223372036854775807 : Int64))), .second, .val (.ref b24), .val (.ref b37), .val (.int (rm4_r (q0 &&& (9223372036854775807 : Int64)) (q2 &&& (9223372036854775807 : Int64)) (q1 &&& (9223372036854775807 : Int64)) (q3 &&& (9223372036854775807 : Int64)))), .unset]) rfl ?_
    show Steps p.tables e below (T57.setTop (mkF m 65 #[.val (.long q0), .second, .val (.long q1), .second, .val (.long q2), .second, .val (.long q3), .second, .val (.long (q0 &&& (9223372036854775807 : Int64))), .second, .val (.long (q1 &&& (9223372036854775807 : Int64))), .second, .val (.long (q2 &&& (9223372036854775807 : Int64))), .second, .val (.long (q3 &&& (9223372036854775807 : Int64))), .second, .val (.ref b24), .val (.ref b37), .val (.int (rm4_r (q0 &&& (9223372036854775807 : Int64)) (q2 &&& (9223372036854775807 : Int64)) (q1 &&& (9223372036854775807 : Int64)) (q3 &&& (9223372036854775807 : Int64)))), .unset] [])) t
    refine XS.lload X57.here hx rfl (hb hby at_65) rfl ?_
    show Steps p.tables e below (T57.setTop (mkF m 67 #[.val (.long q0), .second, .val (.long q1), .second, .val (.long q2), .second, .val (.long q3), .second, .val (.long (q0 &&& (9223372036854775807 : Int64))), .second, .val (.long (q1 &&& (9223372036854775807 : Int64))), .second, .val (.long (q2 &&& (9223372036854775807 : Int64))), .second, .val (.long (q3 &&& (9223372036854775807 : Int64))), .second, .val (.ref b24), .val (.ref b37), .val (.int (rm4_r (q0 &&& (9223372036854775807 : Int64)) (q2 &&& (9223372036854775807 : Int64)) (q1 &&& (9223372036854775807 : Int64)) (q3 &&& (9223372036854775807 : Int64)))), .unset] [(.long (q2 &&& (9223372036854775807 : Int64)))])) t
    refine XS.lload X57.here hx rfl (hb hby at_67) rfl ?_
    show Steps p.tables e below (T57.setTop (mkF m 69 #[.val (.long q0), .second, .val (.long q1), .second, .val (.long q2), .second, .val (.long q3), .second, .val (.long (q0 &&& (9223372036854775807 : Int64))), .second, .val (.long (q1 &&& (9223372036854775807 : Int64))), .second, .val (.long (q2 &&& (9223372036854775807 : Int64))), .second, .val (.long (q3 &&& (9223372036854775807 : Int64))), .second, .val (.ref b24), .val (.ref b37), .val (.int (rm4_r (q0 &&& (9223372036854775807 : Int64)) (q2 &&& (9223372036854775807 : Int64)) (q1 &&& (9223372036854775807 : Int64)) (q3 &&& (9223372036854775807 : Int64)))), .unset] [(.long (q0 &&& (9223372036854775807 : Int64))), (.long (q2 &&& (9223372036854775807 : Int64)))])) t
    refine XS.lsub X57.here hx rfl (hb hby at_69) rfl ?_
    show Steps p.tables e below (T57.setTop (mkF m 70 #[.val (.long q0), .second, .val (.long q1), .second, .val (.long q2), .second, .val (.long q3), .second, .val (.long (q0 &&& (9223372036854775807 : Int64))), .second, .val (.long (q1 &&& (9223372036854775807 : Int64))), .second, .val (.long (q2 &&& (9223372036854775807 : Int64))), .second, .val (.long (q3 &&& (9223372036854775807 : Int64))), .second, .val (.ref b24), .val (.ref b37), .val (.int (rm4_r (q0 &&& (9223372036854775807 : Int64)) (q2 &&& (9223372036854775807 : Int64)) (q1 &&& (9223372036854775807 : Int64)) (q3 &&& (9223372036854775807 : Int64)))), .unset] [(.long ((q2 &&& (9223372036854775807 : Int64)) - (q0 &&& (9223372036854775807 : Int64))))])) t
    refine XS.lload X57.here hx rfl (hb hby at_70) rfl ?_
    show Steps p.tables e below (T57.setTop (mkF m 72 #[.val (.long q0), .second, .val (.long q1), .second, .val (.long q2), .second, .val (.long q3), .second, .val (.long (q0 &&& (9223372036854775807 : Int64))), .second, .val (.long (q1 &&& (9223372036854775807 : Int64))), .second, .val (.long (q2 &&& (9223372036854775807 : Int64))), .second, .val (.long (q3 &&& (9223372036854775807 : Int64))), .second, .val (.ref b24), .val (.ref b37), .val (.int (rm4_r (q0 &&& (9223372036854775807 : Int64)) (q2 &&& (9223372036854775807 : Int64)) (q1 &&& (9223372036854775807 : Int64)) (q3 &&& (9223372036854775807 : Int64)))), .unset] [(.long (q3 &&& (9223372036854775807 : Int64))), (.long ((q2 &&& (9223372036854775807 : Int64)) - (q0 &&& (9223372036854775807 : Int64))))])) t
    refine XS.lload X57.here hx rfl (hb hby at_72) rfl ?_
    show Steps p.tables e below (T57.setTop (mkF m 74 #[.val (.long q0), .second, .val (.long q1), .second, .val (.long q2), .second, .val (.long q3), .second, .val (.long (q0 &&& (9223372036854775807 : Int64))), .second, .val (.long (q1 &&& (9223372036854775807 : Int64))), .second, .val (.long (q2 &&& (9223372036854775807 : Int64))), .second, .val (.long (q3 &&& (9223372036854775807 : Int64))), .second, .val (.ref b24), .val (.ref b37), .val (.int (rm4_r (q0 &&& (9223372036854775807 : Int64)) (q2 &&& (9223372036854775807 : Int64)) (q1 &&& (9223372036854775807 : Int64)) (q3 &&& (9223372036854775807 : Int64)))), .unset] [(.long (q1 &&& (9223372036854775807 : Int64))), (.long (q3 &&& (9223372036854775807 : Int64))), (.long ((q2 &&& (9223372036854775807 : Int64)) - (q0 &&& (9223372036854775807 : Int64))))])) t
    refine XS.lsub X57.here hx rfl (hb hby at_74) rfl ?_
    show Steps p.tables e below (T57.setTop (mkF m 75 #[.val (.long q0), .second, .val (.long q1), .second, .val (.long q2), .second, .val (.long q3), .second, .val (.long (q0 &&& (9223372036854775807 : Int64))), .second, .val (.long (q1 &&& (9223372036854775807 : Int64))), .second, .val (.long (q2 &&& (9223372036854775807 : Int64))), .second, .val (.long (q3 &&& (9223372036854775807 : Int64))), .second, .val (.ref b24), .val (.ref b37), .val (.int (rm4_r (q0 &&& (9223372036854775807 : Int64)) (q2 &&& (9223372036854775807 : Int64)) (q1 &&& (9223372036854775807 : Int64)) (q3 &&& (9223372036854775807 : Int64)))), .unset] [(.long ((q3 &&& (9223372036854775807 : Int64)) - (q1 &&& (9223372036854775807 : Int64)))), (.long ((q2 &&& (9223372036854775807 : Int64)) - (q0 &&& (9223372036854775807 : Int64))))])) t
    refine XS.lor X57.here hx rfl (hb hby at_75) rfl ?_
    show Steps p.tables e below (T57.setTop (mkF m 76 #[.val (.long q0), .second, .val (.long q1), .second, .val (.long q2), .second, .val (.long q3), .second, .val (.long (q0 &&& (9223372036854775807 : Int64))), .second, .val (.long (q1 &&& (9223372036854775807 : Int64))), .second, .val (.long (q2 &&& (9223372036854775807 : Int64))), .second, .val (.long (q3 &&& (9223372036854775807 : Int64))), .second, .val (.ref b24), .val (.ref b37), .val (.int (rm4_r (q0 &&& (9223372036854775807 : Int64)) (q2 &&& (9223372036854775807 : Int64)) (q1 &&& (9223372036854775807 : Int64)) (q3 &&& (9223372036854775807 : Int64)))), .unset] [(.long (((q2 &&& (9223372036854775807 : Int64)) - (q0 &&& (9223372036854775807 : Int64))) ||| ((q3 &&& (9223372036854775807 : Int64)) - (q1 &&& (9223372036854775807 : Int64)))))])) t
    refine XS.lconst X57.here hx rfl (hb hby at_76) ?_
    show Steps p.tables e below (T57.setTop (mkF m 77 #[.val (.long q0), .second, .val (.long q1), .second, .val (.long q2), .second, .val (.long q3), .second, .val (.long (q0 &&& (9223372036854775807 : Int64))), .second, .val (.long (q1 &&& (9223372036854775807 : Int64))), .second, .val (.long (q2 &&& (9223372036854775807 : Int64))), .second, .val (.long (q3 &&& (9223372036854775807 : Int64))), .second, .val (.ref b24), .val (.ref b37), .val (.int (rm4_r (q0 &&& (9223372036854775807 : Int64)) (q2 &&& (9223372036854775807 : Int64)) (q1 &&& (9223372036854775807 : Int64)) (q3 &&& (9223372036854775807 : Int64)))), .unset] [(.long (0 : Int64)), (.long (((q2 &&& (9223372036854775807 : Int64)) - (q0 &&& (9223372036854775807 : Int64))) ||| ((q3 &&& (9223372036854775807 : Int64)) - (q1 &&& (9223372036854775807 : Int64)))))])) t
    refine XS.lcmp X57.here hx rfl (hb hby at_77) rfl ?_
    exact k
  refine own_go (S' := T57.setTop (mkF m 86 #[.val (.long q0), .second, .val (.long q1), .second, .val (.long q2), .second, .val (.long q3), .second, .val (.long (q0 &&& (9223372036854775807 : Int64))), .second, .val (.long (q1 &&& (9223372036854775807 : Int64))), .second, .val (.long (q2 &&& (9223372036854775807 : Int64))), .second, .val (.long (q3 &&& (9223372036854775807 : Int64))), .second, .val (.ref b24), .val (.ref b37), .val (.int (rm4_r (q0 &&& (9223372036854775807 : Int64)) (q2 &&& (9223372036854775807 : Int64)) (q1 &&& (9223372036854775807 : Int64)) (q3 &&& (9223372036854775807 : Int64)))), .unset] [(.int (if (((q2 &&& (9223372036854775807 : Int64)) - (q0 &&& (9223372036854775807 : Int64))) ||| ((q3 &&& (9223372036854775807 : Int64)) - (q1 &&& (9223372036854775807 : Int64)))) < (0 : Int64) then (0 : Int32) else (1 : Int32)))])) (fun t k => ?_) ?_
  · show Steps p.tables e below (T57.setTop (mkF m 78 #[.val (.long q0), .second, .val (.long q1), .second, .val (.long q2), .second, .val (.long q3), .second, .val (.long (q0 &&& (9223372036854775807 : Int64))), .second, .val (.long (q1 &&& (9223372036854775807 : Int64))), .second, .val (.long (q2 &&& (9223372036854775807 : Int64))), .second, .val (.long (q3 &&& (9223372036854775807 : Int64))), .second, .val (.ref b24), .val (.ref b37), .val (.int (rm4_r (q0 &&& (9223372036854775807 : Int64)) (q2 &&& (9223372036854775807 : Int64)) (q1 &&& (9223372036854775807 : Int64)) (q3 &&& (9223372036854775807 : Int64)))), .unset] [(.int (Jvm.Free.XT.cmpL (((q2 &&& (9223372036854775807 : Int64)) - (q0 &&& (9223372036854775807 : Int64))) ||| ((q3 &&& (9223372036854775807 : Int64)) - (q1 &&& (9223372036854775807 : Int64)))) (0 : Int64)))])) t
    by_cases hc78 : (((q2 &&& (9223372036854775807 : Int64)) - (q0 &&& (9223372036854775807 : Int64))) ||| ((q3 &&& (9223372036854775807 : Int64)) - (q1 &&& (9223372036854775807 : Int64)))) < (0 : Int64)
    · show Steps p.tables e below (T57.setTop (mkF m 78 #[.val (.long q0), .second, .val (.long q1), .second, .val (.long q2), .second, .val (.long q3), .second, .val (.long (q0 &&& (9223372036854775807 : Int64))), .second, .val (.long (q1 &&& (9223372036854775807 : Int64))), .second, .val (.long (q2 &&& (9223372036854775807 : Int64))), .second, .val (.long (q3 &&& (9223372036854775807 : Int64))), .second, .val (.ref b24), .val (.ref b37), .val (.int (rm4_r (q0 &&& (9223372036854775807 : Int64)) (q2 &&& (9223372036854775807 : Int64)) (q1 &&& (9223372036854775807 : Int64)) (q3 &&& (9223372036854775807 : Int64)))), .unset] [(.int (Jvm.Free.XT.cmpL (((q2 &&& (9223372036854775807 : Int64)) - (q0 &&& (9223372036854775807 : Int64))) ||| ((q3 &&& (9223372036854775807 : Int64)) - (q1 &&& (9223372036854775807 : Int64)))) (0 : Int64)))])) t
      refine XS.ifYes X57.here hx rfl (pc0 := 78) (pc' := 85) rfl (hb hby at_78) rfl (Jvm.Free.XT.ll_lt_t hc78) (by decide) (by decide) ?_
      show Steps p.tables e below (T57.setTop (mkF m 85 #[.val (.long q0), .second, .val (.long q1), .second, .val (.long q2), .second, .val (.long q3), .second, .val (.long (q0 &&& (9223372036854775807 : Int64))), .second, .val (.long (q1 &&& (9223372036854775807 : Int64))), .second, .val (.long (q2 &&& (9223372036854775807 : Int64))), .second, .val (.long (q3 &&& (9223372036854775807 : Int64))), .second, .val (.ref b24), .val (.ref b37), .val (.int (rm4_r (q0 &&& (9223372036854775807 : Int64)) (q2 &&& (9223372036854775807 : Int64)) (q1 &&& (9223372036854775807 : Int64)) (q3 &&& (9223372036854775807 : Int64)))), .unset] [])) t
      refine XS.iconst X57.here hx rfl (hb hby at_85) ?_
      first | exact k | (simp only [if_pos hc78] at k ⊢; exact k)
    · show Steps p.tables e below (T57.setTop (mkF m 78 #[.val (.long q0), .second, .val (.long q1), .second, .val (.long q2), .second, .val (.long q3), .second, .val (.long (q0 &&& (9223372036854775807 : Int64))), .second, .val (.long (q1 &&& (9223372036854775807 : Int64))), .second, .val (.long (q2 &&& (9223372036854775807 : Int64))), .second, .val (.long (q3 &&& (9223372036854775807 : Int64))), .second, .val (.ref b24), .val (.ref b37), .val (.int (rm4_r (q0 &&& (9223372036854775807 : Int64)) (q2 &&& (9223372036854775807 : Int64)) (q1 &&& (9223372036854775807 : Int64)) (q3 &&& (9223372036854775807 : Int64)))), .unset] [(.int (Jvm.Free.XT.cmpL (((q2 &&& (9223372036854775807 : Int64)) - (q0 &&& (9223372036854775807 : Int64))) ||| ((q3 &&& (9223372036854775807 : Int64)) - (q1 &&& (9223372036854775807 : Int64)))) (0 : Int64)))])) t
      refine XS.ifNo X57.here hx rfl (hb hby at_78) rfl (Jvm.Free.XT.ll_lt_f hc78) ?_
      show Steps p.tables e below (T57.setTop (mkF m 81 #[.val (.long q0), .second, .val (.long q1), .second, .val (.long q2), .second, .val (.long q3), .second, .val (.long (q0 &&& (9223372036854775807 : Int64))), .second, .val (.long (q1 &&& (9223372036854775807 : Int64))), .second, .val (.long (q2 &&& (9223372036854775807 : Int64))), .second, .val (.long (q3 &&& (9223372036854775807 : Int64))), .second, .val (.ref b24), .val (.ref b37), .val (.int (rm4_r (q0 &&& (9223372036854775807 : Int64)) (q2 &&& (9223372036854775807 : Int64)) (q1 &&& (9223372036854775807 : Int64)) (q3 &&& (9223372036854775807 : Int64)))), .unset] [])) t
      refine XS.iconst X57.here hx rfl (hb hby at_81) ?_
      show Steps p.tables e below (T57.setTop (mkF m 82 #[.val (.long q0), .second, .val (.long q1), .second, .val (.long q2), .second, .val (.long q3), .second, .val (.long (q0 &&& (9223372036854775807 : Int64))), .second, .val (.long (q1 &&& (9223372036854775807 : Int64))), .second, .val (.long (q2 &&& (9223372036854775807 : Int64))), .second, .val (.long (q3 &&& (9223372036854775807 : Int64))), .second, .val (.ref b24), .val (.ref b37), .val (.int (rm4_r (q0 &&& (9223372036854775807 : Int64)) (q2 &&& (9223372036854775807 : Int64)) (q1 &&& (9223372036854775807 : Int64)) (q3 &&& (9223372036854775807 : Int64)))), .unset] [(.int (1 : Int32))])) t
      refine XS.goto X57.here hx rfl (pc0 := 82) (pc' := 86) rfl (hb hby at_82) (by decide) (by decide) ?_
      first | exact k | (simp only [if_neg hc78] at k ⊢; exact k)
  refine own_go (S' := T57.setTop (mkF m 92 #[.val (.long q0), .second, .val (.long q1), .second, .val (.long q2), .second, .val (.long q3), .second, .val (.long (q0 &&& (9223372036854775807 : Int64))), .second, .val (.long (q1 &&& (9223372036854775807 : Int64))), .second, .val (.long (q2 &&& (9223372036854775807 : Int64))), .second, .val (.long (q3 &&& (9223372036854775807 : Int64))), .second, .val (.ref b24), .val (.ref b37), .val (.int (rm4_r (q0 &&& (9223372036854775807 : Int64)) (q2 &&& (9223372036854775807 : Int64)) (q1 &&& (9223372036854775807 : Int64)) (q3 &&& (9223372036854775807 : Int64)))), .val (.int (if (((q2 &&& (9223372036854775807 : Int64)) - (q0 &&& (9223372036854775807 : Int64))) ||| ((q3 &&& (9223372036854775807 : Int64)) - (q1 &&& (9223372036854775807 : Int64)))) < (0 : Int64) then (0 : Int32) else (1 : Int32)))] [(.int (if (((q2 &&& (9223372036854775807 : Int64)) - (q0 &&& (9223372036854775807 : Int64))) ||| ((q3 &&& (9223372036854775807 : Int64)) - (q1 &&& (9223372036854775807 : Int64)))) < (0 : Int64) then (0 : Int32) else (1 : Int32))), (.int (rm4_r (q0 &&& (9223372036854775807 : Int64)) (q2 &&& (9223372036854775807 : Int64)) (q1 &&& (9223372036854775807 : Int64)) (q3 &&& (9223372036854775807 : Int64))))])) (fun t k => ?_) ?_
  · show Steps p.tables e below (T57.setTop (mkF m 86 #[.val (.long q0), .second, .val (.long q1), .second, .val (.long q2), .second, .val (.long q3), .second, .val (.long (q0 &&& (9223372036854775807 : Int64))), .second, .val (.long (q1 &&& (9223372036854775807 : Int64))), .second, .val (.long (q2 &&& (9223372036854775807 : Int64))), .second, .val (.long (q3 &&& (9223372036854775807 : Int64))), .second, .val (.ref b24), .val (.ref b37), .val (.int (rm4_r (q0 &&& (9223372036854775807 : Int64)) (q2 &&& (9223372036854775807 : Int64)) (q1 &&& (9223372036854775807 : Int64)) (q3 &&& (9223372036854775807 : Int64)))), .unset] [(.int (if (((q2 &&& (9223372036854775807 : Int64)) - (q0 &&& (9223372036854775807 : Int64))) ||| ((q3 &&& (9223372036854775807 : Int64)) - (q1 &&& (9223372036854775807 : Int64)))) < (0 : Int64) then (0 : Int32) else (1 : Int32)))])) t
    refine XS.istore X57.here hx rfl (hb hby at_86) rfl (l' := #[.val (.long q0), .second, .val (.long q1), .second, .val (.long q2), .second, .val (.long q3), .second, .val (.long (q0 &&& (9223372036854775807 : Int64))), .second, .val (.long (q1 &&& (9223372036854775807 : Int64))), .second, .val (.long (q2 &&& (9223372036854775807 : Int64))), .second, .val (.long (q3 &&& (9223372036854775807 : Int64))), .second, .val (.ref b24), .val (.ref b37), .val (.int (rm4_r (q0 &&& (9223372036854775807 : Int64)) (q2 &&& (9223372036854775807 : Int64)) (q1 &&& (9223372036854775807 : Int64)) (q3 &&& (9223372036854775807 : Int64)))), .val (.int (if (((q2 &&& (9223372036854775807 : Int64)) - (q0 &&& (9223372036854775807 : Int64))) ||| ((q3 &&& (9223372036854775807 : Int64)) - (q1 &&& (9223372036854775807 : Int64)))) < (0 : Int64) then (0 : Int32) else (1 : Int32)))]) rfl ?_
    show Steps p.tables e below (T57.setTop (mkF m 88 #[.val (.long q0), .second, .val (.long q1), .second, .val (.long q2), .second, .val (.long q3), .second, .val (.long (q0 &&& (9223372036854775807 : Int64))), .second, .val (.long (q1 &&& (9223372036854775807 : Int64))), .second, .val (.long (q2 &&& (9223372036854775807 : Int64))), .second, .val (.long (q3 &&& (9223372036854775807 : Int64))), .second, .val (.ref b24), .val (.ref b37), .val (.int (rm4_r (q0 &&& (9223372036854775807 : Int64)) (q2 &&& (9223372036854775807 : Int64)) (q1 &&& (9223372036854775807 : Int64)) (q3 &&& (9223372036854775807 : Int64)))), .val (.int (if (((q2 &&& (9223372036854775807 : Int64)) - (q0 &&& (9223372036854775807 : Int64))) ||| ((q3 &&& (9223372036854775807 : Int64)) - (q1 &&& (9223372036854775807 : Int64)))) < (0 : Int64) then (0 : Int32) else (1 : Int32)))] [])) t
    refine XS.iload X57.here hx rfl (hb hby at_88) rfl ?_
    show Steps p.tables e below (T57.setTop (mkF m 90 #[.val (.long q0), .second, .val (.long q1), .second, .val (.long q2), .second, .val (.long q3), .second, .val (.long (q0 &&& (9223372036854775807 : Int64))), .second, .val (.long (q1 &&& (9223372036854775807 : Int64))), .second, .val (.long (q2 &&& (9223372036854775807 : Int64))), .second, .val (.long (q3 &&& (9223372036854775807 : Int64))), .second, .val (.ref b24), .val (.ref b37), .val (.int (rm4_r (q0 &&& (9223372036854775807 : Int64)) (q2 &&& (9223372036854775807 : Int64)) (q1 &&& (9223372036854775807 : Int64)) (q3 &&& (9223372036854775807 : Int64)))), .val (.int (if (((q2 &&& (9223372036854775807 : Int64)) - (q0 &&& (9223372036854775807 : Int64))) ||| ((q3 &&& (9223372036854775807 : Int64)) - (q1 &&& (9223372036854775807 : Int64)))) < (0 : Int64) then (0 : Int32) else (1 : Int32)))] [(.int (rm4_r (q0 &&& (9223372036854775807 : Int64)) (q2 &&& (9223372036854775807 : Int64)) (q1 &&& (9223372036854775807 : Int64)) (q3 &&& (9223372036854775807 : Int64))))])) t
    refine XS.iload X57.here hx rfl (hb hby at_90) rfl ?_
    exact k
  refine own_go (S' := T57.setTop (mkF m 100 #[.val (.long q0), .second, .val (.long q1), .second, .val (.long q2), .second, .val (.long q3), .second, .val (.long (q0 &&& (9223372036854775807 : Int64))), .second, .val (.long (q1 &&& (9223372036854775807 : Int64))), .second, .val (.long (q2 &&& (9223372036854775807 : Int64))), .second, .val (.long (q3 &&& (9223372036854775807 : Int64))), .second, .val (.ref b24), .val (.ref b37), .val (.int (rm4_r (q0 &&& (9223372036854775807 : Int64)) (q2 &&& (9223372036854775807 : Int64)) (q1 &&& (9223372036854775807 : Int64)) (q3 &&& (9223372036854775807 : Int64)))), .val (.int (if (((q2 &&& (9223372036854775807 : Int64)) - (q0 &&& (9223372036854775807 : Int64))) ||| ((q3 &&& (9223372036854775807 : Int64)) - (q1 &&& (9223372036854775807 : Int64)))) < (0 : Int64) then (0 : Int32) else (1 : Int32)))] [(.int (if (rm4_r (q0 &&& (9223372036854775807 : Int64)) (q2 &&& (9223372036854775807 : Int64)) (q1 &&& (9223372036854775807 : Int64)) (q3 &&& (9223372036854775807 : Int64))) = (if (((q2 &&& (9223372036854775807 : Int64)) - (q0 &&& (9223372036854775807 : Int64))) ||| ((q3 &&& (9223372036854775807 : Int64)) - (q1 &&& (9223372036854775807 : Int64)))) < (0 : Int64) then (0 : Int32) else (1 : Int32)) then (1 : Int32) else (0 : Int32)))])) (fun t k => ?_) ?_
  · show Steps p.tables e below (T57.setTop (mkF m 92 #[.val (.long q0), .second, .val (.long q1), .second, .val (.long q2), .second, .val (.long q3), .second, .val (.long (q0 &&& (9223372036854775807 : Int64))), .second, .val (.long (q1 &&& (9223372036854775807 : Int64))), .second, .val (.long (q2 &&& (9223372036854775807 : Int64))), .second, .val (.long (q3 &&& (9223372036854775807 : Int64))), .second, .val (.ref b24), .val (.ref b37), .val (.int (rm4_r (q0 &&& (9223372036854775807 : Int64)) (q2 &&& (9223372036854775807 : Int64)) (q1 &&& (9223372036854775807 : Int64)) (q3 &&& (9223372036854775807 : Int64)))), .val (.int (if (((q2 &&& (9223372036854775807 : Int64)) - (q0 &&& (9223372036854775807 : Int64))) ||| ((q3 &&& (9223372036854775807 : Int64)) - (q1 &&& (9223372036854775807 : Int64)))) < (0 : Int64) then (0 : Int32) else (1 : Int32)))] [(.int (if (((q2 &&& (9223372036854775807 : Int64)) - (q0 &&& (9223372036854775807 : Int64))) ||| ((q3 &&& (9223372036854775807 : Int64)) - (q1 &&& (9223372036854775807 : Int64)))) < (0 : Int64) then (0 : Int32) else (1 : Int32))), (.int (rm4_r (q0 &&& (9223372036854775807 : Int64)) (q2 &&& (9223372036854775807 : Int64)) (q1 &&& (9223372036854775807 : Int64)) (q3 &&& (9223372036854775807 : Int64))))])) t
    by_cases hc92 : (rm4_r (q0 &&& (9223372036854775807 : Int64)) (q2 &&& (9223372036854775807 : Int64)) (q1 &&& (9223372036854775807 : Int64)) (q3 &&& (9223372036854775807 : Int64))) = (if (((q2 &&& (9223372036854775807 : Int64)) - (q0 &&& (9223372036854775807 : Int64))) ||| ((q3 &&& (9223372036854775807 : Int64)) - (q1 &&& (9223372036854775807 : Int64)))) < (0 : Int64) then (0 : Int32) else (1 : Int32))
    · show Steps p.tables e below (T57.setTop (mkF m 92 #[.val (.long q0), .second, .val (.long q1), .second, .val (.long q2), .second, .val (.long q3), .second, .val (.long (q0 &&& (9223372036854775807 : Int64))), .second, .val (.long (q1 &&& (9223372036854775807 : Int64))), .second, .val (.long (q2 &&& (9223372036854775807 : Int64))), .second, .val (.long (q3 &&& (9223372036854775807 : Int64))), .second, .val (.ref b24), .val (.ref b37), .val (.int (rm4_r (q0 &&& (9223372036854775807 : Int64)) (q2 &&& (9223372036854775807 : Int64)) (q1 &&& (9223372036854775807 : Int64)) (q3 &&& (9223372036854775807 : Int64)))), .val (.int (if (((q2 &&& (9223372036854775807 : Int64)) - (q0 &&& (9223372036854775807 : Int64))) ||| ((q3 &&& (9223372036854775807 : Int64)) - (q1 &&& (9223372036854775807 : Int64)))) < (0 : Int64) then (0 : Int32) else (1 : Int32)))] [(.int (if (((q2 &&& (9223372036854775807 : Int64)) - (q0 &&& (9223372036854775807 : Int64))) ||| ((q3 &&& (9223372036854775807 : Int64)) - (q1 &&& (9223372036854775807 : Int64)))) < (0 : Int64) then (0 : Int32) else (1 : Int32))), (.int (rm4_r (q0 &&& (9223372036854775807 : Int64)) (q2 &&& (9223372036854775807 : Int64)) (q1 &&& (9223372036854775807 : Int64)) (q3 &&& (9223372036854775807 : Int64))))])) t
      refine XS.icmpNo X57.here hx rfl (hb hby at_92) rfl (teq hc92).2 ?_
      show Steps p.tables e below (T57.setTop (mkF m 95 #[.val (.long q0), .second, .val (.long q1), .second, .val (.long q2), .second, .val (.long q3), .second, .val (.long (q0 &&& (9223372036854775807 : Int64))), .second, .val (.long (q1 &&& (9223372036854775807 : Int64))), .second, .val (.long (q2 &&& (9223372036854775807 : Int64))), .second, .val (.long (q3 &&& (9223372036854775807 : Int64))), .second, .val (.ref b24), .val (.ref b37), .val (.int (rm4_r (q0 &&& (9223372036854775807 : Int64)) (q2 &&& (9223372036854775807 : Int64)) (q1 &&& (9223372036854775807 : Int64)) (q3 &&& (9223372036854775807 : Int64)))), .val (.int (if (((q2 &&& (9223372036854775807 : Int64)) - (q0 &&& (9223372036854775807 : Int64))) ||| ((q3 &&& (9223372036854775807 : Int64)) - (q1 &&& (9223372036854775807 : Int64)))) < (0 : Int64) then (0 : Int32) else (1 : Int32)))] [])) t
      refine XS.iconst X57.here hx rfl (hb hby at_95) ?_
      show Steps p.tables e below (T57.setTop (mkF m 96 #[.val (.long q0), .second, .val (.long q1), .second, .val (.long q2), .second, .val (.long q3), .second, .val (.long (q0 &&& (9223372036854775807 : Int64))), .second, .val (.long (q1 &&& (9223372036854775807 : Int64))), .second, .val (.long (q2 &&& (9223372036854775807 : Int64))), .second, .val (.long (q3 &&& (9223372036854775807 : Int64))), .second, .val (.ref b24), .val (.ref b37), .val (.int (rm4_r (q0 &&& (9223372036854775807 : Int64)) (q2 &&& (9223372036854775807 : Int64)) (q1 &&& (9223372036854775807 : Int64)) (q3 &&& (9223372036854775807 : Int64)))), .val (.int (if (((q2 &&& (9223372036854775807 : Int64)) - (q0 &&& (9223372036854775807 : Int64))) ||| ((q3 &&& (9223372036854775807 : Int64)) - (q1 &&& (9223372036854775807 : Int64)))) < (0 : Int64) then (0 : Int32) else (1 : Int32)))] [(.int (1 : Int32))])) t
      refine XS.goto X57.here hx rfl (pc0 := 96) (pc' := 100) rfl (hb hby at_96) (by decide) (by decide) ?_
      first | exact k | (simp only [if_pos hc92] at k ⊢; exact k)
    · show Steps p.tables e below (T57.setTop (mkF m 92 #[.val (.long q0), .second, .val (.long q1), .second, .val (.long q2), .second, .val (.long q3), .second, .val (.long (q0 &&& (9223372036854775807 : Int64))), .second, .val (.long (q1 &&& (9223372036854775807 : Int64))), .second, .val (.long (q2 &&& (9223372036854775807 : Int64))), .second, .val (.long (q3 &&& (9223372036854775807 : Int64))), .second, .val (.ref b24), .val (.ref b37), .val (.int (rm4_r (q0 &&& (9223372036854775807 : Int64)) (q2 &&& (9223372036854775807 : Int64)) (q1 &&& (9223372036854775807 : Int64)) (q3 &&& (9223372036854775807 : Int64)))), .val (.int (if (((q2 &&& (9223372036854775807 : Int64)) - (q0 &&& (9223372036854775807 : Int64))) ||| ((q3 &&& (9223372036854775807 : Int64)) - (q1 &&& (9223372036854775807 : Int64)))) < (0 : Int64) then (0 : Int32) else (1 : Int32)))] [(.int (if (((q2 &&& (9223372036854775807 : Int64)) - (q0 &&& (9223372036854775807 : Int64))) ||| ((q3 &&& (9223372036854775807 : Int64)) - (q1 &&& (9223372036854775807 : Int64)))) < (0 : Int64) then (0 : Int32) else (1 : Int32))), (.int (rm4_r (q0 &&& (9223372036854775807 : Int64)) (q2 &&& (9223372036854775807 : Int64)) (q1 &&& (9223372036854775807 : Int64)) (q3 &&& (9223372036854775807 : Int64))))])) t
      refine XS.icmpYes X57.here hx rfl (pc0 := 92) (pc' := 99) rfl (hb hby at_92) rfl (feq hc92).2 (by decide) (by decide) ?_
      show Steps p.tables e below (T57.setTop (mkF m 99 #[.val (.long q0), .second, .val (.long q1), .second, .val (.long q2), .second, .val (.long q3), .second, .val (.long (q0 &&& (9223372036854775807 : Int64))), .second, .val (.long (q1 &&& (9223372036854775807 : Int64))), .second, .val (.long (q2 &&& (9223372036854775807 : Int64))), .second, .val (.long (q3 &&& (9223372036854775807 : Int64))), .second, .val (.ref b24), .val (.ref b37), .val (.int (rm4_r (q0 &&& (9223372036854775807 : Int64)) (q2 &&& (9223372036854775807 : Int64)) (q1 &&& (9223372036854775807 : Int64)) (q3 &&& (9223372036854775807 : Int64)))), .val (.int (if (((q2 &&& (9223372036854775807 : Int64)) - (q0 &&& (9223372036854775807 : Int64))) ||| ((q3 &&& (9223372036854775807 : Int64)) - (q1 &&& (9223372036854775807 : Int64)))) < (0 : Int64) then (0 : Int32) else (1 : Int32)))] [])) t
      refine XS.iconst X57.here hx rfl (hb hby at_99) ?_
      first | exact k | (simp only [if_neg hc92] at k ⊢; exact k)
  have hfin : (if (rm4_r (q0 &&& (9223372036854775807 : Int64)) (q2 &&& (9223372036854775807 : Int64)) (q1 &&& (9223372036854775807 : Int64)) (q3 &&& (9223372036854775807 : Int64))) = (if (((q2 &&& (9223372036854775807 : Int64)) - (q0 &&& (9223372036854775807 : Int64))) ||| ((q3 &&& (9223372036854775807 : Int64)) - (q1 &&& (9223372036854775807 : Int64)))) < (0 : Int64) then (0 : Int32) else (1 : Int32)) then (1 : Int32) else (0 : Int32)) = (1 : Int32) := own_fin q0 q1 q2 q3
  rw [hfin]
  obtain ⟨fs, hr, hrun, hended, hW, hsame⟩ := X57.leave (v := some (.int (1 : Int32))) (fun h => by rw [Bd.returns] at h; cases h)
  refine own_end (v := some (.int (1 : Int32))) ?_ hrun hended ?_ hW (hsame.mono (by decide) (by decide))
  · show Steps p.tables e below (T57.setTop (mkF m 100 #[.val (.long q0), .second, .val (.long q1), .second, .val (.long q2), .second, .val (.long q3), .second, .val (.long (q0 &&& (9223372036854775807 : Int64))), .second, .val (.long (q1 &&& (9223372036854775807 : Int64))), .second, .val (.long (q2 &&& (9223372036854775807 : Int64))), .second, .val (.long (q3 &&& (9223372036854775807 : Int64))), .second, .val (.ref b24), .val (.ref b37), .val (.int (rm4_r (q0 &&& (9223372036854775807 : Int64)) (q2 &&& (9223372036854775807 : Int64)) (q1 &&& (9223372036854775807 : Int64)) (q3 &&& (9223372036854775807 : Int64)))), .val (.int (if (((q2 &&& (9223372036854775807 : Int64)) - (q0 &&& (9223372036854775807 : Int64))) ||| ((q3 &&& (9223372036854775807 : Int64)) - (q1 &&& (9223372036854775807 : Int64)))) < (0 : Int64) then (0 : Int32) else (1 : Int32)))] [(.int (1 : Int32))])) _
    exact retN X57 hx (t := .boolean) Bd.returns (by simp) (hb hby at_100) hr
  · show Qrm0 Z q0 q1 q2 q3 h0 n0 _ T57.heap _
    rw [e57]
    exact ⟨rfl, N60⟩
set_option maxRecDepth 65536 in
set_option maxHeartbeats 40000000 in
theorem comes_1 {Post : Tables → Env → Array Value → State → Outcome → State → Prop} (hpost : ∀ tb e args s v u, (limb_1_1.after args s (.returned v) u = true ∧ limb_1_2.after args s (.returned v) u = true ∧ True) → FrameEnd s (.returned v) u (Jvm.fieldLocs frame_1_writes args s ++ Jvm.arrayLocs frame_1_arrays args s ++ Jvm.staticLocs frame_1_statics s) 16 128 → Post tb e args s (.returned v) u) :
    ArmFor flags0 classFile x code maxLocals ret World_1 tables_1 room_1 Calls_1 rest_1 Pre_1 Post := by
  intro l hfl _ _ p e ha hc hk s m args below hf hA hF happ hP
  obtain ⟨hcalls, hrest, hpre⟩ := hP
  obtain ⟨-, -, -, hnamed, -, -, -, hat⟩ := (Spec.applies_iff hf).mp happ
  obtain ⟨hg, hn⟩ := and_e (Cond.before_iff.mp (show (Jvm.Cond.and given_1 narrow_1).before args s = true from hpre))
  obtain ⟨g61, g62⟩ := and_e hg
  obtain ⟨g63, g64⟩ := and_e g62
  obtain ⟨g65, g66⟩ := and_e g64
  obtain ⟨g67, g68⟩ := and_e g66
  obtain ⟨w0, w1, w2, w3, rfl⟩ : ∃ w0 w1 w2 w3 : Value, args = #[w0, w1, w2, w3] := by
    have hs : args.size = 4 := by simpa [Cond.value, given_1] using g61
    obtain ⟨L⟩ := args
    match L, hs with
    | [w0, w1, w2, w3], _ => exact ⟨w0, w1, w2, w3, rfl⟩
  have hw := fun d (hd : d ∈ tables_1) => atoms_spec (ws := Jvm.Cond.code x code maxLocals ret :: tables_1) hat d (List.mem_cons_of_mem _ hd)
  have hfit : Fit s := fun {y c} hc i hi => by
    obtain ⟨ha, rfl⟩ := Array.getElem?_eq_some_iff.mp hc
    have q := List.all_eq_true.mp ((Array.all_eq_true_iff_forall_mem.mp hF) _ (Array.getElem_mem ha)) i (List.mem_range.mpr hi)
    simpa [Array.getElem?_eq_getElem hi] using q
  obtain ⟨i0, ei0⟩ := isL_v g63
  obtain rfl : w0 = (.long i0) := Option.some.inj ei0
  obtain ⟨i1, ei1⟩ := isL_v g65
  obtain rfl : w1 = (.long i1) := Option.some.inj ei1
  obtain ⟨i2, ei2⟩ := isL_v g67
  obtain rfl : w2 = (.long i2) := Option.some.inj ei2
  obtain ⟨i3, ei3⟩ := isL_v g68
  obtain rfl : w3 = (.long i3) := Option.some.inj ei3
  obtain ⟨n, o, h1, h2, h3, _, L, rfl, ⟨rfl, N⟩, hq⟩ := rm0 l s _ hw tables_1 i0 i1 i2 i3 s.heap s.heap.size (Nat.le_refl _)  p e ha hc hk s m _ below hf ((Spec.applies_iff_loose hf).mp happ).1 ⟨rfl, State.Warmed39.refl s, rfl⟩ trivial
  refine ⟨n, _, h1, h2, h3, hpost _ _ _ _ _ _ ⟨Cond.after_iff.mpr rfl, Cond.after_iff.mpr (eq_i res_at (Term.int_eval (1)) rfl), trivial⟩ ⟨hq.1, hq.2.1, (hq.2.2.sift fun y hy => Or.inr (N y hy)).mono (by decide) (by decide)⟩⟩
theorem main_1_1 : Claimed_1_1 := comes_1 fun _ _ _ _ _ _ h hF => ⟨h.1, hF⟩
theorem main_1_2 : Claimed_1_2 := comes_1 fun _ _ _ _ _ _ h hF => ⟨h.2.1, hF⟩
end Jvm.Pilot.@@N@@
namespace Jvm.Pilot.@@N@@
open Jvm Jvm.ClassFile Sem Op Lib Jvm.Free Jvm.Stand Jvm.Pilot.@@N@@.Jvm.D
/-! MADE BY PROGRAM (witnessworld.py) out of the Statement's table words and the real class files: 10 classes; the members and pool entries that the words name. The judged class is class 1, her method 1. -/
namespace start1
open Jvm.ClassFile
def u (s : String) : CpInfo := .utf8 (stringToUtf16 s)
/-- a pool by its gaps: so many unusable entries, then the entry; so many at the end -/
def gap : Nat → List CpInfo → List CpInfo
  | 0, r => r
  | n + 1, r => .unusable :: gap n r
def poolList (es : List (Nat × CpInfo)) (last : Nat) : List CpInfo := es.foldr (fun e r => gap e.1 (e.2 :: r)) (gap last [])
def pool (es : List (Nat × CpInfo)) (last : Nat) : Array CpInfo := ⟨poolList es last⟩
def fileOf (pool : Array CpInfo) (this : Nat) (attrs : Array Attribute := #[]) (ms : Array MethodInfo := #[]) (fl : Nat := 33) (sup : Nat := 0) (ifs : Array Nat := #[]) (fds : Array FieldInfo := #[]) : ClassFile where
  minorVersion := 0
  majorVersion := 65
  constantPool := pool
  accessFlags := fl
  thisClass := this
  superClass := sup
  interfaces := ifs
  fields := fds
  methods := ms
  attributes := attrs
def plain (name : String) (sup : Option ClassId) : Class where
  name := name
  kind := .ordinary
  loader := none
  accessFlags := 33
  super := sup
  interfaces := #[]
  cf := none
  fields := #[]
  methods := #[]
  instanceTypes := #[]
  staticTypes := #[]
  resolved := #[]
  callSites := []
  init := .initialized
  statics := none
  mirror := none

def pool0 : Array CpInfo := pool [(5, u "<init>"), (0, u "()V"), (1, .class_ 10), (1, u "java/lang/Object")] 113

def k0c0 : Code := { maxStack := 0, maxLocals := 1, code := object_method_1_code, exceptionTable := #[], attributes := #[] }
def k0m0 : Method := { name := "<init>", desc := "()V", sig := { parameters := [], returnType := none }, accessFlags := 1, code := some k0c0 }
/-- java/lang/Object -/
def k0 : Class := { plain "java/lang/Object" none with
  accessFlags := 33
  interfaces := #[]
  cf := some (fileOf pool0 8 #[] #[{ accessFlags := 1, nameIndex := 5, descriptorIndex := 6, attributes := #[] }] 33 0 #[] #[])
  fields := #[]
  methods := #[k0m0]
  instanceTypes := #[]
  staticTypes := #[]
  resolved := Array.replicate 124 none
  statics := none }

def pool1 : Array CpInfo := pool [(2, .class_ 4), (1, u "java/lang/Object"), (0, u "<init>"), (0, u "()V"), (2, .long 9223372036854775807), (1, .class_ 12), (0, u "com/example/tollgate/tollgate/tariff/Quantities"), (0, .methodref 11 14), (0, .nameAndType 5 15), (0, u "(JJ)V"), (0, .methodref 11 17), (0, .nameAndType 18 19), (0, u "isAtMost"), (0, u "(Lcom/example/tollgate/tollgate/tariff/Quantities;)Z"), (0, .class_ 21), (0, u "com/example/tollgate/tollgate/tariff/QuantitiesIsAtMostPinLaw"), (2, u "law"), (0, u "(JJJJ)Z")] 3

def k1m0 : Method := { name := "<init>", desc := "()V", sig := { parameters := [], returnType := none }, accessFlags := 1, code := none }
def k1c1 : Code := { maxStack := 6, maxLocals := 20, code := code, exceptionTable := #[], attributes := #[] }
def k1m1 : Method := { name := "law", desc := "(JJJJ)Z", sig := { parameters := [.long, .long, .long, .long], returnType := some .boolean }, accessFlags := 9, code := some k1c1 }
/-- com/example/tollgate/tollgate/tariff/QuantitiesIsAtMostPinLaw -/
def k1 : Class := { plain "com/example/tollgate/tollgate/tariff/QuantitiesIsAtMostPinLaw" (some 0) with
  accessFlags := 49
  interfaces := #[]
  cf := some (fileOf pool1 20 #[] #[{ accessFlags := 1, nameIndex := 5, descriptorIndex := 6, attributes := #[] }, { accessFlags := 9, nameIndex := 24, descriptorIndex := 25, attributes := #[] }] 49 2 #[] #[])
  fields := #[]
  methods := #[k1m0, k1m1]
  instanceTypes := #[]
  staticTypes := #[]
  resolved := Array.replicate 29 none
  statics := none }

def pool2 : Array CpInfo := pool [(1, .methodref 2 3), (0, .class_ 4), (0, .nameAndType 5 6), (0, u "java/lang/Object"), (0, u "<init>"), (0, u "()V"), (0, .class_ 8), (0, u "java/lang/Record")] 13

def k2c0 : Code := { maxStack := 1, maxLocals := 1, code := jdk_30_method_1_code, exceptionTable := #[], attributes := #[] }
def k2m0 : Method := { name := "<init>", desc := "()V", sig := { parameters := [], returnType := none }, accessFlags := 4, code := some k2c0 }
/-- java/lang/Record -/
def k2 : Class := { plain "java/lang/Record" (some 0) with
  accessFlags := 1057
  interfaces := #[]
  cf := some (fileOf pool2 7 #[] #[{ accessFlags := 4, nameIndex := 5, descriptorIndex := 6, attributes := #[] }] 1057 2 #[] #[])
  fields := #[]
  methods := #[k2m0]
  instanceTypes := #[]
  staticTypes := #[]
  resolved := Array.replicate 22 none
  statics := none }

def pool3 : Array CpInfo := pool [(1, .methodref 2 3), (0, .class_ 4), (0, .nameAndType 5 6), (0, u "java/lang/Record"), (0, u "<init>"), (0, u "()V"), (9, .fieldref 17 18), (0, .class_ 19), (0, .nameAndType 20 21), (0, u "com/example/tollgate/tollgate/tariff/Quantities"), (0, u "primary"), (0, u "J"), (0, .fieldref 17 23), (0, .nameAndType 24 21), (0, u "secondary"), (2, u "(JJ)V"), (51, u "NONE"), (0, u "Lcom/example/tollgate/tollgate/tariff/Quantities;"), (9, u "isAtMost"), (0, u "(Lcom/example/tollgate/tollgate/tariff/Quantities;)Z")] 37

def k3c0 : Code := { maxStack := 6, maxLocals := 5, code := prog_51_method_1_code, exceptionTable := #[], attributes := #[] }
def k3m0 : Method := { name := "<init>", desc := "(JJ)V", sig := { parameters := [.long, .long], returnType := none }, accessFlags := 1, code := some k3c0 }
def k3c1 : Code := { maxStack := 4, maxLocals := 2, code := prog_51_method_7_code, exceptionTable := #[], attributes := #[] }
def k3m1 : Method := { name := "isAtMost", desc := "(Lcom/example/tollgate/tollgate/tariff/Quantities;)Z", sig := { parameters := [(.object "com/example/tollgate/tollgate/tariff/Quantities")], returnType := some .boolean }, accessFlags := 1, code := some k3c1 }
/-- com/example/tollgate/tollgate/tariff/Quantities -/
def k3 : Class := { plain "com/example/tollgate/tollgate/tariff/Quantities" (some 2) with
  accessFlags := 49
  interfaces := #[]
  cf := some (fileOf pool3 17 #[] #[{ accessFlags := 1, nameIndex := 5, descriptorIndex := 27, attributes := #[] }, { accessFlags := 1, nameIndex := 90, descriptorIndex := 91, attributes := #[] }] 49 2 #[] #[{ accessFlags := 18, nameIndex := 20, descriptorIndex := 21, attributes := #[] }, { accessFlags := 18, nameIndex := 24, descriptorIndex := 21, attributes := #[] }, { accessFlags := 25, nameIndex := 79, descriptorIndex := 80, attributes := #[] }])
  fields := #[{ name := "primary", type := .long, accessFlags := 18, slot := 0, constantValue := 0 }, { name := "secondary", type := .long, accessFlags := 18, slot := 1, constantValue := 0 }, { name := "NONE", type := (.object "com/example/tollgate/tollgate/tariff/Quantities"), accessFlags := 25, slot := 0, constantValue := 0 }]
  methods := #[k3m0, k3m1]
  instanceTypes := #[.long, .long]
  staticTypes := #[(.object "com/example/tollgate/tollgate/tariff/Quantities")]
  resolved := Array.replicate 129 none
  statics := none }

def pool4 : Array CpInfo := pool [(1, u "java/lang/Cloneable"), (0, .class_ 1), (0, u "java/lang/Object"), (0, .class_ 3)] 3

/-- java/lang/Cloneable -/
def k4 : Class := { plain "java/lang/Cloneable" (some 0) with
  accessFlags := 1537
  interfaces := #[]
  cf := some (fileOf pool4 2 #[] #[] 1537 4 #[] #[])
  fields := #[]
  methods := #[]
  instanceTypes := #[]
  staticTypes := #[]
  resolved := Array.replicate 8 none
  statics := none }

def pool5 : Array CpInfo := pool [(1, u "java/io/Serializable"), (0, .class_ 1), (0, u "java/lang/Object"), (0, .class_ 3)] 3

/-- java/io/Serializable -/
def k5 : Class := { plain "java/io/Serializable" (some 0) with
  accessFlags := 1537
  interfaces := #[]
  cf := some (fileOf pool5 2 #[] #[] 1537 4 #[] #[])
  fields := #[]
  methods := #[]
  instanceTypes := #[]
  staticTypes := #[]
  resolved := Array.replicate 8 none
  statics := none }

/-- the primitive byte -/
def k6 : Class := { plain "byte" none with kind := .primitive 'B', accessFlags := 0x411 }
/-- [B -/
def k7 : Class := { plain "[B" (some 0) with kind := .array 6 .byte, interfaces := #[4, 5], accessFlags := 1041 }

/-- the primitive int -/
def k8 : Class := { plain "int" none with kind := .primitive 'I', accessFlags := 0x411 }
/-- [I -/
def k9 : Class := { plain "[I" (some 0) with kind := .array 8 .int, interfaces := #[4, 5], accessFlags := 1041 }

def heap : Heap := #[]
def classes : Array Class := #[k0, k1, k2, k3, k4, k5, k6, k7, k8, k9]
def interned : List (Array UInt16 × Addr) := []
def slotsUsed : Nat := 0
def theMethod : MethodId := ⟨1, 1⟩
def args0 : Array Value := #[.long 5, .long 6, .long 7, .long 8]
def aboutOver (below : List Frame) : State where
  vm := { classes := classes, interned := interned.toArray }
  heap := heap
  slotsUsed := slotsUsed
  threads := #[{ frames := .invoking theMethod args0 :: below }]
def below0 : List Frame := [.native { method := ⟨0, 0⟩, args := #[] }]
def about1 : State := aboutOver below0
def p0 : Program := .bare "" "" ""
def e0 : Env := launch0.env 0 0 0
theorem w_frames : about1.frames = Frame.invoking theMethod args0 :: below0 := rfl
set_option maxRecDepth 65536 in
theorem w_args : argsFit about1.vm theMethod args0 = true := by decide +kernel
set_option maxRecDepth 65536 in
theorem w_heap : heapFits about1 = true := by decide +kernel
set_option maxRecDepth 65536 in
theorem w_runnable : about1.curStatus? = some .runnable := by decide +kernel
set_option maxRecDepth 65536 in
theorem w_alone : about1.alone = true := by decide +kernel
set_option maxRecDepth 65536 in
theorem w_named : about1.methodNamed? x = some theMethod := by decide +kernel
set_option maxRecDepth 65536 in
theorem w_hears : about1.hears theMethod below0 = true := by decide +kernel
set_option maxRecDepth 65536 in
theorem w_ripe : about1.ripe theMethod args0 below0 = true := by decide +kernel
theorem w_running : about1.status = .running := rfl
set_option maxRecDepth 65536 in
theorem w_room : about1.hasRoom e0.platform room_1 = true :=
  launch0.hasRoom_least _ room_1 (by decide +kernel) (by decide +kernel) (by decide +kernel) (by decide +kernel) (by decide +kernel) (by decide +kernel)
theorem allAtoms_all (ts : List Jvm.Cond) (a : Array Jvm.Value) (st : Jvm.State) : (allAtoms ts).before a st = ts.all (fun c => c.before a st) := by
  induction ts with
  | nil => rfl
  | cons c t ih =>
    show (Jvm.Cond.and c (allAtoms t)).before a st = _
    rw [Jvm.Cond.before_and, ih, List.all_cons]
def words1 : List Jvm.Cond := Jvm.Cond.code x code maxLocals ret :: tables_1
/-- a 'code' word, met by the world's own term for the bytes: nothing is compared byte by byte -/
theorem code_word {y : MethodName} {bytes : ByteArray} {mx : Nat} {rt : Option FieldType} {a : Array Value} {s : State} {m : MethodId} {meth : Method} {c : Code} (h1 : s.methodNamed? y = some m) (h2 : s.vm.method? m = some meth) (h3 : meth.code = some c) (h4 : c.code = bytes)
    (h5 : (c.maxLocals == mx && c.exceptionTable.isEmpty && decide (c.maxStack ≤ mostOperands) && decide (meth.sig.returnType = rt) && !meth.locks && decide (parseMethodDescriptor y.desc = some meth.sig)) = true) : (Jvm.Cond.code y bytes mx rt).before a s = true := by
  simp only [Bool.and_eq_true, beq_iff_eq, Bool.not_eq_true', decide_eq_true_eq] at h5
  obtain ⟨⟨⟨⟨⟨g1, g2⟩, g3⟩, g4⟩, g5⟩, g6⟩ := h5
  simp [Cond.before, Cond.holds, Cond.value, h1, h2, h3, h4, g1, g2, g3, g4, g5, g6]
def isCode : Jvm.Cond → Bool
  | .code _ _ _ _ => true
  | _ => false
theorem all_split {L : List Jvm.Cond} {P : Jvm.Cond → Bool} (h1 : L.all (fun c => isCode c || P c) = true) (h2 : ∀ c ∈ L.filter isCode, P c = true) : L.all P = true := by
  refine List.all_eq_true.mpr fun c hc => ?_
  have h := List.all_eq_true.mp h1 c hc
  rcases Bool.eq_false_or_eq_true (isCode c) with hi | hi
  · exact h2 c (List.mem_filter.mpr ⟨hc, hi⟩)
  · simpa [hi] using h
set_option maxRecDepth 65536 in
theorem w_c0 : (Jvm.Cond.code x code maxLocals ret).before args0 about1 = true := code_word (m := ⟨1, 1⟩) (meth := k1m1) (c := k1c1) (by decide +kernel) rfl rfl rfl (by decide +kernel)
set_option maxRecDepth 65536 in
theorem w_c1 : (Jvm.Cond.code ({ cls := "com/example/tollgate/tollgate/tariff/Quantities", name := "<init>", desc := "(JJ)V" } : Jvm.MethodName) prog_51_method_1_code (5 : Nat) (Option.none : Option Jvm.ClassFile.FieldType)).before args0 about1 = true := code_word (m := ⟨3, 0⟩) (meth := k3m0) (c := k3c0) (by decide +kernel) rfl rfl rfl (by decide +kernel)
set_option maxRecDepth 65536 in
theorem w_c2 : (Jvm.Cond.code ({ cls := "java/lang/Record", name := "<init>", desc := "()V" } : Jvm.MethodName) jdk_30_method_1_code (1 : Nat) (Option.none : Option Jvm.ClassFile.FieldType)).before args0 about1 = true := code_word (m := ⟨2, 0⟩) (meth := k2m0) (c := k2c0) (by decide +kernel) rfl rfl rfl (by decide +kernel)
set_option maxRecDepth 65536 in
theorem w_c3 : (Jvm.Cond.code ({ cls := "java/lang/Object", name := "<init>", desc := "()V" } : Jvm.MethodName) object_method_1_code (1 : Nat) (Option.none : Option Jvm.ClassFile.FieldType)).before args0 about1 = true := code_word (m := ⟨0, 0⟩) (meth := k0m0) (c := k0c0) (by decide +kernel) rfl rfl rfl (by decide +kernel)
set_option maxRecDepth 65536 in
theorem w_c4 : (Jvm.Cond.code ({ cls := "com/example/tollgate/tollgate/tariff/Quantities", name := "isAtMost", desc := "(Lcom/example/tollgate/tollgate/tariff/Quantities;)Z" } : Jvm.MethodName) prog_51_method_7_code (2 : Nat) (Option.some Jvm.ClassFile.FieldType.boolean)).before args0 about1 = true := code_word (m := ⟨3, 1⟩) (meth := k3m1) (c := k3c1) (by decide +kernel) rfl rfl rfl (by decide +kernel)
def codes1 : List Jvm.Cond := [Jvm.Cond.code x code maxLocals ret, Jvm.Cond.code ({ cls := "com/example/tollgate/tollgate/tariff/Quantities", name := "<init>", desc := "(JJ)V" } : Jvm.MethodName) prog_51_method_1_code (5 : Nat) (Option.none : Option Jvm.ClassFile.FieldType), Jvm.Cond.code ({ cls := "java/lang/Record", name := "<init>", desc := "()V" } : Jvm.MethodName) jdk_30_method_1_code (1 : Nat) (Option.none : Option Jvm.ClassFile.FieldType), Jvm.Cond.code ({ cls := "java/lang/Object", name := "<init>", desc := "()V" } : Jvm.MethodName) object_method_1_code (1 : Nat) (Option.none : Option Jvm.ClassFile.FieldType), Jvm.Cond.code ({ cls := "com/example/tollgate/tollgate/tariff/Quantities", name := "isAtMost", desc := "(Lcom/example/tollgate/tollgate/tariff/Quantities;)Z" } : Jvm.MethodName) prog_51_method_7_code (2 : Nat) (Option.some Jvm.ClassFile.FieldType.boolean)]
set_option maxRecDepth 65536 in
theorem codes_eq : words1.filter isCode = codes1 := rfl
theorem w_codes : ∀ c ∈ words1.filter isCode, c.before args0 about1 = true := by
  rw [codes_eq]
  intro c hc
  simp only [codes1, List.mem_cons, List.not_mem_nil, or_false] at hc
  rcases hc with rfl | rfl | rfl | rfl | rfl
  · exact w_c0
  · exact w_c1
  · exact w_c2
  · exact w_c3
  · exact w_c4
set_option maxRecDepth 65536 in
theorem w_t1 : (words1.take 24).all (fun c => isCode c || c.before args0 about1) = true := by decide +kernel
set_option maxRecDepth 65536 in
theorem w_t2 : (words1.drop 24).all (fun c => isCode c || c.before args0 about1) = true := by decide +kernel
theorem w_tables : (allAtoms (Jvm.Cond.code x code maxLocals ret :: tables_1)).before args0 about1 = true := by
  rw [allAtoms_all]
  show words1.all (fun c => c.before args0 about1) = true
  refine all_split ?_ w_codes
  rw [← List.take_append_drop 24 words1, List.all_append, w_t1, w_t2]
  rfl
set_option maxRecDepth 65536 in
theorem w_case : (Jvm.Cond.and given_1 narrow_1).before args0 about1 = true := by decide +kernel
theorem w_applies : (headSpec (Jvm.Cond.code x code maxLocals ret :: tables_1) room_1).applies x e0.platform about1 = true :=
  (Spec.applies_iff w_frames).mpr ⟨w_running, w_runnable, w_alone, w_named, w_hears, w_ripe, w_room, w_tables⟩
theorem atStart : AtStart classFile x code maxLocals ret World_1 tables_1 room_1 Calls_1 rest_1 Pre_1 launch0 p0 e0 about1 theMethod args0 below0 :=
  ⟨lists_1, trivial, launch0.admits_env _ _ _, launch0.least_env, fairChoices_fair.cas, fairChoices_fair.clock, w_frames, w_args, w_heap, w_applies, trivial, trivial, w_case⟩
end start1
theorem witness_1 : WitnessClaimed_1 := ⟨start1.p0, start1.e0, start1.about1, start1.theMethod, start1.args0, start1.below0, start1.atStart⟩
end Jvm.Pilot.@@N@@
