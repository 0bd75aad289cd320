import JvmDerived
import JvmDerived.Pilot.@@N@@Statement
import JvmDerived.Pilot.@@N@@Code
set_option linter.unusedVariables false
set_option linter.unusedSimpArgs false
namespace Jvm.RoadKit
open Sem ClassFile Op Lib Jvm.Stand Jvm.Free Jvm.LawKit
section New
variable {p : Program} {l : Launch} {e : Env} {R : Room} {s : State} {m : MethodId} {args : Array Value} {below : List Frame} {meth : Method} {c : Code} {T : State} {locs : List Loc} {cells slots : Nat}
theorem retI (X : Stand p l e R s m args below meth c T locs cells slots) (hx : p.tables.exec = Jvm.exec) {pc : Nat} {Ls : Array Slot} {z : Int32} {rest : List Value} (hret : meth.sig.returnType = some .int) (hd : decode c.code pc = .ok (.ireturn, 1)) {fs : List Frame}
    (hl : ∀ (f : JFrame) (acts : List Action), f.method = m → f.locked = none → f.entered = [] → (doReturn e (T.setTop f) acts (some (.int z))).1 = T.setFrames fs) : Steps p.tables e below (T.setTop (mkF m pc Ls (.int z :: rest))) (T.setFrames fs) := by
  have hm' : T.vm.method? m = some meth := X.method'
  have hn : narrow .int (.int z) = .int z := rfl
  show Steps p.tables e below (T.setTop { method := m, pc := pc, locals := Ls, stack := _ :: rest, locked := none }) _
  jvm_step X.here [X.here.top, hx, hd, hm', hret, hn]
  first | (intro acts; rw [hl _ acts rfl rfl rfl]) | rw [hl _ _ rfl rfl rfl]
  exact Steps.refl _
end New
end Jvm.RoadKit
@@BLOCK:NumsL.lean.txt@@
namespace Jvm.Pilot.@@N@@
open Jvm Jvm.ClassFile Sem Op Lib Jvm.Free Jvm.Stand Jvm.LawKit Jvm.RoadKit Bundle Jvm.Pilot.@@N@@.Jvm.D
/-- from S the run comes to an end that says Q -/
def own_Go (p : Program) (e : Env) (below : List Frame) (s : State) (Q : Option Value → Heap → List Loc → Prop) (c n : Nat) (S : State) : Prop :=
  ∃ s₂ o, Steps p.tables e below S s₂ ∧ s₂.status = .running ∧ Ended s₂ below o ∧ ∃ v L, o = .returned v ∧ Q v s₂.heap L ∧ FrameEnd s o s₂ L c n
theorem own_go {p : Program} {e : Env} {below : List Frame} {s : State} {Q : Option Value → Heap → List Loc → Prop} {c n : Nat} {S S' : State} (st : ∀ t, Steps p.tables e below S' t → Steps p.tables e below S t) (k : own_Go p e below s Q c n S') : own_Go p e below s Q c n S := by
  obtain ⟨s₂, o, h, r⟩ := k
  exact ⟨s₂, o, st _ h, r⟩
theorem own_goT {p : Program} {e : Env} {below : List Frame} {s : State} {Q : Option Value → Heap → List Loc → Prop} {c n : Nat} {S S' : State} (st : Steps p.tables e below S S') (k : own_Go p e below s Q c n S') : own_Go p e below s Q c n S := own_go (fun _ h => st.trans h) k
theorem own_end {p : Program} {e : Env} {below : List Frame} {s : State} {Q : Option Value → Heap → List Loc → Prop} {c n : Nat} {S s₂ : State} {v : Option Value} {L : List Loc} (h : Steps p.tables e below S s₂) (hrun : s₂.status = .running) (he : Ended s₂ below (.returned v)) (hq : Q v s₂.heap L) (hW : s.WarmedH s₂.vm) (hs : s.sameButNew ({ s₂ with vm := s.vm } : State) L c n) : own_Go p e below s Q c n S :=
  ⟨s₂, _, h, hrun, he, v, L, rfl, hq, ⟨_, rfl⟩, hW, hs⟩
/-- an array of known values, its class's number unsaid -/
def own_Arv (Z : State) (h : Heap) (a : Addr) (ty : FieldType) (n : Int32) (vs : List Value) (d : Value) : Prop := ∃ k, Arv Z h a k ty n vs d
theorem own_Arv.lt {Z : State} {h : Heap} {a : Addr} {ty : FieldType} {n : Int32} {vs : List Value} {d : Value} (F : own_Arv Z h a ty n vs d) : a < h.size := by obtain ⟨k, F⟩ := F; exact F.lt
theorem own_Arv.ext {Z : State} {h h' : Heap} {a : Addr} {ty : FieldType} {n : Int32} {vs : List Value} {d : Value} (F : own_Arv Z h a ty n vs d) (E : Ext h h') : own_Arv Z h' a ty n vs d := by obtain ⟨k, F⟩ := F; exact ⟨k, F.ext E⟩
theorem own_Arv.other {Z : State} {h h' : Heap} {a b : Addr} {sl : Nat} {v : Value} {ty : FieldType} {n : Int32} {vs : List Value} {d : Value} (F : own_Arv Z h b ty n vs d) (W : Wr h h' a sl v) (q : b ≠ a) : own_Arv Z h' b ty n vs d := by obtain ⟨k, F⟩ := F; exact ⟨k, F.other W q⟩
theorem own_Arv.keep {Z : State} {h h' : Heap} {a : Addr} {ws : List Addr} {ty : FieldType} {n : Int32} {vs : List Value} {d : Value} (F : own_Arv Z h a ty n vs d) (K : Keep h h' ws) (q : a ∉ ws) : own_Arv Z h' a ty n vs d := by obtain ⟨k, F⟩ := F; exact ⟨k, F.keep K q⟩
theorem own_plain {Z : State} {h : Heap} {a : Addr} {C : String} (F : Exa Z h a C) : ∃ c : Cell, h[a]? = some c ∧ c.vm.isStatics = false := by obtain ⟨c, k, h1, -, -, h4, -⟩ := F; exact ⟨c, h1, h4⟩
theorem own_sta_keep {Z : State} {h h' : Heap} {ws : List Addr} {C n d : String} {v : Value} (F : Sta Z h C n d v) (K : Keep h h' ws) (q : ∀ x ∈ ws, ∃ c : Cell, h[x]? = some c ∧ c.vm.isStatics = false) : Sta Z h' C n d v := by
  obtain ⟨cf, i, k, f, st, cell, h1, h2, h3, h4, h5, h6, h7⟩ := F
  refine ⟨cf, i, k, f, st, cell, h1, h2, h3, h4, K.2.1 st cell h5 fun hm => ?_, h6, h7⟩
  obtain ⟨c, g1, g2⟩ := q st hm
  cases h5.symm.trans g1
  rw [h6] at g2; cases g2
theorem own_ins_keep {Z : State} {h h' : Heap} {ws : List Addr} {a : Addr} {C : String} {b : Bool} (F : Ins Z h a C b) (K : Keep h h' ws) : Ins Z h' a C b := by
  obtain ⟨cell, cT, h1, h2, h3⟩ := F
  obtain ⟨c', g1, g2, g3, -⟩ := K.2.2 a cell h1
  exact ⟨c', cT, g1, h2, by rw [g2, g3]; exact h3⟩
/-- an array of which the length alone is known -/
def own_Len (Z : State) (h : Heap) (a : Addr) (ty : FieldType) (n : Int32) : Prop := ∃ c : Cell, Arr Z h a c ty ∧ c.slots.size = n.toNatClampNeg ∧ ¬ n < 0
theorem own_Len.lt {Z : State} {h : Heap} {a : Addr} {ty : FieldType} {n : Int32} (F : own_Len Z h a ty n) : a < h.size := by obtain ⟨c, A, -⟩ := F; exact A.lt
theorem own_Len.new {Z : State} {h : Heap} {a : Addr} {k : ClassId} {ty : FieldType} {n : Int32} (A : Arr Z h a (newA k ty n) ty) (q : ¬ n < 0) : own_Len Z h a ty n := ⟨_, A, sz_new _ _ _, q⟩
theorem own_Len.ext {Z : State} {h h' : Heap} {a : Addr} {ty : FieldType} {n : Int32} (F : own_Len Z h a ty n) (E : Ext h h') : own_Len Z h' a ty n := by obtain ⟨c, A, r⟩ := F; exact ⟨c, A.ext E, r⟩
theorem own_Len.other {Z : State} {h h' : Heap} {a b : Addr} {sl : Nat} {v : Value} {ty : FieldType} {n : Int32} (F : own_Len Z h b ty n) (W : Wr h h' a sl v) (q : b ≠ a) : own_Len Z h' b ty n := by obtain ⟨c, A, r⟩ := F; exact ⟨c, A.other W q, r⟩
theorem own_Len.keep {Z : State} {h h' : Heap} {a : Addr} {ws : List Addr} {ty : FieldType} {n : Int32} (F : own_Len Z h a ty n) (K : Keep h h' ws) (q : a ∉ ws) : own_Len Z h' a ty n := by obtain ⟨c, A, r⟩ := F; exact ⟨c, ⟨K.2.1 a c A.1 q, A.2⟩, r⟩
theorem own_unt_keep {h h' : Heap} {a : Addr} {ws : List Addr} (F : Unt h a) (K : Keep h h' ws) (q : a ∉ ws) : Unt h' a := by obtain ⟨c, h1, r⟩ := F; exact ⟨c, K.2.1 a c h1 q, r⟩
theorem own_unt_lt {h : Heap} {a : Addr} (F : Unt h a) : a < h.size := by obtain ⟨c, h1, -⟩ := F; exact (Array.getElem?_eq_some_iff.mp h1).1
/-- an array of references, of known values, its component's class C -/
def own_ArvR (Z : State) (h : Heap) (a : Addr) (C : String) (n : Int32) (vs : List Value) : Prop := ∃ k, Arv Z h a k (.object C) n vs .null ∧ Ovr Z k C
theorem own_ArvR.lt {Z : State} {h : Heap} {a : Addr} {C : String} {n : Int32} {vs : List Value} (F : own_ArvR Z h a C n vs) : a < h.size := by obtain ⟨k, F, -⟩ := F; exact F.lt
theorem own_ArvR.ext {Z : State} {h h' : Heap} {a : Addr} {C : String} {n : Int32} {vs : List Value} (F : own_ArvR Z h a C n vs) (E : Ext h h') : own_ArvR Z h' a C n vs := by obtain ⟨k, F, O⟩ := F; exact ⟨k, F.ext E, O⟩
theorem own_ArvR.other {Z : State} {h h' : Heap} {a b : Addr} {sl : Nat} {v : Value} {C : String} {n : Int32} {vs : List Value} (F : own_ArvR Z h b C n vs) (W : Wr h h' a sl v) (q : b ≠ a) : own_ArvR Z h' b C n vs := by obtain ⟨k, F, O⟩ := F; exact ⟨k, F.other W q, O⟩
theorem own_ArvR.keep {Z : State} {h h' : Heap} {a : Addr} {ws : List Addr} {C : String} {n : Int32} {vs : List Value} (F : own_ArvR Z h a C n vs) (K : Keep h h' ws) (q : a ∉ ws) : own_ArvR Z h' a C n vs := by obtain ⟨k, F, O⟩ := F; exact ⟨k, F.keep K q, O⟩
theorem own_plainB {Z : State} {h : Heap} {a : Addr} {C : String} {n : Int32} {vs : List Value} (F : own_ArvR Z h a C n vs) : ∃ c : Cell, h[a]? = some c ∧ c.vm.isStatics = false := by obtain ⟨k, ⟨c, A, -⟩, -⟩ := F; exact ⟨c, A.1, A.plain⟩
theorem own_plainA {Z : State} {h : Heap} {a : Addr} {ty : FieldType} {n : Int32} {vs : List Value} {d : Value} (F : own_Arv Z h a ty n vs d) : ∃ c : Cell, h[a]? = some c ∧ c.vm.isStatics = false := by obtain ⟨k, c, A, -⟩ := F; exact ⟨c, A.1, A.plain⟩
theorem own_plainL {Z : State} {h : Heap} {a : Addr} {ty : FieldType} {n : Int32} (F : own_Len Z h a ty n) : ∃ c : Cell, h[a]? = some c ∧ c.vm.isStatics = false := by obtain ⟨c, A, -⟩ := F; exact ⟨c, A.1, A.plain⟩
theorem own_neA {Z : State} {h : Heap} {x b : Addr} {C : String} {a0 : Array Value} {m : Nat} {ty : FieldType} {n : Int32} {vs : List Value} {d : Value} (E : Exa Z h x C) (F : own_Arv Z h b ty n vs d) (w : (Jvm.Cond.instantiable C m).before a0 Z = true) : x ≠ b := by obtain ⟨k, c, A, -⟩ := F; exact ne_arr E w A
theorem own_neL {Z : State} {h : Heap} {x b : Addr} {C : String} {a0 : Array Value} {m : Nat} {ty : FieldType} {n : Int32} (E : Exa Z h x C) (F : own_Len Z h b ty n) (w : (Jvm.Cond.instantiable C m).before a0 Z = true) : x ≠ b := by obtain ⟨c, A, -⟩ := F; exact ne_arr E w A
theorem own_neB {Z : State} {h : Heap} {x b : Addr} {C D : String} {a0 : Array Value} {m : Nat} {n : Int32} {vs : List Value} (E : Exa Z h x C) (F : own_ArvR Z h b D n vs) (w : (Jvm.Cond.instantiable C m).before a0 Z = true) : x ≠ b := by obtain ⟨k, ⟨c, A, -⟩, -⟩ := F; exact ne_arr E w A

theorem own_val (p : Int32) : ((100 : Int32) + ((p &&& (2147483647 : Int32)) % (400 : Int32))).toInt = 100 + (p.toInt % 2 ^ 31) % 400 := by
  have e1 : (p &&& (2147483647 : Int32)).toInt = p.toInt % 2 ^ 31 := Jvm.Kit.i32_mask p 2147483647 (k := 31) (by decide) (by decide)
  have e2 : ((p &&& (2147483647 : Int32)) % (400 : Int32)).toInt = (p.toInt % 2 ^ 31) % 400 := by
    rw [Jvm.Kit.i32_rem_nonneg (by omega), e1]; rfl
  have e3 : (100 : Int32).toInt = 100 := rfl
  rw [Jvm.Kit.i32_add (by omega) (by omega)]; omega
theorem own_ge (p : Int32) : ¬ ((100 : Int32) + ((p &&& (2147483647 : Int32)) % (400 : Int32))) < (100 : Int32) := by
  have e := own_val p
  have e3 : (100 : Int32).toInt = 100 := rfl
  rw [Int32.lt_iff_toInt_lt]; omega
theorem own_lt (p : Int32) : ((100 : Int32) + ((p &&& (2147483647 : Int32)) % (400 : Int32))) < (500 : Int32) := by
  have e := own_val p
  have e3 : (500 : Int32).toInt = 500 := rfl
  rw [Int32.lt_iff_toInt_lt]; omega
theorem d1_0 : decode prog_1_method_4_code 0 = .ok (.iload_n 0, 1) := by decide +kernel
theorem d1_1 : decode prog_1_method_4_code 1 = .ok (.bipush 100, 2) := by decide +kernel
theorem d1_3 : decode prog_1_method_4_code 3 = .ok (.if_icmp .lt 10, 3) := by decide +kernel
theorem d1_6 : decode prog_1_method_4_code 6 = .ok (.iload_n 0, 1) := by decide +kernel
theorem d1_7 : decode prog_1_method_4_code 7 = .ok (.sipush 500, 3) := by decide +kernel
theorem d1_10 : decode prog_1_method_4_code 10 = .ok (.if_icmp .lt 17, 3) := by decide +kernel
theorem d1_27 : decode prog_1_method_4_code 27 = .ok (.iload_n 0, 1) := by decide +kernel
theorem d1_28 : decode prog_1_method_4_code 28 = .ok (.ireturn, 1) := by decide +kernel
theorem pn_8 : plainName "com/example/onceward/onceward/AnswerPolicy" = true := by first | (simp [plainName, overriddenIn]; done) | decide +kernel
theorem ef_rm1 (m : MethodId) (x0 : Int32) : entryFrame m #[(.int x0)] 1 = mkF m 0 #[.val (.int x0)] [] := by first | (simp [entryFrame, mkF, argsToLocals, Value.category]; done) | rfl
def Qrm1 (Z : State) (p0 : Int32) (h0 : Heap) (n0 : Nat) (v : Option Value) (h : Heap) (L : List Loc) : Prop := v = some (.int p0) ∧ Fr n0 L ∧ h = h0
set_option maxRecDepth 65536 in
set_option maxHeartbeats 40000000 in
theorem rm1 (l : Launch) (Z : State) (a0 : Array Value) (hw : ∀ d ∈ tables_1, d.before a0 Z = true) (ws : List Jvm.Cond) (p0 : Int32) (h0 : Heap) (n0 : Nat) (Z0 : n0 ≤ h0.size) (hc3 : ¬ (p0 < (100 : Int32))) (hc10 : p0 < (500 : Int32)) :
    MetFree l (⟨"com/example/onceward/onceward/AnswerPolicy", "checkRetryableStatus", "(I)I"⟩ : MethodName) (head1 (Jvm.Cond.code (⟨"com/example/onceward/onceward/AnswerPolicy", "checkRetryableStatus", "(I)I"⟩ : MethodName) prog_1_method_4_code 1 (some .int) :: ws) ({ frames := 0, cells := 0, slots := 0, locals := 0 } : Room)) (fun a U => a = #[(.int p0)] ∧ Z.Warmed39 U.vm ∧ U.heap = h0) (fun _ _ _ _ _ => True) (fun _ U o U' => ∃ v L, o = .returned v ∧ Qrm1 Z p0 h0 n0 v U'.heap L ∧ FrameEnd U o U' L ({ frames := 0, cells := 0, slots := 0, locals := 0 } : Room).cells ({ frames := 0, cells := 0, slots := 0, locals := 0 } : Room).slots) := by
  refine MetFree.of_bodySF (plainFor_of_name pn_8) hisR ?_
  intro p e s m args below meth c s₁ Bd hml0 hP hK
  obtain ⟨rfl, hZ, hh⟩ := hP
  have hx := Bd.exec
  have hby := Bd.bytes
  have hml : c.maxLocals = 1 := hml0
  have hown : s.vm.findClass "com/example/onceward/onceward/AnswerPolicy" = some m.cls := findClass_of_methodNamed Bd.named
  have hnm := (name_of_methodNamed Bd.named Bd.method).1
  have X0 : Stand p l e ({ frames := 0, cells := 0, slots := 0, locals := 0 } : Room) s m #[(.int p0)] below meth c s₁ [] 0 0 := Stand.of_body Bd
  have e0 : s₁.heap = h0 := by rw [← hh, Bd.state]; rfl
  have N0 := Fr.nil n0
  show own_Go p e below s (Qrm1 Z p0 h0 n0) ({ frames := 0, cells := 0, slots := 0, locals := 0 } : Room).cells ({ frames := 0, cells := 0, slots := 0, locals := 0 } : Room).slots (s₁.setTop (entryFrame m #[(.int p0)] 1))
  rw [ef_rm1 m p0]
  have K0 : Keep h0 h0 [] := Keep.refl h0 []
  refine own_go (S' := s₁.setTop (mkF m 28 #[.val (.int p0)] [(.int p0)])) (fun t k => ?_) ?_
  · show Steps p.tables e below (s₁.setTop (mkF m 0 #[.val (.int p0)] [])) t
    refine XS.iloadN X0.here hx rfl (hb hby d1_0) rfl ?_
    show Steps p.tables e below (s₁.setTop (mkF m 1 #[.val (.int p0)] [(.int p0)])) t
    refine XS.bipush X0.here hx rfl (hb hby d1_1) ?_
    show Steps p.tables e below (s₁.setTop (mkF m 3 #[.val (.int p0)] [(.int (100 : Int32)), (.int p0)])) t
    refine XS.icmpNo X0.here hx rfl (hb hby d1_3) rfl (flt hc3).1 ?_
    show Steps p.tables e below (s₁.setTop (mkF m 6 #[.val (.int p0)] [])) t
    refine XS.iloadN X0.here hx rfl (hb hby d1_6) rfl ?_
    show Steps p.tables e below (s₁.setTop (mkF m 7 #[.val (.int p0)] [(.int p0)])) t
    refine XS.sipush X0.here hx rfl (hb hby d1_7) ?_
    show Steps p.tables e below (s₁.setTop (mkF m 10 #[.val (.int p0)] [(.int (500 : Int32)), (.int p0)])) t
    refine XS.icmpYes X0.here hx rfl (pc0 := 10) (pc' := 27) rfl (hb hby d1_10) rfl (tlt hc10).1 (by decide) (by decide) ?_
    show Steps p.tables e below (s₁.setTop (mkF m 27 #[.val (.int p0)] [])) t
    refine XS.iloadN X0.here hx rfl (hb hby d1_27) rfl ?_
    exact k
  obtain ⟨fs, hr, hrun, hended, hW, hsame⟩ := X0.leave (v := some (.int p0)) (fun h => by rw [Bd.returns] at h; cases h)
  refine own_end (v := some (.int p0)) ?_ hrun hended ?_ hW (hsame.mono (by decide) (by decide))
  · show Steps p.tables e below (s₁.setTop (mkF m 28 #[.val (.int p0)] [(.int p0)])) _
    exact retI X0 hx Bd.returns (hb hby d1_28) hr
  · show Qrm1 Z p0 h0 n0 _ s₁.heap _
    rw [e0]
    exact ⟨rfl, N0, rfl⟩
theorem pd_9 : parseMethodDescriptor "(I)I" = some ⟨[.int], some .int⟩ := by decide +kernel
theorem pn_10 : plainName "com/example/onceward/onceward/AnswerPolicyCheckRetryableStatusPinLaw" = true := by first | (simp [plainName, overriddenIn]; done) | decide +kernel
theorem ef_rm0 (m : MethodId) (x0 : Int32) : entryFrame m #[(.int x0)] maxLocals = mkF m 0 #[.val (.int x0), .unset] [] := by first | (simp [entryFrame, mkF, argsToLocals, Value.category, maxLocals]; done) | rfl
def Qrm0 (Z : State) (p0 : Int32) (h0 : Heap) (n0 : Nat) (v : Option Value) (h : Heap) (L : List Loc) : Prop := v = some (.int 1) ∧ Fr n0 L
set_option maxRecDepth 65536 in
set_option maxHeartbeats 40000000 in
theorem rm0 (l : Launch) (Z : State) (a0 : Array Value) (hw : ∀ d ∈ tables_1, d.before a0 Z = true) (ws : List Jvm.Cond) (p0 : Int32) (h0 : Heap) (n0 : Nat) (Z0 : n0 ≤ h0.size) :
    MetFree l x (head1 (Jvm.Cond.code x code maxLocals ret :: ws) room_1) (fun a U => a = #[(.int p0)] ∧ Z.Warmed39 U.vm ∧ U.heap = h0) (fun _ _ _ _ _ => True) (fun _ U o U' => ∃ v L, o = .returned v ∧ Qrm0 Z p0 h0 n0 v U'.heap L ∧ FrameEnd U o U' L room_1.cells room_1.slots) := by
  refine MetFree.of_bodySF (plainFor_of_name pn_10) hisR ?_
  intro p e s m args below meth c s₁ Bd hml0 hP hK
  obtain ⟨rfl, hZ, hh⟩ := hP
  have hx := Bd.exec
  have hby := Bd.bytes
  have hml : c.maxLocals = 2 := hml0
  have hown : s.vm.findClass "com/example/onceward/onceward/AnswerPolicyCheckRetryableStatusPinLaw" = some m.cls := findClass_of_methodNamed Bd.named
  have hnm := (name_of_methodNamed Bd.named Bd.method).1
  have X0 : Stand p l e room_1 s m #[(.int p0)] below meth c s₁ [] 0 0 := Stand.of_body Bd
  have e0 : s₁.heap = h0 := by rw [← hh, Bd.state]; rfl
  have N0 := Fr.nil n0
  show own_Go p e below s (Qrm0 Z p0 h0 n0) room_1.cells room_1.slots (s₁.setTop (entryFrame m #[(.int p0)] maxLocals))
  rw [ef_rm0 m p0]
  refine own_go (S' := s₁.setTop (mkF m 13 #[.val (.int p0), .val (.int ((100 : Int32) + ((p0 &&& (2147483647 : Int32)) % (400 : Int32))))] [(.int ((100 : Int32) + ((p0 &&& (2147483647 : Int32)) % (400 : Int32))))])) (fun t k => ?_) ?_
  · show Steps p.tables e below (s₁.setTop (mkF m 0 #[.val (.int p0), .unset] [])) t
    refine XS.bipush X0.here hx rfl (hb hby at_0) ?_
    show Steps p.tables e below (s₁.setTop (mkF m 2 #[.val (.int p0), .unset] [(.int (100 : Int32))])) t
    refine XS.iloadN X0.here hx rfl (hb hby at_2) rfl ?_
    show Steps p.tables e below (s₁.setTop (mkF m 3 #[.val (.int p0), .unset] [(.int p0), (.int (100 : Int32))])) t
    refine X0.ldcInt hx hown (mvT hZ (hw _ (List.mem_of_getElem? (i := 0) rfl))) (g := (mkF m 3 #[.val (.int p0), .unset] [(.int p0), (.int (100 : Int32))])) rfl (hb hby at_3) _ ?_
    show Steps p.tables e below (s₁.setTop (mkF m 5 #[.val (.int p0), .unset] [(.int (2147483647 : Int32)), (.int p0), (.int (100 : Int32))])) t
    refine XS.iand X0.here hx rfl (hb hby at_5) rfl ?_
    show Steps p.tables e below (s₁.setTop (mkF m 6 #[.val (.int p0), .unset] [(.int (p0 &&& (2147483647 : Int32))), (.int (100 : Int32))])) t
    refine XS.sipush X0.here hx rfl (hb hby at_6) ?_
    show Steps p.tables e below (s₁.setTop (mkF m 9 #[.val (.int p0), .unset] [(.int (400 : Int32)), (.int (p0 &&& (2147483647 : Int32))), (.int (100 : Int32))])) t
    refine iremM X0 hx rfl (hb hby at_9) rfl (by decide) ?_
    show Steps p.tables e below (s₁.setTop (mkF m 10 #[.val (.int p0), .unset] [(.int ((p0 &&& (2147483647 : Int32)) % (400 : Int32))), (.int (100 : Int32))])) t
    refine XS.iadd X0.here hx rfl (hb hby at_10) rfl ?_
    show Steps p.tables e below (s₁.setTop (mkF m 11 #[.val (.int p0), .unset] [(.int ((100 : Int32) + ((p0 &&& (2147483647 : Int32)) % (400 : Int32))))])) t
    refine XS.istoreN X0.here hx rfl (hb hby at_11) rfl (l' := #[.val (.int p0), .val (.int ((100 : Int32) + ((p0 &&& (2147483647 : Int32)) % (400 : Int32))))]) rfl ?_
    show Steps p.tables e below (s₁.setTop (mkF m 12 #[.val (.int p0), .val (.int ((100 : Int32) + ((p0 &&& (2147483647 : Int32)) % (400 : Int32))))] [])) t
    refine XS.iloadN X0.here hx rfl (hb hby at_12) rfl ?_
    exact k
  obtain ⟨_, _, ⟨T1, L1, kk1, nn1⟩, -, X1, ⟨Lc1, hQ1, l1, y1, z1⟩, st1⟩ := Jvm.LawKit.callS X0 hx (y := (⟨"com/example/onceward/onceward/AnswerPolicy", "checkRetryableStatus", "(I)I"⟩ : MethodName)) hown (mvT hZ (hw _ (List.mem_of_getElem? (i := 1) rfl))) (mvT hZ (hw _ (List.mem_of_getElem? (i := 2) rfl))) (mvT hZ (hw _ (List.mem_of_getElem? (i := 3) rfl))) (mvT hZ (hw _ (List.mem_of_getElem? (i := 4) rfl))) (by decide) (backOf (W := 0) (rm1 l Z a0 hw [] ((100 : Int32) + ((p0 &&& (2147483647 : Int32)) % (400 : Int32))) h0 n0 Z0 (own_ge p0 : ¬ (((100 : Int32) + ((p0 &&& (2147483647 : Int32)) % (400 : Int32))) < (100 : Int32))) (own_lt p0 : ((100 : Int32) + ((p0 &&& (2147483647 : Int32)) % (400 : Int32))) < (500 : Int32))) hZ (hw _ (List.mem_of_getElem? (i := 4) rfl)) (hw _ (List.mem_of_getElem? (i := 3) rfl)) (by decide) (by decide)) (g := (mkF m 13 #[.val (.int p0), .val (.int ((100 : Int32) + ((p0 &&& (2147483647 : Int32)) % (400 : Int32))))] [(.int ((100 : Int32) + ((p0 &&& (2147483647 : Int32)) % (400 : Int32))))])) rfl (by rw [hml]; rfl) (argsL := [(.int ((100 : Int32) + ((p0 &&& (2147483647 : Int32)) % (400 : Int32))))]) (rest := []) (lenOf pd_9 rfl) rfl (by show 2 * 0 + _ ≤ _; exact Nat.le_of_eq rfl) (hb hby at_13) (fun _ _ => ⟨rfl, e0, (by decide : 0 + 0 ≤ _), (by decide : 0 + 0 ≤ _)⟩)
  dsimp only [Pt.U, Pt.locs, Pt.cells, Pt.slots] at X1 l1 y1 z1 st1 hQ1
  subst l1 y1 z1
  obtain ⟨rfl, N2, e1⟩ := hQ1
  have N4 := Fr.app N0 N2
  refine own_go st1 ?_
  refine own_go (S' := T1.setTop (mkF m 25 #[.val (.int p0), .val (.int ((100 : Int32) + ((p0 &&& (2147483647 : Int32)) % (400 : Int32))))] [(.int (1 : Int32))])) (fun t k => ?_) ?_
  · show Steps p.tables e below (T1.setTop (mkF m 16 #[.val (.int p0), .val (.int ((100 : Int32) + ((p0 &&& (2147483647 : Int32)) % (400 : Int32))))] [(.int ((100 : Int32) + ((p0 &&& (2147483647 : Int32)) % (400 : Int32))))])) t
    refine XS.iloadN X1.here hx rfl (hb hby at_16) rfl ?_
    show Steps p.tables e below (T1.setTop (mkF m 17 #[.val (.int p0), .val (.int ((100 : Int32) + ((p0 &&& (2147483647 : Int32)) % (400 : Int32))))] [(.int ((100 : Int32) + ((p0 &&& (2147483647 : Int32)) % (400 : Int32)))), (.int ((100 : Int32) + ((p0 &&& (2147483647 : Int32)) % (400 : Int32))))])) t
    refine XS.icmpNo X1.here hx rfl (hb hby at_17) rfl (teq rfl).2 ?_
    show Steps p.tables e below (T1.setTop (mkF m 20 #[.val (.int p0), .val (.int ((100 : Int32) + ((p0 &&& (2147483647 : Int32)) % (400 : Int32))))] [])) t
    refine XS.iconst X1.here hx rfl (hb hby at_20) ?_
    show Steps p.tables e below (T1.setTop (mkF m 21 #[.val (.int p0), .val (.int ((100 : Int32) + ((p0 &&& (2147483647 : Int32)) % (400 : Int32))))] [(.int (1 : Int32))])) t
    refine XS.goto X1.here hx rfl (pc0 := 21) (pc' := 25) rfl (hb hby at_21) (by decide) (by decide) ?_
    exact k
  obtain ⟨fs, hr, hrun, hended, hW, hsame⟩ := X1.leave (v := some (.int (1 : Int32))) (fun h => by rw [Bd.returns] at h; cases h)
  refine own_end (v := some (.int (1 : Int32))) ?_ hrun hended ?_ hW (hsame.mono (by decide) (by decide))
  · show Steps p.tables e below (T1.setTop (mkF m 25 #[.val (.int p0), .val (.int ((100 : Int32) + ((p0 &&& (2147483647 : Int32)) % (400 : Int32))))] [(.int (1 : Int32))])) _
    exact retN X1 hx (t := .boolean) Bd.returns (by simp) (hb hby at_25) hr
  · show Qrm0 Z p0 h0 n0 _ T1.heap _
    rw [e1]
    exact ⟨rfl, N4⟩
set_option maxRecDepth 65536 in
set_option maxHeartbeats 40000000 in
theorem comes_1 {Post : Tables → Env → Array Value → State → Outcome → State → Prop} (hpost : ∀ tb e args s v u, (limb_1_1.after args s (.returned v) u = true ∧ limb_1_2.after args s (.returned v) u = true ∧ True) → FrameEnd s (.returned v) u (Jvm.fieldLocs frame_1_writes args s ++ Jvm.arrayLocs frame_1_arrays args s ++ Jvm.staticLocs frame_1_statics s) 0 0 → Post tb e args s (.returned v) u) :
    ArmFor flags0 classFile x code maxLocals ret World_1 tables_1 room_1 Calls_1 rest_1 Pre_1 Post := by
  intro l hfl _ _ p e ha hc hk s m args below hf hA hF happ hP
  obtain ⟨hcalls, hrest, hpre⟩ := hP
  obtain ⟨-, -, -, hnamed, -, -, -, hat⟩ := (Spec.applies_iff hf).mp happ
  obtain ⟨hg, hn⟩ := and_e (Cond.before_iff.mp (show (Jvm.Cond.and given_1 narrow_1).before args s = true from hpre))
  obtain ⟨g5, g6⟩ := and_e hg
  obtain ⟨w0, rfl⟩ : ∃ w0 : Value, args = #[w0] := by
    have hs : args.size = 1 := by simpa [Cond.value, given_1] using g5
    obtain ⟨L⟩ := args
    match L, hs with
    | [w0], _ => exact ⟨w0, rfl⟩
  have hw := fun d (hd : d ∈ tables_1) => atoms_spec (ws := Jvm.Cond.code x code maxLocals ret :: tables_1) hat d (List.mem_cons_of_mem _ hd)
  have hfit : Fit s := fun {y c} hc i hi => by
    obtain ⟨ha, rfl⟩ := Array.getElem?_eq_some_iff.mp hc
    have q := List.all_eq_true.mp ((Array.all_eq_true_iff_forall_mem.mp hF) _ (Array.getElem_mem ha)) i (List.mem_range.mpr hi)
    simpa [Array.getElem?_eq_getElem hi] using q
  obtain ⟨i0, ei0⟩ := is_v g6
  obtain rfl : w0 = (.int i0) := Option.some.inj ei0
  obtain ⟨n, o, h1, h2, h3, _, L, rfl, ⟨rfl, N⟩, hq⟩ := rm0 l s _ hw tables_1 i0 s.heap s.heap.size (Nat.le_refl _)  p e ha hc hk s m _ below hf ((Spec.applies_iff_loose hf).mp happ).1 ⟨rfl, State.Warmed39.refl s, rfl⟩ trivial
  refine ⟨n, _, h1, h2, h3, hpost _ _ _ _ _ _ ⟨Cond.after_iff.mpr rfl, Cond.after_iff.mpr (eq_i res_at (Term.int_eval (1)) rfl), trivial⟩ ⟨hq.1, hq.2.1, (hq.2.2.sift fun y hy => Or.inr (N y hy)).mono (by decide) (by decide)⟩⟩
theorem main_1_1 : Claimed_1_1 := comes_1 fun _ _ _ _ _ _ h hF => ⟨h.1, hF⟩
theorem main_1_2 : Claimed_1_2 := comes_1 fun _ _ _ _ _ _ h hF => ⟨h.2.1, hF⟩
end Jvm.Pilot.@@N@@
namespace Jvm.Pilot.@@N@@
open Jvm Jvm.ClassFile Sem Op Lib Jvm.Free Jvm.Stand Jvm.Pilot.@@N@@.Jvm.D
/-! MADE BY PROGRAM (witnessworld.py) out of the Statement's table words and the real class files: 9 classes; the members and pool entries that the words name. The judged class is class 1, her method 1. -/
namespace start1
open Jvm.ClassFile
def u (s : String) : CpInfo := .utf8 (stringToUtf16 s)
/-- a pool by its gaps: so many unusable entries, then the entry; so many at the end -/
def gap : Nat → List CpInfo → List CpInfo
  | 0, r => r
  | n + 1, r => .unusable :: gap n r
def poolList (es : List (Nat × CpInfo)) (last : Nat) : List CpInfo := es.foldr (fun e r => gap e.1 (e.2 :: r)) (gap last [])
def pool (es : List (Nat × CpInfo)) (last : Nat) : Array CpInfo := ⟨poolList es last⟩
def fileOf (pool : Array CpInfo) (this : Nat) (attrs : Array Attribute := #[]) (ms : Array MethodInfo := #[]) (fl : Nat := 33) (sup : Nat := 0) (ifs : Array Nat := #[]) (fds : Array FieldInfo := #[]) : ClassFile where
  minorVersion := 0
  majorVersion := 65
  constantPool := pool
  accessFlags := fl
  thisClass := this
  superClass := sup
  interfaces := ifs
  fields := fds
  methods := ms
  attributes := attrs
def plain (name : String) (sup : Option ClassId) : Class where
  name := name
  kind := .ordinary
  loader := none
  accessFlags := 33
  super := sup
  interfaces := #[]
  cf := none
  fields := #[]
  methods := #[]
  instanceTypes := #[]
  staticTypes := #[]
  resolved := #[]
  callSites := []
  init := .initialized
  statics := none
  mirror := none

def pool0 : Array CpInfo := pool [(5, u "<init>"), (0, u "()V"), (1, .class_ 10), (1, u "java/lang/Object")] 113

def k0m0 : Method := { name := "<init>", desc := "()V", sig := { parameters := [], returnType := none }, accessFlags := 1, code := none }
/-- java/lang/Object -/
def k0 : Class := { plain "java/lang/Object" none with
  accessFlags := 33
  interfaces := #[]
  cf := some (fileOf pool0 8 #[] #[{ accessFlags := 1, nameIndex := 5, descriptorIndex := 6, attributes := #[] }] 33 0 #[] #[])
  fields := #[]
  methods := #[k0m0]
  instanceTypes := #[]
  staticTypes := #[]
  resolved := Array.replicate 124 none
  statics := none }

def pool1 : Array CpInfo := pool [(2, .class_ 4), (1, u "java/lang/Object"), (0, u "<init>"), (0, u "()V"), (0, .integer 2147483647), (0, .methodref 9 10), (0, .class_ 11), (0, .nameAndType 12 13), (0, u "com/example/onceward/onceward/AnswerPolicy"), (0, u "checkRetryableStatus"), (0, u "(I)I"), (0, .class_ 15), (0, u "com/example/onceward/onceward/AnswerPolicyCheckRetryableStatusPinLaw"), (2, u "law"), (0, u "(I)Z")] 3

def k1m0 : Method := { name := "<init>", desc := "()V", sig := { parameters := [], returnType := none }, accessFlags := 2, code := none }
def k1c1 : Code := { maxStack := 3, maxLocals := 2, code := code, exceptionTable := #[], attributes := #[] }
def k1m1 : Method := { name := "law", desc := "(I)Z", sig := { parameters := [.int], returnType := some .boolean }, accessFlags := 9, code := some k1c1 }
/-- com/example/onceward/onceward/AnswerPolicyCheckRetryableStatusPinLaw -/
def k1 : Class := { plain "com/example/onceward/onceward/AnswerPolicyCheckRetryableStatusPinLaw" (some 0) with
  accessFlags := 49
  interfaces := #[]
  cf := some (fileOf pool1 14 #[] #[{ accessFlags := 2, nameIndex := 5, descriptorIndex := 6, attributes := #[] }, { accessFlags := 9, nameIndex := 18, descriptorIndex := 19, attributes := #[] }] 49 2 #[] #[])
  fields := #[]
  methods := #[k1m0, k1m1]
  instanceTypes := #[]
  staticTypes := #[]
  resolved := Array.replicate 23 none
  statics := none }

def pool2 : Array CpInfo := pool [(2, .class_ 4), (1, u "java/lang/Object"), (3, .class_ 10), (1, u "com/example/onceward/onceward/AnswerPolicy"), (0, u "keepServerErrors"), (0, u "Z"), (8, u "retryableStatuses"), (0, u "Ljava/util/Set;"), (2, u "HEADERS"), (0, u "Ljava/util/List;"), (45, u "headers"), (2, u "NEVER_KEPT"), (95, u "CONTENT_TYPE"), (0, u "Ljava/lang/String;"), (1, u "CONTENT_LANGUAGE"), (2, u "REPLAYED_HEADER"), (1, u "SERVER_ERROR"), (0, u "I"), (1, u "INFORMATIONAL"), (11, u "checkRetryableStatus"), (0, u "(I)I")] 63

def k2c0 : Code := { maxStack := 3, maxLocals := 1, code := prog_1_method_4_code, exceptionTable := #[], attributes := #[] }
def k2m0 : Method := { name := "checkRetryableStatus", desc := "(I)I", sig := { parameters := [.int], returnType := some .int }, accessFlags := 8, code := some k2c0 }
/-- com/example/onceward/onceward/AnswerPolicy -/
def k2 : Class := { plain "com/example/onceward/onceward/AnswerPolicy" (some 0) with
  accessFlags := 48
  interfaces := #[]
  cf := some (fileOf pool2 8 #[] #[{ accessFlags := 8, nameIndex := 194, descriptorIndex := 195, attributes := #[] }] 48 2 #[] #[{ accessFlags := 24, nameIndex := 171, descriptorIndex := 172, attributes := #[] }, { accessFlags := 24, nameIndex := 174, descriptorIndex := 172, attributes := #[] }, { accessFlags := 24, nameIndex := 25, descriptorIndex := 26, attributes := #[] }, { accessFlags := 24, nameIndex := 177, descriptorIndex := 172, attributes := #[] }, { accessFlags := 26, nameIndex := 75, descriptorIndex := 22, attributes := #[] }, { accessFlags := 26, nameIndex := 179, descriptorIndex := 180, attributes := #[] }, { accessFlags := 26, nameIndex := 182, descriptorIndex := 180, attributes := #[] }, { accessFlags := 18, nameIndex := 11, descriptorIndex := 12, attributes := #[] }, { accessFlags := 18, nameIndex := 21, descriptorIndex := 22, attributes := #[] }, { accessFlags := 18, nameIndex := 72, descriptorIndex := 26, attributes := #[] }])
  fields := #[{ name := "CONTENT_TYPE", type := (.object "java/lang/String"), accessFlags := 24, slot := 0, constantValue := 0 }, { name := "CONTENT_LANGUAGE", type := (.object "java/lang/String"), accessFlags := 24, slot := 1, constantValue := 0 }, { name := "HEADERS", type := (.object "java/util/List"), accessFlags := 24, slot := 2, constantValue := 0 }, { name := "REPLAYED_HEADER", type := (.object "java/lang/String"), accessFlags := 24, slot := 3, constantValue := 0 }, { name := "NEVER_KEPT", type := (.object "java/util/Set"), accessFlags := 26, slot := 4, constantValue := 0 }, { name := "SERVER_ERROR", type := .int, accessFlags := 26, slot := 5, constantValue := 0 }, { name := "INFORMATIONAL", type := .int, accessFlags := 26, slot := 6, constantValue := 0 }, { name := "keepServerErrors", type := .boolean, accessFlags := 18, slot := 0, constantValue := 0 }, { name := "retryableStatuses", type := (.object "java/util/Set"), accessFlags := 18, slot := 1, constantValue := 0 }, { name := "headers", type := (.object "java/util/List"), accessFlags := 18, slot := 2, constantValue := 0 }]
  methods := #[k2m0]
  instanceTypes := #[.boolean, (.object "java/util/Set"), (.object "java/util/List")]
  staticTypes := #[(.object "java/lang/String"), (.object "java/lang/String"), (.object "java/util/List"), (.object "java/lang/String"), (.object "java/util/Set"), .int, .int]
  resolved := Array.replicate 259 none
  statics := none }

def pool3 : Array CpInfo := pool [(1, u "java/lang/Cloneable"), (0, .class_ 1), (0, u "java/lang/Object"), (0, .class_ 3)] 3

/-- java/lang/Cloneable -/
def k3 : Class := { plain "java/lang/Cloneable" (some 0) with
  accessFlags := 1537
  interfaces := #[]
  cf := some (fileOf pool3 2 #[] #[] 1537 4 #[] #[])
  fields := #[]
  methods := #[]
  instanceTypes := #[]
  staticTypes := #[]
  resolved := Array.replicate 8 none
  statics := none }

def pool4 : Array CpInfo := pool [(1, u "java/io/Serializable"), (0, .class_ 1), (0, u "java/lang/Object"), (0, .class_ 3)] 3

/-- java/io/Serializable -/
def k4 : Class := { plain "java/io/Serializable" (some 0) with
  accessFlags := 1537
  interfaces := #[]
  cf := some (fileOf pool4 2 #[] #[] 1537 4 #[] #[])
  fields := #[]
  methods := #[]
  instanceTypes := #[]
  staticTypes := #[]
  resolved := Array.replicate 8 none
  statics := none }

/-- the primitive byte -/
def k5 : Class := { plain "byte" none with kind := .primitive 'B', accessFlags := 0x411 }
/-- [B -/
def k6 : Class := { plain "[B" (some 0) with kind := .array 5 .byte, interfaces := #[3, 4], accessFlags := 1041 }

/-- the primitive int -/
def k7 : Class := { plain "int" none with kind := .primitive 'I', accessFlags := 0x411 }
/-- [I -/
def k8 : Class := { plain "[I" (some 0) with kind := .array 7 .int, interfaces := #[3, 4], accessFlags := 1041 }

def heap : Heap := #[]
def classes : Array Class := #[k0, k1, k2, k3, k4, k5, k6, k7, k8]
def interned : List (Array UInt16 × Addr) := []
def slotsUsed : Nat := 0
def theMethod : MethodId := ⟨1, 1⟩
def args0 : Array Value := #[.int 5]
def aboutOver (below : List Frame) : State where
  vm := { classes := classes, interned := interned.toArray }
  heap := heap
  slotsUsed := slotsUsed
  threads := #[{ frames := .invoking theMethod args0 :: below }]
def below0 : List Frame := [.native { method := ⟨0, 0⟩, args := #[] }]
def about1 : State := aboutOver below0
def p0 : Program := .bare "" "" ""
def e0 : Env := launch0.env 0 0 0
theorem w_frames : about1.frames = Frame.invoking theMethod args0 :: below0 := rfl
set_option maxRecDepth 65536 in
theorem w_args : argsFit about1.vm theMethod args0 = true := by decide +kernel
set_option maxRecDepth 65536 in
theorem w_heap : heapFits about1 = true := by decide +kernel
set_option maxRecDepth 65536 in
theorem w_runnable : about1.curStatus? = some .runnable := by decide +kernel
set_option maxRecDepth 65536 in
theorem w_alone : about1.alone = true := by decide +kernel
set_option maxRecDepth 65536 in
theorem w_named : about1.methodNamed? x = some theMethod := by decide +kernel
set_option maxRecDepth 65536 in
theorem w_hears : about1.hears theMethod below0 = true := by decide +kernel
set_option maxRecDepth 65536 in
theorem w_ripe : about1.ripe theMethod args0 below0 = true := by decide +kernel
theorem w_running : about1.status = .running := rfl
set_option maxRecDepth 65536 in
theorem w_room : about1.hasRoom e0.platform room_1 = true :=
  launch0.hasRoom_least _ room_1 (by decide +kernel) (by decide +kernel) (by decide +kernel) (by decide +kernel) (by decide +kernel) (by decide +kernel)
theorem allAtoms_all (ts : List Jvm.Cond) (a : Array Jvm.Value) (st : Jvm.State) : (allAtoms ts).before a st = ts.all (fun c => c.before a st) := by
  induction ts with
  | nil => rfl
  | cons c t ih =>
    show (Jvm.Cond.and c (allAtoms t)).before a st = _
    rw [Jvm.Cond.before_and, ih, List.all_cons]
def words1 : List Jvm.Cond := Jvm.Cond.code x code maxLocals ret :: tables_1
/-- a 'code' word, met by the world's own term for the bytes: nothing is compared byte by byte -/
theorem code_word {y : MethodName} {bytes : ByteArray} {mx : Nat} {rt : Option FieldType} {a : Array Value} {s : State} {m : MethodId} {meth : Method} {c : Code} (h1 : s.methodNamed? y = some m) (h2 : s.vm.method? m = some meth) (h3 : meth.code = some c) (h4 : c.code = bytes)
    (h5 : (c.maxLocals == mx && c.exceptionTable.isEmpty && decide (c.maxStack ≤ mostOperands) && decide (meth.sig.returnType = rt) && !meth.locks && decide (parseMethodDescriptor y.desc = some meth.sig)) = true) : (Jvm.Cond.code y bytes mx rt).before a s = true := by
  simp only [Bool.and_eq_true, beq_iff_eq, Bool.not_eq_true', decide_eq_true_eq] at h5
  obtain ⟨⟨⟨⟨⟨g1, g2⟩, g3⟩, g4⟩, g5⟩, g6⟩ := h5
  simp [Cond.before, Cond.holds, Cond.value, h1, h2, h3, h4, g1, g2, g3, g4, g5, g6]
def isCode : Jvm.Cond → Bool
  | .code _ _ _ _ => true
  | _ => false
theorem all_split {L : List Jvm.Cond} {P : Jvm.Cond → Bool} (h1 : L.all (fun c => isCode c || P c) = true) (h2 : ∀ c ∈ L.filter isCode, P c = true) : L.all P = true := by
  refine List.all_eq_true.mpr fun c hc => ?_
  have h := List.all_eq_true.mp h1 c hc
  rcases Bool.eq_false_or_eq_true (isCode c) with hi | hi
  · exact h2 c (List.mem_filter.mpr ⟨hc, hi⟩)
  · simpa [hi] using h
set_option maxRecDepth 65536 in
theorem w_c0 : (Jvm.Cond.code x code maxLocals ret).before args0 about1 = true := code_word (m := ⟨1, 1⟩) (meth := k1m1) (c := k1c1) (by decide +kernel) rfl rfl rfl (by decide +kernel)
set_option maxRecDepth 65536 in
theorem w_c1 : (Jvm.Cond.code ({ cls := "com/example/onceward/onceward/AnswerPolicy", name := "checkRetryableStatus", desc := "(I)I" } : Jvm.MethodName) prog_1_method_4_code (1 : Nat) (Option.some Jvm.ClassFile.FieldType.int)).before args0 about1 = true := code_word (m := ⟨2, 0⟩) (meth := k2m0) (c := k2c0) (by decide +kernel) rfl rfl rfl (by decide +kernel)
def codes1 : List Jvm.Cond := [Jvm.Cond.code x code maxLocals ret, Jvm.Cond.code ({ cls := "com/example/onceward/onceward/AnswerPolicy", name := "checkRetryableStatus", desc := "(I)I" } : Jvm.MethodName) prog_1_method_4_code (1 : Nat) (Option.some Jvm.ClassFile.FieldType.int)]
set_option maxRecDepth 65536 in
theorem codes_eq : words1.filter isCode = codes1 := rfl
theorem w_codes : ∀ c ∈ words1.filter isCode, c.before args0 about1 = true := by
  rw [codes_eq]
  intro c hc
  simp only [codes1, List.mem_cons, List.not_mem_nil, or_false] at hc
  rcases hc with rfl | rfl
  · exact w_c0
  · exact w_c1
set_option maxRecDepth 65536 in
theorem w_t1 : words1.all (fun c => isCode c || c.before args0 about1) = true := by decide +kernel
theorem w_tables : (allAtoms (Jvm.Cond.code x code maxLocals ret :: tables_1)).before args0 about1 = true := by
  rw [allAtoms_all]
  show words1.all (fun c => c.before args0 about1) = true
  refine all_split ?_ w_codes
  rw [w_t1]
set_option maxRecDepth 65536 in
theorem w_case : (Jvm.Cond.and given_1 narrow_1).before args0 about1 = true := by decide +kernel
theorem w_applies : (headSpec (Jvm.Cond.code x code maxLocals ret :: tables_1) room_1).applies x e0.platform about1 = true :=
  (Spec.applies_iff w_frames).mpr ⟨w_running, w_runnable, w_alone, w_named, w_hears, w_ripe, w_room, w_tables⟩
theorem atStart : AtStart classFile x code maxLocals ret World_1 tables_1 room_1 Calls_1 rest_1 Pre_1 launch0 p0 e0 about1 theMethod args0 below0 :=
  ⟨lists_1, trivial, launch0.admits_env _ _ _, launch0.least_env, fairChoices_fair.cas, fairChoices_fair.clock, w_frames, w_args, w_heap, w_applies, trivial, trivial, w_case⟩
end start1
theorem witness_1 : WitnessClaimed_1 := ⟨start1.p0, start1.e0, start1.about1, start1.theMethod, start1.args0, start1.below0, start1.atStart⟩
end Jvm.Pilot.@@N@@
