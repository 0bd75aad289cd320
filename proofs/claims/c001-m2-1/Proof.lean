import JvmDerived
import JvmDerived.Pilot.@@N@@Statement
import JvmDerived.Pilot.@@N@@Code
set_option linter.unusedVariables false
set_option linter.unusedSimpArgs false
namespace Jvm.RoadKit
open Sem ClassFile Op Lib Jvm.Stand Jvm.Free Jvm.LawKit
section New
variable {p : Program} {l : Launch} {e : Env} {R : Room} {s : State} {m : MethodId} {args : Array Value} {below : List Frame} {meth : Method} {c : Code} {T : State} {locs : List Loc} {cells slots : Nat}
theorem retI (X : Stand p l e R s m args below meth c T locs cells slots) (hx : p.tables.exec = Jvm.exec) {pc : Nat} {Ls : Array Slot} {z : Int32} {rest : List Value} (hret : meth.sig.returnType = some .int) (hd : decode c.code pc = .ok (.ireturn, 1)) {fs : List Frame}
    (hl : ∀ (f : JFrame) (acts : List Action), f.method = m → f.locked = none → f.entered = [] → (doReturn e (T.setTop f) acts (some (.int z))).1 = T.setFrames fs) : Steps p.tables e below (T.setTop (mkF m pc Ls (.int z :: rest))) (T.setFrames fs) := by
  have hm' : T.vm.method? m = some meth := X.method'
  have hn : narrow .int (.int z) = .int z := rfl
  show Steps p.tables e below (T.setTop { method := m, pc := pc, locals := Ls, stack := _ :: rest, locked := none }) _
  jvm_step X.here [X.here.top, hx, hd, hm', hret, hn]
  first | (intro acts; rw [hl _ acts rfl rfl rfl]) | rw [hl _ _ rfl rfl rfl]
  exact Steps.refl _
end New
end Jvm.RoadKit
@@BLOCK:NumsL.lean.txt@@
namespace Jvm.Pilot.@@N@@
open Jvm Jvm.ClassFile Sem Op Lib Jvm.Free Jvm.Stand Jvm.LawKit Jvm.RoadKit Bundle Jvm.Pilot.@@N@@.Jvm.D
/-- from S the run comes to an end that says Q -/
def own_Go (p : Program) (e : Env) (below : List Frame) (s : State) (Q : Option Value → Heap → List Loc → Prop) (c n : Nat) (S : State) : Prop :=
  ∃ s₂ o, Steps p.tables e below S s₂ ∧ s₂.status = .running ∧ Ended s₂ below o ∧ ∃ v L, o = .returned v ∧ Q v s₂.heap L ∧ FrameEnd s o s₂ L c n
theorem own_go {p : Program} {e : Env} {below : List Frame} {s : State} {Q : Option Value → Heap → List Loc → Prop} {c n : Nat} {S S' : State} (st : ∀ t, Steps p.tables e below S' t → Steps p.tables e below S t) (k : own_Go p e below s Q c n S') : own_Go p e below s Q c n S := by
  obtain ⟨s₂, o, h, r⟩ := k
  exact ⟨s₂, o, st _ h, r⟩
theorem own_goT {p : Program} {e : Env} {below : List Frame} {s : State} {Q : Option Value → Heap → List Loc → Prop} {c n : Nat} {S S' : State} (st : Steps p.tables e below S S') (k : own_Go p e below s Q c n S') : own_Go p e below s Q c n S := own_go (fun _ h => st.trans h) k
theorem own_end {p : Program} {e : Env} {below : List Frame} {s : State} {Q : Option Value → Heap → List Loc → Prop} {c n : Nat} {S s₂ : State} {v : Option Value} {L : List Loc} (h : Steps p.tables e below S s₂) (hrun : s₂.status = .running) (he : Ended s₂ below (.returned v)) (hq : Q v s₂.heap L) (hW : s.WarmedH s₂.vm) (hs : s.sameButNew ({ s₂ with vm := s.vm } : State) L c n) : own_Go p e below s Q c n S :=
  ⟨s₂, _, h, hrun, he, v, L, rfl, hq, ⟨_, rfl⟩, hW, hs⟩
/-- an array of known values, its class's number unsaid -/
def own_Arv (Z : State) (h : Heap) (a : Addr) (ty : FieldType) (n : Int32) (vs : List Value) (d : Value) : Prop := ∃ k, Arv Z h a k ty n vs d
theorem own_Arv.lt {Z : State} {h : Heap} {a : Addr} {ty : FieldType} {n : Int32} {vs : List Value} {d : Value} (F : own_Arv Z h a ty n vs d) : a < h.size := by obtain ⟨k, F⟩ := F; exact F.lt
theorem own_Arv.ext {Z : State} {h h' : Heap} {a : Addr} {ty : FieldType} {n : Int32} {vs : List Value} {d : Value} (F : own_Arv Z h a ty n vs d) (E : Ext h h') : own_Arv Z h' a ty n vs d := by obtain ⟨k, F⟩ := F; exact ⟨k, F.ext E⟩
theorem own_Arv.other {Z : State} {h h' : Heap} {a b : Addr} {sl : Nat} {v : Value} {ty : FieldType} {n : Int32} {vs : List Value} {d : Value} (F : own_Arv Z h b ty n vs d) (W : Wr h h' a sl v) (q : b ≠ a) : own_Arv Z h' b ty n vs d := by obtain ⟨k, F⟩ := F; exact ⟨k, F.other W q⟩
theorem own_Arv.keep {Z : State} {h h' : Heap} {a : Addr} {ws : List Addr} {ty : FieldType} {n : Int32} {vs : List Value} {d : Value} (F : own_Arv Z h a ty n vs d) (K : Keep h h' ws) (q : a ∉ ws) : own_Arv Z h' a ty n vs d := by obtain ⟨k, F⟩ := F; exact ⟨k, F.keep K q⟩
theorem own_plain {Z : State} {h : Heap} {a : Addr} {C : String} (F : Exa Z h a C) : ∃ c : Cell, h[a]? = some c ∧ c.vm.isStatics = false := by obtain ⟨c, k, h1, -, -, h4, -⟩ := F; exact ⟨c, h1, h4⟩
theorem own_sta_keep {Z : State} {h h' : Heap} {ws : List Addr} {C n d : String} {v : Value} (F : Sta Z h C n d v) (K : Keep h h' ws) (q : ∀ x ∈ ws, ∃ c : Cell, h[x]? = some c ∧ c.vm.isStatics = false) : Sta Z h' C n d v := by
  obtain ⟨cf, i, k, f, st, cell, h1, h2, h3, h4, h5, h6, h7⟩ := F
  refine ⟨cf, i, k, f, st, cell, h1, h2, h3, h4, K.2.1 st cell h5 fun hm => ?_, h6, h7⟩
  obtain ⟨c, g1, g2⟩ := q st hm
  cases h5.symm.trans g1
  rw [h6] at g2; cases g2
theorem own_ins_keep {Z : State} {h h' : Heap} {ws : List Addr} {a : Addr} {C : String} {b : Bool} (F : Ins Z h a C b) (K : Keep h h' ws) : Ins Z h' a C b := by
  obtain ⟨cell, cT, h1, h2, h3⟩ := F
  obtain ⟨c', g1, g2, g3, -⟩ := K.2.2 a cell h1
  exact ⟨c', cT, g1, h2, by rw [g2, g3]; exact h3⟩
/-- an array of which the length alone is known -/
def own_Len (Z : State) (h : Heap) (a : Addr) (ty : FieldType) (n : Int32) : Prop := ∃ c : Cell, Arr Z h a c ty ∧ c.slots.size = n.toNatClampNeg ∧ ¬ n < 0
theorem own_Len.lt {Z : State} {h : Heap} {a : Addr} {ty : FieldType} {n : Int32} (F : own_Len Z h a ty n) : a < h.size := by obtain ⟨c, A, -⟩ := F; exact A.lt
theorem own_Len.new {Z : State} {h : Heap} {a : Addr} {k : ClassId} {ty : FieldType} {n : Int32} (A : Arr Z h a (newA k ty n) ty) (q : ¬ n < 0) : own_Len Z h a ty n := ⟨_, A, sz_new _ _ _, q⟩
theorem own_Len.ext {Z : State} {h h' : Heap} {a : Addr} {ty : FieldType} {n : Int32} (F : own_Len Z h a ty n) (E : Ext h h') : own_Len Z h' a ty n := by obtain ⟨c, A, r⟩ := F; exact ⟨c, A.ext E, r⟩
theorem own_Len.other {Z : State} {h h' : Heap} {a b : Addr} {sl : Nat} {v : Value} {ty : FieldType} {n : Int32} (F : own_Len Z h b ty n) (W : Wr h h' a sl v) (q : b ≠ a) : own_Len Z h' b ty n := by obtain ⟨c, A, r⟩ := F; exact ⟨c, A.other W q, r⟩
theorem own_Len.keep {Z : State} {h h' : Heap} {a : Addr} {ws : List Addr} {ty : FieldType} {n : Int32} (F : own_Len Z h a ty n) (K : Keep h h' ws) (q : a ∉ ws) : own_Len Z h' a ty n := by obtain ⟨c, A, r⟩ := F; exact ⟨c, ⟨K.2.1 a c A.1 q, A.2⟩, r⟩
theorem own_unt_keep {h h' : Heap} {a : Addr} {ws : List Addr} (F : Unt h a) (K : Keep h h' ws) (q : a ∉ ws) : Unt h' a := by obtain ⟨c, h1, r⟩ := F; exact ⟨c, K.2.1 a c h1 q, r⟩
theorem own_unt_lt {h : Heap} {a : Addr} (F : Unt h a) : a < h.size := by obtain ⟨c, h1, -⟩ := F; exact (Array.getElem?_eq_some_iff.mp h1).1
/-- an array of references, of known values, its component's class C -/
def own_ArvR (Z : State) (h : Heap) (a : Addr) (C : String) (n : Int32) (vs : List Value) : Prop := ∃ k, Arv Z h a k (.object C) n vs .null ∧ Ovr Z k C
theorem own_ArvR.lt {Z : State} {h : Heap} {a : Addr} {C : String} {n : Int32} {vs : List Value} (F : own_ArvR Z h a C n vs) : a < h.size := by obtain ⟨k, F, -⟩ := F; exact F.lt
theorem own_ArvR.ext {Z : State} {h h' : Heap} {a : Addr} {C : String} {n : Int32} {vs : List Value} (F : own_ArvR Z h a C n vs) (E : Ext h h') : own_ArvR Z h' a C n vs := by obtain ⟨k, F, O⟩ := F; exact ⟨k, F.ext E, O⟩
theorem own_ArvR.other {Z : State} {h h' : Heap} {a b : Addr} {sl : Nat} {v : Value} {C : String} {n : Int32} {vs : List Value} (F : own_ArvR Z h b C n vs) (W : Wr h h' a sl v) (q : b ≠ a) : own_ArvR Z h' b C n vs := by obtain ⟨k, F, O⟩ := F; exact ⟨k, F.other W q, O⟩
theorem own_ArvR.keep {Z : State} {h h' : Heap} {a : Addr} {ws : List Addr} {C : String} {n : Int32} {vs : List Value} (F : own_ArvR Z h a C n vs) (K : Keep h h' ws) (q : a ∉ ws) : own_ArvR Z h' a C n vs := by obtain ⟨k, F, O⟩ := F; exact ⟨k, F.keep K q, O⟩
theorem own_plainB {Z : State} {h : Heap} {a : Addr} {C : String} {n : Int32} {vs : List Value} (F : own_ArvR Z h a C n vs) : ∃ c : Cell, h[a]? = some c ∧ c.vm.isStatics = false := by obtain ⟨k, ⟨c, A, -⟩, -⟩ := F; exact ⟨c, A.1, A.plain⟩
theorem own_plainA {Z : State} {h : Heap} {a : Addr} {ty : FieldType} {n : Int32} {vs : List Value} {d : Value} (F : own_Arv Z h a ty n vs d) : ∃ c : Cell, h[a]? = some c ∧ c.vm.isStatics = false := by obtain ⟨k, c, A, -⟩ := F; exact ⟨c, A.1, A.plain⟩
theorem own_plainL {Z : State} {h : Heap} {a : Addr} {ty : FieldType} {n : Int32} (F : own_Len Z h a ty n) : ∃ c : Cell, h[a]? = some c ∧ c.vm.isStatics = false := by obtain ⟨c, A, -⟩ := F; exact ⟨c, A.1, A.plain⟩
theorem own_neA {Z : State} {h : Heap} {x b : Addr} {C : String} {a0 : Array Value} {m : Nat} {ty : FieldType} {n : Int32} {vs : List Value} {d : Value} (E : Exa Z h x C) (F : own_Arv Z h b ty n vs d) (w : (Jvm.Cond.instantiable C m).before a0 Z = true) : x ≠ b := by obtain ⟨k, c, A, -⟩ := F; exact ne_arr E w A
theorem own_neL {Z : State} {h : Heap} {x b : Addr} {C : String} {a0 : Array Value} {m : Nat} {ty : FieldType} {n : Int32} (E : Exa Z h x C) (F : own_Len Z h b ty n) (w : (Jvm.Cond.instantiable C m).before a0 Z = true) : x ≠ b := by obtain ⟨c, A, -⟩ := F; exact ne_arr E w A
theorem own_neB {Z : State} {h : Heap} {x b : Addr} {C D : String} {a0 : Array Value} {m : Nat} {n : Int32} {vs : List Value} (E : Exa Z h x C) (F : own_ArvR Z h b D n vs) (w : (Jvm.Cond.instantiable C m).before a0 Z = true) : x ≠ b := by obtain ⟨k, ⟨c, A, -⟩, -⟩ := F; exact ne_arr E w A

/-- own_Go, where String constants may be loaded -/
def own_GoW (p : Program) (e : Env) (below : List Frame) (s : State) (Q : Option Value → Heap → List Loc → Prop) (c n : Nat) (S : State) : Prop :=
  ∃ s₂ o, Steps p.tables e below S s₂ ∧ s₂.status = .running ∧ Ended s₂ below o ∧ ∃ v L, o = .returned v ∧ Q v s₂.heap L ∧ ReturnedEndW s o s₂ L c n
theorem own_goW {p : Program} {e : Env} {below : List Frame} {s : State} {Q : Option Value → Heap → List Loc → Prop} {c n : Nat} {S S' : State} (st : ∀ t, Steps p.tables e below S' t → Steps p.tables e below S t) (k : own_GoW p e below s Q c n S') : own_GoW p e below s Q c n S := by
  obtain ⟨s₂, o, h, r⟩ := k
  exact ⟨s₂, o, st _ h, r⟩
theorem own_goTW {p : Program} {e : Env} {below : List Frame} {s : State} {Q : Option Value → Heap → List Loc → Prop} {c n : Nat} {S S' : State} (st : Steps p.tables e below S S') (k : own_GoW p e below s Q c n S') : own_GoW p e below s Q c n S := own_goW (fun _ h => st.trans h) k
theorem own_endW {p : Program} {e : Env} {below : List Frame} {s : State} {Q : Option Value → Heap → List Loc → Prop} {c n c' n' : Nat} {S s₂ : State} {v : Option Value} {L : List Loc} (h : Steps p.tables e below S s₂) (hrun : s₂.status = .running) (he : Ended s₂ below (.returned v)) (hq : Q v s₂.heap L) (hE : s.Warmed39 s₂.vm ∧ s.Booked s₂.vm s₂.heap.size ∧ s.sameButNew ({ s₂ with vm := s.vm } : State) L c' n') (hc : c' ≤ c) (hn : n' ≤ n) : own_GoW p e below s Q c n S :=
  ⟨s₂, _, h, hrun, he, v, L, rfl, hq, ⟨_, rfl⟩, hE.1, hE.2.1, hE.2.2.mono hc hn⟩
theorem own_strW {Z : State} {a0 : Array Value} (w1 : (Jvm.Cond.initialized "java/lang/String").before a0 Z = true) (w2 : (Jvm.Cond.instantiable "java/lang/String" 4).before a0 Z = true) (w3 : (Jvm.Cond.arrayClass .byte).before a0 Z = true) (w4 : (Jvm.Cond.laysFinal "java/lang/String" "java/lang/String" "value" "[B").before a0 Z = true) (w5 : (Jvm.Cond.laysFinal "java/lang/String" "java/lang/String" "coder" "B").before a0 Z = true) (w6 : (Jvm.Cond.soleField "java/lang/String" "value").before a0 Z = true) (w7 : (Jvm.Cond.soleField "java/lang/String" "coder").before a0 Z = true) : ∀ a ∈ Bundle.stringAtoms, a.before a0 Z = true := by
  intro a ha
  simp only [Bundle.stringAtoms, Bundle.sN, List.mem_cons, List.not_mem_nil, or_false] at ha
  rcases ha with rfl | rfl | rfl | rfl | rfl | rfl | rfl
  · exact w1
  · exact w2
  · exact w3
  · exact w4
  · exact w5
  · exact w6
  · exact w7

theorem d3_0 : decode jdk_31_method_11_code 0 = .ok (.aload_n 0, 1) := by decide +kernel
theorem d3_1 : decode jdk_31_method_11_code 1 = .ok (.ifnonnull 12, 3) := by decide +kernel
theorem d3_13 : decode jdk_31_method_11_code 13 = .ok (.aload_n 0, 1) := by decide +kernel
theorem d3_14 : decode jdk_31_method_11_code 14 = .ok (.areturn, 1) := by decide +kernel
theorem pn_4 : plainName "java/util/Objects" = true := by first | (simp [plainName, overriddenIn]; done) | decide +kernel
theorem ef_reqNN (m : MethodId) (x0 : Addr) (x1 : Addr) : entryFrame m #[(.ref x0), (.ref x1)] 2 = mkF m 0 #[.val (.ref x0), .val (.ref x1)] [] := by first | (simp [entryFrame, mkF, argsToLocals, Value.category]; done) | rfl
def QreqNN (Z : State) (o0 : Addr) (o1 : Addr) (h0 : Heap) (n0 : Nat) (v : Option Value) (h : Heap) (L : List Loc) : Prop := v = some (.ref o0) ∧ Fr n0 L ∧ h = h0
set_option maxRecDepth 65536 in
set_option maxHeartbeats 40000000 in
theorem reqNN (l : Launch) (Z : State) (a0 : Array Value) (hw : ∀ d ∈ tables_1, d.before a0 Z = true) (ws : List Jvm.Cond) (o0 : Addr) (o1 : Addr) (h0 : Heap) (n0 : Nat) (Z0 : n0 ≤ h0.size) :
    MetFree l (⟨"java/util/Objects", "requireNonNull", "(Ljava/lang/Object;Ljava/lang/String;)Ljava/lang/Object;"⟩ : MethodName) (head1 (Jvm.Cond.code (⟨"java/util/Objects", "requireNonNull", "(Ljava/lang/Object;Ljava/lang/String;)Ljava/lang/Object;"⟩ : MethodName) jdk_31_method_11_code 2 (some (.object "java/lang/Object")) :: ws) ({ frames := 0, cells := 0, slots := 0, locals := 0 } : Room)) (fun a U => a = #[(.ref o0), (.ref o1)] ∧ Z.Warmed39 U.vm ∧ U.heap = h0) (fun _ _ _ _ _ => True) (fun _ U o U' => ∃ v L, o = .returned v ∧ QreqNN Z o0 o1 h0 n0 v U'.heap L ∧ FrameEnd U o U' L ({ frames := 0, cells := 0, slots := 0, locals := 0 } : Room).cells ({ frames := 0, cells := 0, slots := 0, locals := 0 } : Room).slots) := by
  refine MetFree.of_bodySF (plainFor_of_name pn_4) hisR ?_
  intro p e s m args below meth c s₁ Bd hml0 hP hK
  obtain ⟨rfl, hZ, hh⟩ := hP
  have hx := Bd.exec
  have hby := Bd.bytes
  have hml : c.maxLocals = 2 := hml0
  have hown : s.vm.findClass "java/util/Objects" = some m.cls := findClass_of_methodNamed Bd.named
  have hnm := (name_of_methodNamed Bd.named Bd.method).1
  have X0 : Stand p l e ({ frames := 0, cells := 0, slots := 0, locals := 0 } : Room) s m #[(.ref o0), (.ref o1)] below meth c s₁ [] 0 0 := Stand.of_body Bd
  have e0 : s₁.heap = h0 := by rw [← hh, Bd.state]; rfl
  have N0 := Fr.nil n0
  show own_Go p e below s (QreqNN Z o0 o1 h0 n0) ({ frames := 0, cells := 0, slots := 0, locals := 0 } : Room).cells ({ frames := 0, cells := 0, slots := 0, locals := 0 } : Room).slots (s₁.setTop (entryFrame m #[(.ref o0), (.ref o1)] 2))
  rw [ef_reqNN m o0 o1]
  have K0 : Keep h0 h0 [] := Keep.refl h0 []
  refine own_go (S' := s₁.setTop (mkF m 14 #[.val (.ref o0), .val (.ref o1)] [(.ref o0)])) (fun t k => ?_) ?_
  · show Steps p.tables e below (s₁.setTop (mkF m 0 #[.val (.ref o0), .val (.ref o1)] [])) t
    refine XS.aloadN X0.here hx rfl (hb hby d3_0) rfl rfl ?_
    show Steps p.tables e below (s₁.setTop (mkF m 1 #[.val (.ref o0), .val (.ref o1)] [(.ref o0)])) t
    refine XS.ifnonnullYes X0.here hx rfl (pc0 := 1) (pc' := 13) rfl (hb hby d3_1) rfl (by decide) (by decide) ?_
    show Steps p.tables e below (s₁.setTop (mkF m 13 #[.val (.ref o0), .val (.ref o1)] [])) t
    refine XS.aloadN X0.here hx rfl (hb hby d3_13) rfl rfl ?_
    exact k
  obtain ⟨fs, hr, hrun, hended, hW, hsame⟩ := X0.leave (v := some (.ref o0)) (fun h => by rw [Bd.returns] at h; cases h)
  refine own_end (v := some (.ref o0)) ?_ hrun hended ?_ hW (hsame.mono (by decide) (by decide))
  · show Steps p.tables e below (s₁.setTop (mkF m 14 #[.val (.ref o0), .val (.ref o1)] [(.ref o0)])) _
    jvm_step X0.here [X0.here.top, hx, (hb hby d3_14), X0.method', Bd.returns, Value.isRef, FieldType.isReference]
    first | (intro acts; rw [hr _ acts rfl rfl rfl]) | rw [hr _ _ rfl rfl rfl]
    exact Steps.refl _
  · show QreqNN Z o0 o1 h0 n0 _ s₁.heap _
    rw [e0]
    exact ⟨rfl, N0, rfl⟩
theorem d1_0 : decode prog_24_method_1_code 0 = .ok (.aload_n 0, 1) := by decide +kernel
theorem d1_1 : decode prog_24_method_1_code 1 = .ok (.invokespecial 1, 3) := by decide +kernel
theorem d1_4 : decode prog_24_method_1_code 4 = .ok (.aload_n 0, 1) := by decide +kernel
theorem d1_5 : decode prog_24_method_1_code 5 = .ok (.aload_n 1, 1) := by decide +kernel
theorem d1_6 : decode prog_24_method_1_code 6 = .ok (.ldc 7, 2) := by decide +kernel
theorem d1_8 : decode prog_24_method_1_code 8 = .ok (.invokestatic 9, 3) := by decide +kernel
theorem pd_11 : parseMethodDescriptor "(Ljava/lang/Object;Ljava/lang/String;)Ljava/lang/Object;" = some ⟨[(.object "java/lang/Object"), (.object "java/lang/String")], some (.object "java/lang/Object")⟩ := by decide +kernel
theorem d1_11 : decode prog_24_method_1_code 11 = .ok (.checkcast 15, 3) := by decide +kernel
theorem d1_14 : decode prog_24_method_1_code 14 = .ok (.putfield 17, 3) := by decide +kernel
theorem d1_17 : decode prog_24_method_1_code 17 = .ok (.aload_n 0, 1) := by decide +kernel
theorem d1_18 : decode prog_24_method_1_code 18 = .ok (.aload_n 2, 1) := by decide +kernel
theorem d1_19 : decode prog_24_method_1_code 19 = .ok (.ldc 22, 2) := by decide +kernel
theorem d1_21 : decode prog_24_method_1_code 21 = .ok (.invokestatic 9, 3) := by decide +kernel
theorem d1_24 : decode prog_24_method_1_code 24 = .ok (.checkcast 15, 3) := by decide +kernel
theorem d1_27 : decode prog_24_method_1_code 27 = .ok (.putfield 24, 3) := by decide +kernel
theorem d1_30 : decode prog_24_method_1_code 30 = .ok (.return_, 1) := by decide +kernel
theorem pn_21 : plainName "com/example/perigo/perigo/engine/event/Medium" = true := by first | (simp [plainName, overriddenIn]; done) | decide +kernel
theorem ef_meInit (m : MethodId) (x0 : Addr) (x1 : Addr) (x2 : Addr) : entryFrame m #[(.ref x0), (.ref x1), (.ref x2)] 3 = mkF m 0 #[.val (.ref x0), .val (.ref x1), .val (.ref x2)] [] := by first | (simp [entryFrame, mkF, argsToLocals, Value.category]; done) | rfl
def QmeInit (Z : State) (o0 : Addr) (o1 : Addr) (o2 : Addr) (w_o0_kind : Value) (w_o0_value : Value) (h0 : Heap) (n0 : Nat) (v : Option Value) (h : Heap) (L : List Loc) : Prop := v = none ∧ Fr n0 L ∧ Keep h0 h [o0] ∧ Exa Z h o0 "com/example/perigo/perigo/engine/event/Medium" ∧ Fld Z h o0 "com/example/perigo/perigo/engine/event/Medium" "kind" "Ljava/lang/String;" (.ref o1) ∧ Fld Z h o0 "com/example/perigo/perigo/engine/event/Medium" "value" "Ljava/lang/String;" (.ref o2)
set_option maxRecDepth 65536 in
set_option maxHeartbeats 40000000 in
theorem meInit (l : Launch) (Z : State) (a0 : Array Value) (hw : ∀ d ∈ tables_1, d.before a0 Z = true) (ws : List Jvm.Cond) (o0 : Addr) (o1 : Addr) (o2 : Addr) (w_o0_kind : Value) (w_o0_value : Value) (h0 : Heap) (n0 : Nat) (Z0 : n0 ≤ h0.size) (E_o1 : Exa Z h0 o1 "java/lang/String") (E_o0 : Exa Z h0 o0 "com/example/perigo/perigo/engine/event/Medium") (F_o0_kind : Fld Z h0 o0 "com/example/perigo/perigo/engine/event/Medium" "kind" "Ljava/lang/String;" w_o0_kind) (F_o0_value : Fld Z h0 o0 "com/example/perigo/perigo/engine/event/Medium" "value" "Ljava/lang/String;" w_o0_value) (g_o0 : n0 ≤ o0) (E_o2 : Exa Z h0 o2 "java/lang/String") :
    MetFree l (⟨"com/example/perigo/perigo/engine/event/Medium", "<init>", "(Ljava/lang/String;Ljava/lang/String;)V"⟩ : MethodName) (head1 (Jvm.Cond.code (⟨"com/example/perigo/perigo/engine/event/Medium", "<init>", "(Ljava/lang/String;Ljava/lang/String;)V"⟩ : MethodName) prog_24_method_1_code 3 none :: ws) ({ frames := 1, cells := 4, slots := 44, locals := 14 } : Room)) (fun a U => a = #[(.ref o0), (.ref o1), (.ref o2)] ∧ Z.Warmed39 U.vm ∧ U.heap = h0) (fun _ _ _ _ _ => True) (fun _ U o U' => ∃ v L, o = .returned v ∧ QmeInit Z o0 o1 o2 w_o0_kind w_o0_value h0 n0 v U'.heap L ∧ ReturnedEndW U o U' L ({ frames := 1, cells := 4, slots := 44, locals := 14 } : Room).cells ({ frames := 1, cells := 4, slots := 44, locals := 14 } : Room).slots) := by
  refine MetFree.of_bodySF (plainFor_of_name pn_21) hisR ?_
  intro p e s m args below meth c s₁ Bd hml0 hP hK
  obtain ⟨rfl, hZ, hh⟩ := hP
  have hx := Bd.exec
  have hby := Bd.bytes
  have hml : c.maxLocals = 3 := hml0
  have hown : s.vm.findClass "com/example/perigo/perigo/engine/event/Medium" = some m.cls := findClass_of_methodNamed Bd.named
  have hnm := (name_of_methodNamed Bd.named Bd.method).1
  have X0 : Stand p l e ({ frames := 1, cells := 4, slots := 44, locals := 14 } : Room) s m #[(.ref o0), (.ref o1), (.ref o2)] below meth c s₁ [] 0 0 := Stand.of_body Bd
  have e0 : s₁.heap = h0 := by rw [← hh, Bd.state]; rfl
  have N0 := Fr.nil n0
  show own_GoW p e below s (QmeInit Z o0 o1 o2 w_o0_kind w_o0_value h0 n0) ({ frames := 1, cells := 4, slots := 44, locals := 14 } : Room).cells ({ frames := 1, cells := 4, slots := 44, locals := 14 } : Room).slots (s₁.setTop (entryFrame m #[(.ref o0), (.ref o1), (.ref o2)] 3))
  rw [ef_meInit m o0 o1 o2]
  have hS : s.Since s.vm 0 := (State.WarmedH.refl s).since 0
  have hk0 : 0 ≤ h0.size := Nat.zero_le _
  have K0 : Keep h0 h0 [o0] := Keep.refl h0 [o0]
  refine own_goW (S' := s₁.setTop (mkF m 1 #[.val (.ref o0), .val (.ref o1), .val (.ref o2)] [(.ref o0)])) (fun t k => ?_) ?_
  · show Steps p.tables e below (s₁.setTop (mkF m 0 #[.val (.ref o0), .val (.ref o1), .val (.ref o2)] [])) t
    refine XS.aloadN X0.here hx rfl (hb hby d1_0) rfl rfl ?_
    exact k
  obtain ⟨T1, X1, e1, st1⟩ := initO X0 hx hZ hown (hw _ (List.mem_of_getElem? (i := 18) rfl)) (hw _ (List.mem_of_getElem? (i := 19) rfl)) (hw _ (List.mem_of_getElem? (i := 20) rfl)) e0 (g := (mkF m 1 #[.val (.ref o0), .val (.ref o1), .val (.ref o2)] [(.ref o0)])) rfl (by rw [hml]; rfl) rfl (hb hby d1_1) (by decide) (W := 0) (by show 2 * 0 + _ ≤ _; exact Nat.le_of_eq rfl) (by decide)
  refine own_goW st1 ?_
  refine own_goW (S' := T1.setTop (mkF m 6 #[.val (.ref o0), .val (.ref o1), .val (.ref o2)] [(.ref o1), (.ref o0)])) (fun t k => ?_) ?_
  · show Steps p.tables e below (T1.setTop (mkF m 4 #[.val (.ref o0), .val (.ref o1), .val (.ref o2)] [])) t
    refine XS.aloadN X1.here hx rfl (hb hby d1_4) rfl rfl ?_
    show Steps p.tables e below (T1.setTop (mkF m 5 #[.val (.ref o0), .val (.ref o1), .val (.ref o2)] [(.ref o0)])) t
    refine XS.aloadN X1.here hx rfl (hb hby d1_5) rfl rfl ?_
    exact k
  obtain ⟨b2, T2, h2, k2, X2, e2, E2, hS, hk2, hZ, hown, st2⟩ := ldcS (s := s) (vm0 := s.vm) X1 hx hZ hown (hw _ (List.mem_of_getElem? (i := 21) rfl)) (own_strW (hw _ (List.mem_of_getElem? (i := 7) rfl)) (hw _ (List.mem_of_getElem? (i := 8) rfl)) (hw _ (List.mem_of_getElem? (i := 9) rfl)) (hw _ (List.mem_of_getElem? (i := 10) rfl)) (hw _ (List.mem_of_getElem? (i := 11) rfl)) (hw _ (List.mem_of_getElem? (i := 12) rfl)) (hw _ (List.mem_of_getElem? (i := 13) rfl))) e1 hS hk0 (g := (mkF m 6 #[.val (.ref o0), .val (.ref o1), .val (.ref o2)] [(.ref o1), (.ref o0)])) rfl (hb hby d1_6) (n := 16) (by decide) (by decide) (by decide) (by decide)
  have K3 : Keep h0 h2 [o0] := K0.ext E2
  have Z4 : n0 ≤ h2.size := Nat.le_trans Z0 E2.1
  have hk5 := Nat.le_trans hk0 E2.1
  have f6 : Exa Z h2 o1 "java/lang/String" := Exa.ext E2 E_o1
  have f7 : Exa Z h2 o0 "com/example/perigo/perigo/engine/event/Medium" := Exa.ext E2 E_o0
  have f8 : Fld Z h2 o0 "com/example/perigo/perigo/engine/event/Medium" "kind" "Ljava/lang/String;" w_o0_kind := Fld.ext E2 F_o0_kind
  have f9 : Fld Z h2 o0 "com/example/perigo/perigo/engine/event/Medium" "value" "Ljava/lang/String;" w_o0_value := Fld.ext E2 F_o0_value
  have f10 : Exa Z h2 o2 "java/lang/String" := Exa.ext E2 E_o2
  refine own_goW st2 ?_
  obtain ⟨_, _, ⟨T11, L11, kk11, nn11⟩, -, X11, ⟨Lc11, hQ11, l11, y11, z11⟩, st11⟩ := Jvm.LawKit.callS X2 hx (y := (⟨"java/util/Objects", "requireNonNull", "(Ljava/lang/Object;Ljava/lang/String;)Ljava/lang/Object;"⟩ : MethodName)) hown (mvT hZ (hw _ (List.mem_of_getElem? (i := 22) rfl))) (mvT hZ (hw _ (List.mem_of_getElem? (i := 23) rfl))) (mvT hZ (hw _ (List.mem_of_getElem? (i := 24) rfl))) (mvT hZ (hw _ (List.mem_of_getElem? (i := 25) rfl))) (by decide) (backOf (W := 1) (reqNN l Z a0 hw [] o1 b2 h2 n0 Z4 ) hZ (hw _ (List.mem_of_getElem? (i := 25) rfl)) (hw _ (List.mem_of_getElem? (i := 24) rfl)) (by decide) (by decide)) (g := (mkF m 8 #[.val (.ref o0), .val (.ref o1), .val (.ref o2)] [(.ref b2), (.ref o1), (.ref o0)])) rfl (by rw [hml]; rfl) (argsL := [(.ref o1), (.ref b2)]) (rest := [(.ref o0)]) (lenOf pd_11 rfl) rfl (by show 2 * 0 + _ ≤ _; exact Nat.le_of_eq rfl) (hb hby d1_8) (fun _ _ => ⟨rfl, e2, (by decide : 2 + 0 ≤ _), (by decide : 20 + 0 ≤ _)⟩)
  dsimp only [Pt.U, Pt.locs, Pt.cells, Pt.slots] at X11 l11 y11 z11 st11 hQ11
  subst l11 y11 z11
  obtain ⟨rfl, N12, e11⟩ := hQ11
  have N14 := Fr.app N0 N12
  refine own_goW st11 ?_
  obtain ⟨T15, X15, e15, st15⟩ := castY X11 hx hZ hown (hw _ (List.mem_of_getElem? (i := 26) rfl)) e11 (Ins.self f6) (g := (mkF m 11 #[.val (.ref o0), .val (.ref o1), .val (.ref o2)] [(.ref o1), (.ref o0)])) rfl rfl (hb hby d1_11)
  refine own_goW st15 ?_
  obtain ⟨T16, h16, X16, e16, W16, st16⟩ := putF X15 hx hZ hown (host := "") (Or.inl (hw _ (List.mem_of_getElem? (i := 28) rfl))) Via.refl e15 f8 f7 (Or.inr ⟨(hw _ (List.mem_of_getElem? (i := 29) rfl)), rfl, hnm⟩) (hw _ (List.mem_of_getElem? (i := 4) rfl)) (ty := (.object "java/lang/String")) (by decide) rfl rfl (g := (mkF m 14 #[.val (.ref o0), .val (.ref o1), .val (.ref o2)] [(.ref o1), (.ref o0)])) rfl rfl (hb hby d1_14)
  have f17 : Exa Z h16 o1 "java/lang/String" := f6.wr W16
  have f18 : Exa Z h16 o0 "com/example/perigo/perigo/engine/event/Medium" := f7.wr W16
  have f19 : Fld Z h16 o0 "com/example/perigo/perigo/engine/event/Medium" "value" "Ljava/lang/String;" w_o0_value := f9.other W16 (Or.inr (slot_ne (Or.inr (hw _ (List.mem_of_getElem? (i := 32) rfl))) (Or.inr (hw _ (List.mem_of_getElem? (i := 29) rfl))) (by decide) (t := (.object "java/lang/String")) (t' := (.object "java/lang/String")) (by decide) (by decide)))
  have f20 : Exa Z h16 o2 "java/lang/String" := f10.wr W16
  have f21 : Fld Z h16 o0 "com/example/perigo/perigo/engine/event/Medium" "kind" "Ljava/lang/String;" (.ref o1) := f8.same W16
  have N22 := Fr.snoc X16 N14 g_o0
  have Z23 : n0 ≤ h16.size := Nat.le_trans Z4 (Keep.of_wr W16).1
  have hk24 := Nat.le_trans hk2 (Keep.of_wr W16).1
  have K25 : Keep h0 h16 [o0] := K3.wr W16 (Or.inl (List.mem_of_getElem? (i := 0) rfl))
  refine own_goW st16 ?_
  refine own_goW (S' := T16.setTop (mkF m 19 #[.val (.ref o0), .val (.ref o1), .val (.ref o2)] [(.ref o2), (.ref o0)])) (fun t k => ?_) ?_
  · show Steps p.tables e below (T16.setTop (mkF m 17 #[.val (.ref o0), .val (.ref o1), .val (.ref o2)] [])) t
    refine XS.aloadN X16.here hx rfl (hb hby d1_17) rfl rfl ?_
    show Steps p.tables e below (T16.setTop (mkF m 18 #[.val (.ref o0), .val (.ref o1), .val (.ref o2)] [(.ref o0)])) t
    refine XS.aloadN X16.here hx rfl (hb hby d1_18) rfl rfl ?_
    exact k
  obtain ⟨b26, T26, h26, k26, X26, e26, E26, hS, hk26, hZ, hown, st26⟩ := ldcS (s := s) (vm0 := T2.vm) X16 hx hZ hown (hw _ (List.mem_of_getElem? (i := 30) rfl)) (own_strW (hw _ (List.mem_of_getElem? (i := 7) rfl)) (hw _ (List.mem_of_getElem? (i := 8) rfl)) (hw _ (List.mem_of_getElem? (i := 9) rfl)) (hw _ (List.mem_of_getElem? (i := 10) rfl)) (hw _ (List.mem_of_getElem? (i := 11) rfl)) (hw _ (List.mem_of_getElem? (i := 12) rfl)) (hw _ (List.mem_of_getElem? (i := 13) rfl))) e16 hS hk24 (g := (mkF m 19 #[.val (.ref o0), .val (.ref o1), .val (.ref o2)] [(.ref o2), (.ref o0)])) rfl (hb hby d1_19) (n := 20) (by decide) (by decide) (by decide) (by decide)
  have K27 : Keep h0 h26 [o0] := K25.ext E26
  have Z28 : n0 ≤ h26.size := Nat.le_trans Z23 E26.1
  have hk29 := Nat.le_trans hk24 E26.1
  have f30 : Exa Z h26 o1 "java/lang/String" := Exa.ext E26 f17
  have f31 : Exa Z h26 o0 "com/example/perigo/perigo/engine/event/Medium" := Exa.ext E26 f18
  have f32 : Fld Z h26 o0 "com/example/perigo/perigo/engine/event/Medium" "value" "Ljava/lang/String;" w_o0_value := Fld.ext E26 f19
  have f33 : Exa Z h26 o2 "java/lang/String" := Exa.ext E26 f20
  have f34 : Fld Z h26 o0 "com/example/perigo/perigo/engine/event/Medium" "kind" "Ljava/lang/String;" (.ref o1) := Fld.ext E26 f21
  refine own_goW st26 ?_
  obtain ⟨_, _, ⟨T35, L35, kk35, nn35⟩, -, X35, ⟨Lc35, hQ35, l35, y35, z35⟩, st35⟩ := Jvm.LawKit.callS X26 hx (y := (⟨"java/util/Objects", "requireNonNull", "(Ljava/lang/Object;Ljava/lang/String;)Ljava/lang/Object;"⟩ : MethodName)) hown (mvT hZ (hw _ (List.mem_of_getElem? (i := 22) rfl))) (mvT hZ (hw _ (List.mem_of_getElem? (i := 23) rfl))) (mvT hZ (hw _ (List.mem_of_getElem? (i := 24) rfl))) (mvT hZ (hw _ (List.mem_of_getElem? (i := 25) rfl))) (by decide) (backOf (W := 1) (reqNN l Z a0 hw [] o2 b26 h26 n0 Z28 ) hZ (hw _ (List.mem_of_getElem? (i := 25) rfl)) (hw _ (List.mem_of_getElem? (i := 24) rfl)) (by decide) (by decide)) (g := (mkF m 21 #[.val (.ref o0), .val (.ref o1), .val (.ref o2)] [(.ref b26), (.ref o2), (.ref o0)])) rfl (by rw [hml]; rfl) (argsL := [(.ref o2), (.ref b26)]) (rest := [(.ref o0)]) (lenOf pd_11 rfl) rfl (by show 2 * 0 + _ ≤ _; exact Nat.le_of_eq rfl) (hb hby d1_21) (fun _ _ => ⟨rfl, e26, (by decide : 4 + 0 ≤ _), (by decide : 44 + 0 ≤ _)⟩)
  dsimp only [Pt.U, Pt.locs, Pt.cells, Pt.slots] at X35 l35 y35 z35 st35 hQ35
  subst l35 y35 z35
  obtain ⟨rfl, N36, e35⟩ := hQ35
  have N38 := Fr.app N22 N36
  refine own_goW st35 ?_
  obtain ⟨T39, X39, e39, st39⟩ := castY X35 hx hZ hown (hw _ (List.mem_of_getElem? (i := 26) rfl)) e35 (Ins.self f33) (g := (mkF m 24 #[.val (.ref o0), .val (.ref o1), .val (.ref o2)] [(.ref o2), (.ref o0)])) rfl rfl (hb hby d1_24)
  refine own_goW st39 ?_
  obtain ⟨T40, h40, X40, e40, W40, st40⟩ := putF X39 hx hZ hown (host := "") (Or.inl (hw _ (List.mem_of_getElem? (i := 31) rfl))) Via.refl e39 f32 f31 (Or.inr ⟨(hw _ (List.mem_of_getElem? (i := 32) rfl)), rfl, hnm⟩) (hw _ (List.mem_of_getElem? (i := 4) rfl)) (ty := (.object "java/lang/String")) (by decide) rfl rfl (g := (mkF m 27 #[.val (.ref o0), .val (.ref o1), .val (.ref o2)] [(.ref o2), (.ref o0)])) rfl rfl (hb hby d1_27)
  have f41 : Exa Z h40 o1 "java/lang/String" := f30.wr W40
  have f42 : Exa Z h40 o0 "com/example/perigo/perigo/engine/event/Medium" := f31.wr W40
  have f43 : Exa Z h40 o2 "java/lang/String" := f33.wr W40
  have f44 : Fld Z h40 o0 "com/example/perigo/perigo/engine/event/Medium" "kind" "Ljava/lang/String;" (.ref o1) := f34.other W40 (Or.inr (slot_ne (Or.inr (hw _ (List.mem_of_getElem? (i := 29) rfl))) (Or.inr (hw _ (List.mem_of_getElem? (i := 32) rfl))) (by decide) (t := (.object "java/lang/String")) (t' := (.object "java/lang/String")) (by decide) (by decide)))
  have f45 : Fld Z h40 o0 "com/example/perigo/perigo/engine/event/Medium" "value" "Ljava/lang/String;" (.ref o2) := f32.same W40
  have N46 := Fr.snoc X40 N38 g_o0
  have Z47 : n0 ≤ h40.size := Nat.le_trans Z28 (Keep.of_wr W40).1
  have hk48 := Nat.le_trans hk26 (Keep.of_wr W40).1
  have K49 : Keep h0 h40 [o0] := K27.wr W40 (Or.inl (List.mem_of_getElem? (i := 0) rfl))
  refine own_goW st40 ?_
  obtain ⟨fs, hr, hrun, hended, hW, hsame⟩ := X40.leave (v := none) (fun _ => rfl)
  refine own_endW (v := none) ?_ hrun hended ?_ (hS.ended hW (by show _ ≤ T40.heap.size; rw [e40]; exact hk48) hsame) (by decide) (by decide)
  · show Steps p.tables e below (T40.setTop (mkF m 30 #[.val (.ref o0), .val (.ref o1), .val (.ref o2)] [])) _
    exact X40.returnOut hx Bd.returns (hb hby d1_30) hr
  · show QmeInit Z o0 o1 o2 w_o0_kind w_o0_value h0 n0 _ T40.heap _
    rw [e40]
    exact ⟨rfl, N46, K49, f42, f44, f45⟩
theorem d5_0 : decode prog_56_method_1_code 0 = .ok (.aload_n 0, 1) := by decide +kernel
theorem d5_1 : decode prog_56_method_1_code 1 = .ok (.invokespecial 1, 3) := by decide +kernel
theorem d5_4 : decode prog_56_method_1_code 4 = .ok (.aload_n 0, 1) := by decide +kernel
theorem d5_5 : decode prog_56_method_1_code 5 = .ok (.iconst 1, 1) := by decide +kernel
theorem d5_6 : decode prog_56_method_1_code 6 = .ok (.newarray .int, 2) := by decide +kernel
theorem d5_8 : decode prog_56_method_1_code 8 = .ok (.putfield 7, 3) := by decide +kernel
theorem d5_11 : decode prog_56_method_1_code 11 = .ok (.aload_n 0, 1) := by decide +kernel
theorem d5_12 : decode prog_56_method_1_code 12 = .ok (.iconst 1, 1) := by decide +kernel
theorem d5_13 : decode prog_56_method_1_code 13 = .ok (.newarray .long, 2) := by decide +kernel
theorem d5_15 : decode prog_56_method_1_code 15 = .ok (.putfield 13, 3) := by decide +kernel
theorem d5_18 : decode prog_56_method_1_code 18 = .ok (.aload_n 0, 1) := by decide +kernel
theorem d5_19 : decode prog_56_method_1_code 19 = .ok (.iconst 1, 1) := by decide +kernel
theorem d5_20 : decode prog_56_method_1_code 20 = .ok (.newarray .int, 2) := by decide +kernel
theorem d5_22 : decode prog_56_method_1_code 22 = .ok (.putfield 17, 3) := by decide +kernel
theorem d5_25 : decode prog_56_method_1_code 25 = .ok (.aload_n 0, 1) := by decide +kernel
theorem d5_26 : decode prog_56_method_1_code 26 = .ok (.iconst 1, 1) := by decide +kernel
theorem d5_27 : decode prog_56_method_1_code 27 = .ok (.newarray .int, 2) := by decide +kernel
theorem d5_29 : decode prog_56_method_1_code 29 = .ok (.putfield 20, 3) := by decide +kernel
theorem d5_32 : decode prog_56_method_1_code 32 = .ok (.return_, 1) := by decide +kernel
theorem pn_41 : plainName "com/example/perigo/perigo/engine/network/Timeline" = true := by first | (simp [plainName, overriddenIn]; done) | decide +kernel
theorem ef_tlInit (m : MethodId) (x0 : Addr) : entryFrame m #[(.ref x0)] 1 = mkF m 0 #[.val (.ref x0)] [] := by first | (simp [entryFrame, mkF, argsToLocals, Value.category]; done) | rfl
def QtlInit (Z : State) (o0 : Addr) (w_o0_numbers : Value) (w_o0_seconds : Value) (w_o0_nanos : Value) (w_o0_tags : Value) (h0 : Heap) (n0 : Nat) (v : Option Value) (h : Heap) (L : List Loc) : Prop := v = none ∧ Fr n0 L ∧ Keep h0 h [o0] ∧ Exa Z h o0 "com/example/perigo/perigo/engine/network/Timeline"
set_option maxRecDepth 65536 in
set_option maxHeartbeats 40000000 in
theorem tlInit (l : Launch) (Z : State) (a0 : Array Value) (hw : ∀ d ∈ tables_1, d.before a0 Z = true) (ws : List Jvm.Cond) (o0 : Addr) (w_o0_numbers : Value) (w_o0_seconds : Value) (w_o0_nanos : Value) (w_o0_tags : Value) (h0 : Heap) (n0 : Nat) (Z0 : n0 ≤ h0.size) (E_o0 : Exa Z h0 o0 "com/example/perigo/perigo/engine/network/Timeline") (F_o0_numbers : Fld Z h0 o0 "com/example/perigo/perigo/engine/network/Timeline" "numbers" "[I" w_o0_numbers) (F_o0_seconds : Fld Z h0 o0 "com/example/perigo/perigo/engine/network/Timeline" "seconds" "[J" w_o0_seconds) (F_o0_nanos : Fld Z h0 o0 "com/example/perigo/perigo/engine/network/Timeline" "nanos" "[I" w_o0_nanos) (F_o0_tags : Fld Z h0 o0 "com/example/perigo/perigo/engine/network/Timeline" "tags" "[I" w_o0_tags) (g_o0 : n0 ≤ o0) :
    MetFree l (⟨"com/example/perigo/perigo/engine/network/Timeline", "<init>", "()V"⟩ : MethodName) (head1 (Jvm.Cond.code (⟨"com/example/perigo/perigo/engine/network/Timeline", "<init>", "()V"⟩ : MethodName) prog_56_method_1_code 1 none :: ws) ({ frames := 1, cells := 4, slots := 4, locals := 12 } : Room)) (fun a U => a = #[(.ref o0)] ∧ Z.Warmed39 U.vm ∧ U.heap = h0) (fun _ _ _ _ _ => True) (fun _ U o U' => ∃ v L, o = .returned v ∧ QtlInit Z o0 w_o0_numbers w_o0_seconds w_o0_nanos w_o0_tags h0 n0 v U'.heap L ∧ FrameEnd U o U' L ({ frames := 1, cells := 4, slots := 4, locals := 12 } : Room).cells ({ frames := 1, cells := 4, slots := 4, locals := 12 } : Room).slots) := by
  refine MetFree.of_bodySF (plainFor_of_name pn_41) hisR ?_
  intro p e s m args below meth c s₁ Bd hml0 hP hK
  obtain ⟨rfl, hZ, hh⟩ := hP
  have hx := Bd.exec
  have hby := Bd.bytes
  have hml : c.maxLocals = 1 := hml0
  have hown : s.vm.findClass "com/example/perigo/perigo/engine/network/Timeline" = some m.cls := findClass_of_methodNamed Bd.named
  have hnm := (name_of_methodNamed Bd.named Bd.method).1
  have X0 : Stand p l e ({ frames := 1, cells := 4, slots := 4, locals := 12 } : Room) s m #[(.ref o0)] below meth c s₁ [] 0 0 := Stand.of_body Bd
  have e0 : s₁.heap = h0 := by rw [← hh, Bd.state]; rfl
  have N0 := Fr.nil n0
  show own_Go p e below s (QtlInit Z o0 w_o0_numbers w_o0_seconds w_o0_nanos w_o0_tags h0 n0) ({ frames := 1, cells := 4, slots := 4, locals := 12 } : Room).cells ({ frames := 1, cells := 4, slots := 4, locals := 12 } : Room).slots (s₁.setTop (entryFrame m #[(.ref o0)] 1))
  rw [ef_tlInit m o0]
  have K0 : Keep h0 h0 [o0] := Keep.refl h0 [o0]
  refine own_go (S' := s₁.setTop (mkF m 1 #[.val (.ref o0)] [(.ref o0)])) (fun t k => ?_) ?_
  · show Steps p.tables e below (s₁.setTop (mkF m 0 #[.val (.ref o0)] [])) t
    refine XS.aloadN X0.here hx rfl (hb hby d5_0) rfl rfl ?_
    exact k
  obtain ⟨T50, X50, e50, st50⟩ := initO X0 hx hZ hown (hw _ (List.mem_of_getElem? (i := 43) rfl)) (hw _ (List.mem_of_getElem? (i := 19) rfl)) (hw _ (List.mem_of_getElem? (i := 20) rfl)) e0 (g := (mkF m 1 #[.val (.ref o0)] [(.ref o0)])) rfl (by rw [hml]; rfl) rfl (hb hby d5_1) (by decide) (W := 0) (by show 2 * 0 + _ ≤ _; exact Nat.le_of_eq rfl) (by decide)
  refine own_go st50 ?_
  refine own_go (S' := T50.setTop (mkF m 6 #[.val (.ref o0)] [(.int (1 : Int32)), (.ref o0)])) (fun t k => ?_) ?_
  · show Steps p.tables e below (T50.setTop (mkF m 4 #[.val (.ref o0)] [])) t
    refine XS.aloadN X50.here hx rfl (hb hby d5_4) rfl rfl ?_
    show Steps p.tables e below (T50.setTop (mkF m 5 #[.val (.ref o0)] [(.ref o0)])) t
    refine XS.iconst X50.here hx rfl (hb hby d5_5) ?_
    exact k
  obtain ⟨T51, h51, k51, X51, e51, E51, A51, st51⟩ := newP X50 hx hZ (hw _ (List.mem_of_getElem? (i := 44) rfl)) e50 (g := (mkF m 6 #[.val (.ref o0)] [(.int (1 : Int32)), (.ref o0)])) rfl (hb hby d5_6) rfl (by decide) (cap := 1) (by decide) (by decide) (by decide) (by decide)
  obtain ⟨b51, g51⟩ : ∃ z, z = h0.size := ⟨_, rfl⟩
  rw [← g51] at A51 st51
  have ne52 : o0 ≠ b51 := Nat.ne_of_lt (Nat.lt_of_lt_of_le E_o0.lt (Nat.le_of_eq g51.symm))
  have g_b51 : n0 ≤ b51 := Nat.le_trans Z0 (Nat.le_of_eq g51.symm)
  have sz_b51 : h0.size ≤ b51 := Nat.le_trans K0.1 (Nat.le_of_eq g51.symm)
  have K53 : Keep h0 h51 [o0] := K0.ext E51
  have Z54 : n0 ≤ h51.size := Nat.le_trans Z0 E51.1
  have f55 : Exa Z h51 o0 "com/example/perigo/perigo/engine/network/Timeline" := Exa.ext E51 E_o0
  have f56 : Fld Z h51 o0 "com/example/perigo/perigo/engine/network/Timeline" "numbers" "[I" w_o0_numbers := Fld.ext E51 F_o0_numbers
  have f57 : Fld Z h51 o0 "com/example/perigo/perigo/engine/network/Timeline" "seconds" "[J" w_o0_seconds := Fld.ext E51 F_o0_seconds
  have f58 : Fld Z h51 o0 "com/example/perigo/perigo/engine/network/Timeline" "nanos" "[I" w_o0_nanos := Fld.ext E51 F_o0_nanos
  have f59 : Fld Z h51 o0 "com/example/perigo/perigo/engine/network/Timeline" "tags" "[I" w_o0_tags := Fld.ext E51 F_o0_tags
  have v60 : own_Arv Z h51 b51 .int (1 : Int32) [(.int (0 : Int32))] (.int (0 : Int32)) := ⟨_, (Arv.new A51 (by decide)).pad (pad_rep [] (.int (0 : Int32)) 1)⟩
  refine own_go st51 ?_
  obtain ⟨T61, h61, X61, e61, W61, st61⟩ := putF X51 hx hZ hown (host := "") (Or.inl (hw _ (List.mem_of_getElem? (i := 45) rfl))) Via.refl e51 f56 f55 (Or.inl (hw _ (List.mem_of_getElem? (i := 46) rfl))) (hw _ (List.mem_of_getElem? (i := 38) rfl)) (ty := (.array .int)) (by decide) rfl rfl (g := (mkF m 8 #[.val (.ref o0)] [(.ref b51), (.ref o0)])) rfl rfl (hb hby d5_8)
  have f62 : Exa Z h61 o0 "com/example/perigo/perigo/engine/network/Timeline" := f55.wr W61
  have f63 : Fld Z h61 o0 "com/example/perigo/perigo/engine/network/Timeline" "seconds" "[J" w_o0_seconds := f57.other W61 (Or.inr (slot_ne (Or.inl (hw _ (List.mem_of_getElem? (i := 49) rfl))) (Or.inl (hw _ (List.mem_of_getElem? (i := 46) rfl))) (by decide) (t := (.array .long)) (t' := (.array .int)) (by decide) (by decide)))
  have f64 : Fld Z h61 o0 "com/example/perigo/perigo/engine/network/Timeline" "nanos" "[I" w_o0_nanos := f58.other W61 (Or.inr (slot_ne (Or.inl (hw _ (List.mem_of_getElem? (i := 51) rfl))) (Or.inl (hw _ (List.mem_of_getElem? (i := 46) rfl))) (by decide) (t := (.array .int)) (t' := (.array .int)) (by decide) (by decide)))
  have f65 : Fld Z h61 o0 "com/example/perigo/perigo/engine/network/Timeline" "tags" "[I" w_o0_tags := f59.other W61 (Or.inr (slot_ne (Or.inl (hw _ (List.mem_of_getElem? (i := 53) rfl))) (Or.inl (hw _ (List.mem_of_getElem? (i := 46) rfl))) (by decide) (t := (.array .int)) (t' := (.array .int)) (by decide) (by decide)))
  have f66 : own_Arv Z h61 b51 .int (1 : Int32) [(.int (0 : Int32))] (.int (0 : Int32)) := v60.other W61 (Ne.symm ne52)
  have f67 : Fld Z h61 o0 "com/example/perigo/perigo/engine/network/Timeline" "numbers" "[I" (.ref b51) := f56.same W61
  have N68 := Fr.snoc X61 N0 g_o0
  have Z69 : n0 ≤ h61.size := Nat.le_trans Z54 (Keep.of_wr W61).1
  have K70 : Keep h0 h61 [o0] := K53.wr W61 (Or.inl (List.mem_of_getElem? (i := 0) rfl))
  refine own_go st61 ?_
  refine own_go (S' := T61.setTop (mkF m 13 #[.val (.ref o0)] [(.int (1 : Int32)), (.ref o0)])) (fun t k => ?_) ?_
  · show Steps p.tables e below (T61.setTop (mkF m 11 #[.val (.ref o0)] [])) t
    refine XS.aloadN X61.here hx rfl (hb hby d5_11) rfl rfl ?_
    show Steps p.tables e below (T61.setTop (mkF m 12 #[.val (.ref o0)] [(.ref o0)])) t
    refine XS.iconst X61.here hx rfl (hb hby d5_12) ?_
    exact k
  obtain ⟨T71, h71, k71, X71, e71, E71, A71, st71⟩ := newP X61 hx hZ (hw _ (List.mem_of_getElem? (i := 47) rfl)) e61 (g := (mkF m 13 #[.val (.ref o0)] [(.int (1 : Int32)), (.ref o0)])) rfl (hb hby d5_13) rfl (by decide) (cap := 1) (by decide) (by decide) (by decide) (by decide)
  obtain ⟨b71, g71⟩ : ∃ z, z = h61.size := ⟨_, rfl⟩
  rw [← g71] at A71 st71
  have ne72 : o0 ≠ b71 := Nat.ne_of_lt (Nat.lt_of_lt_of_le f62.lt (Nat.le_of_eq g71.symm))
  have ne73 : b51 ≠ b71 := Nat.ne_of_lt (Nat.lt_of_lt_of_le f66.lt (Nat.le_of_eq g71.symm))
  have g_b71 : n0 ≤ b71 := Nat.le_trans Z69 (Nat.le_of_eq g71.symm)
  have sz_b71 : h0.size ≤ b71 := Nat.le_trans K70.1 (Nat.le_of_eq g71.symm)
  have K74 : Keep h0 h71 [o0] := K70.ext E71
  have Z75 : n0 ≤ h71.size := Nat.le_trans Z69 E71.1
  have f76 : Exa Z h71 o0 "com/example/perigo/perigo/engine/network/Timeline" := Exa.ext E71 f62
  have f77 : Fld Z h71 o0 "com/example/perigo/perigo/engine/network/Timeline" "seconds" "[J" w_o0_seconds := Fld.ext E71 f63
  have f78 : Fld Z h71 o0 "com/example/perigo/perigo/engine/network/Timeline" "nanos" "[I" w_o0_nanos := Fld.ext E71 f64
  have f79 : Fld Z h71 o0 "com/example/perigo/perigo/engine/network/Timeline" "tags" "[I" w_o0_tags := Fld.ext E71 f65
  have f80 : own_Arv Z h71 b51 .int (1 : Int32) [(.int (0 : Int32))] (.int (0 : Int32)) := f66.ext E71
  have f81 : Fld Z h71 o0 "com/example/perigo/perigo/engine/network/Timeline" "numbers" "[I" (.ref b51) := Fld.ext E71 f67
  have v82 : own_Arv Z h71 b71 .long (1 : Int32) [(.long (0 : Int64))] (.long (0 : Int64)) := ⟨_, (Arv.new A71 (by decide)).pad (pad_rep [] (.long (0 : Int64)) 1)⟩
  refine own_go st71 ?_
  obtain ⟨T83, h83, X83, e83, W83, st83⟩ := putF X71 hx hZ hown (host := "") (Or.inl (hw _ (List.mem_of_getElem? (i := 48) rfl))) Via.refl e71 f77 f76 (Or.inl (hw _ (List.mem_of_getElem? (i := 49) rfl))) (hw _ (List.mem_of_getElem? (i := 38) rfl)) (ty := (.array .long)) (by decide) rfl rfl (g := (mkF m 15 #[.val (.ref o0)] [(.ref b71), (.ref o0)])) rfl rfl (hb hby d5_15)
  have f84 : Exa Z h83 o0 "com/example/perigo/perigo/engine/network/Timeline" := f76.wr W83
  have f85 : Fld Z h83 o0 "com/example/perigo/perigo/engine/network/Timeline" "nanos" "[I" w_o0_nanos := f78.other W83 (Or.inr (slot_ne (Or.inl (hw _ (List.mem_of_getElem? (i := 51) rfl))) (Or.inl (hw _ (List.mem_of_getElem? (i := 49) rfl))) (by decide) (t := (.array .int)) (t' := (.array .long)) (by decide) (by decide)))
  have f86 : Fld Z h83 o0 "com/example/perigo/perigo/engine/network/Timeline" "tags" "[I" w_o0_tags := f79.other W83 (Or.inr (slot_ne (Or.inl (hw _ (List.mem_of_getElem? (i := 53) rfl))) (Or.inl (hw _ (List.mem_of_getElem? (i := 49) rfl))) (by decide) (t := (.array .int)) (t' := (.array .long)) (by decide) (by decide)))
  have f87 : own_Arv Z h83 b51 .int (1 : Int32) [(.int (0 : Int32))] (.int (0 : Int32)) := f80.other W83 (Ne.symm ne52)
  have f88 : Fld Z h83 o0 "com/example/perigo/perigo/engine/network/Timeline" "numbers" "[I" (.ref b51) := f81.other W83 (Or.inr (slot_ne (Or.inl (hw _ (List.mem_of_getElem? (i := 46) rfl))) (Or.inl (hw _ (List.mem_of_getElem? (i := 49) rfl))) (by decide) (t := (.array .int)) (t' := (.array .long)) (by decide) (by decide)))
  have f89 : own_Arv Z h83 b71 .long (1 : Int32) [(.long (0 : Int64))] (.long (0 : Int64)) := v82.other W83 (Ne.symm ne72)
  have f90 : Fld Z h83 o0 "com/example/perigo/perigo/engine/network/Timeline" "seconds" "[J" (.ref b71) := f77.same W83
  have N91 := Fr.snoc X83 N68 g_o0
  have Z92 : n0 ≤ h83.size := Nat.le_trans Z75 (Keep.of_wr W83).1
  have K93 : Keep h0 h83 [o0] := K74.wr W83 (Or.inl (List.mem_of_getElem? (i := 0) rfl))
  refine own_go st83 ?_
  refine own_go (S' := T83.setTop (mkF m 20 #[.val (.ref o0)] [(.int (1 : Int32)), (.ref o0)])) (fun t k => ?_) ?_
  · show Steps p.tables e below (T83.setTop (mkF m 18 #[.val (.ref o0)] [])) t
    refine XS.aloadN X83.here hx rfl (hb hby d5_18) rfl rfl ?_
    show Steps p.tables e below (T83.setTop (mkF m 19 #[.val (.ref o0)] [(.ref o0)])) t
    refine XS.iconst X83.here hx rfl (hb hby d5_19) ?_
    exact k
  obtain ⟨T94, h94, k94, X94, e94, E94, A94, st94⟩ := newP X83 hx hZ (hw _ (List.mem_of_getElem? (i := 44) rfl)) e83 (g := (mkF m 20 #[.val (.ref o0)] [(.int (1 : Int32)), (.ref o0)])) rfl (hb hby d5_20) rfl (by decide) (cap := 1) (by decide) (by decide) (by decide) (by decide)
  obtain ⟨b94, g94⟩ : ∃ z, z = h83.size := ⟨_, rfl⟩
  rw [← g94] at A94 st94
  have ne95 : o0 ≠ b94 := Nat.ne_of_lt (Nat.lt_of_lt_of_le f84.lt (Nat.le_of_eq g94.symm))
  have ne96 : b51 ≠ b94 := Nat.ne_of_lt (Nat.lt_of_lt_of_le f87.lt (Nat.le_of_eq g94.symm))
  have ne97 : b71 ≠ b94 := Nat.ne_of_lt (Nat.lt_of_lt_of_le f89.lt (Nat.le_of_eq g94.symm))
  have g_b94 : n0 ≤ b94 := Nat.le_trans Z92 (Nat.le_of_eq g94.symm)
  have sz_b94 : h0.size ≤ b94 := Nat.le_trans K93.1 (Nat.le_of_eq g94.symm)
  have K98 : Keep h0 h94 [o0] := K93.ext E94
  have Z99 : n0 ≤ h94.size := Nat.le_trans Z92 E94.1
  have f100 : Exa Z h94 o0 "com/example/perigo/perigo/engine/network/Timeline" := Exa.ext E94 f84
  have f101 : Fld Z h94 o0 "com/example/perigo/perigo/engine/network/Timeline" "nanos" "[I" w_o0_nanos := Fld.ext E94 f85
  have f102 : Fld Z h94 o0 "com/example/perigo/perigo/engine/network/Timeline" "tags" "[I" w_o0_tags := Fld.ext E94 f86
  have f103 : own_Arv Z h94 b51 .int (1 : Int32) [(.int (0 : Int32))] (.int (0 : Int32)) := f87.ext E94
  have f104 : Fld Z h94 o0 "com/example/perigo/perigo/engine/network/Timeline" "numbers" "[I" (.ref b51) := Fld.ext E94 f88
  have f105 : own_Arv Z h94 b71 .long (1 : Int32) [(.long (0 : Int64))] (.long (0 : Int64)) := f89.ext E94
  have f106 : Fld Z h94 o0 "com/example/perigo/perigo/engine/network/Timeline" "seconds" "[J" (.ref b71) := Fld.ext E94 f90
  have v107 : own_Arv Z h94 b94 .int (1 : Int32) [(.int (0 : Int32))] (.int (0 : Int32)) := ⟨_, (Arv.new A94 (by decide)).pad (pad_rep [] (.int (0 : Int32)) 1)⟩
  refine own_go st94 ?_
  obtain ⟨T108, h108, X108, e108, W108, st108⟩ := putF X94 hx hZ hown (host := "") (Or.inl (hw _ (List.mem_of_getElem? (i := 50) rfl))) Via.refl e94 f101 f100 (Or.inl (hw _ (List.mem_of_getElem? (i := 51) rfl))) (hw _ (List.mem_of_getElem? (i := 38) rfl)) (ty := (.array .int)) (by decide) rfl rfl (g := (mkF m 22 #[.val (.ref o0)] [(.ref b94), (.ref o0)])) rfl rfl (hb hby d5_22)
  have f109 : Exa Z h108 o0 "com/example/perigo/perigo/engine/network/Timeline" := f100.wr W108
  have f110 : Fld Z h108 o0 "com/example/perigo/perigo/engine/network/Timeline" "tags" "[I" w_o0_tags := f102.other W108 (Or.inr (slot_ne (Or.inl (hw _ (List.mem_of_getElem? (i := 53) rfl))) (Or.inl (hw _ (List.mem_of_getElem? (i := 51) rfl))) (by decide) (t := (.array .int)) (t' := (.array .int)) (by decide) (by decide)))
  have f111 : own_Arv Z h108 b51 .int (1 : Int32) [(.int (0 : Int32))] (.int (0 : Int32)) := f103.other W108 (Ne.symm ne52)
  have f112 : Fld Z h108 o0 "com/example/perigo/perigo/engine/network/Timeline" "numbers" "[I" (.ref b51) := f104.other W108 (Or.inr (slot_ne (Or.inl (hw _ (List.mem_of_getElem? (i := 46) rfl))) (Or.inl (hw _ (List.mem_of_getElem? (i := 51) rfl))) (by decide) (t := (.array .int)) (t' := (.array .int)) (by decide) (by decide)))
  have f113 : own_Arv Z h108 b71 .long (1 : Int32) [(.long (0 : Int64))] (.long (0 : Int64)) := f105.other W108 (Ne.symm ne72)
  have f114 : Fld Z h108 o0 "com/example/perigo/perigo/engine/network/Timeline" "seconds" "[J" (.ref b71) := f106.other W108 (Or.inr (slot_ne (Or.inl (hw _ (List.mem_of_getElem? (i := 49) rfl))) (Or.inl (hw _ (List.mem_of_getElem? (i := 51) rfl))) (by decide) (t := (.array .long)) (t' := (.array .int)) (by decide) (by decide)))
  have f115 : own_Arv Z h108 b94 .int (1 : Int32) [(.int (0 : Int32))] (.int (0 : Int32)) := v107.other W108 (Ne.symm ne95)
  have f116 : Fld Z h108 o0 "com/example/perigo/perigo/engine/network/Timeline" "nanos" "[I" (.ref b94) := f101.same W108
  have N117 := Fr.snoc X108 N91 g_o0
  have Z118 : n0 ≤ h108.size := Nat.le_trans Z99 (Keep.of_wr W108).1
  have K119 : Keep h0 h108 [o0] := K98.wr W108 (Or.inl (List.mem_of_getElem? (i := 0) rfl))
  refine own_go st108 ?_
  refine own_go (S' := T108.setTop (mkF m 27 #[.val (.ref o0)] [(.int (1 : Int32)), (.ref o0)])) (fun t k => ?_) ?_
  · show Steps p.tables e below (T108.setTop (mkF m 25 #[.val (.ref o0)] [])) t
    refine XS.aloadN X108.here hx rfl (hb hby d5_25) rfl rfl ?_
    show Steps p.tables e below (T108.setTop (mkF m 26 #[.val (.ref o0)] [(.ref o0)])) t
    refine XS.iconst X108.here hx rfl (hb hby d5_26) ?_
    exact k
  obtain ⟨T120, h120, k120, X120, e120, E120, A120, st120⟩ := newP X108 hx hZ (hw _ (List.mem_of_getElem? (i := 44) rfl)) e108 (g := (mkF m 27 #[.val (.ref o0)] [(.int (1 : Int32)), (.ref o0)])) rfl (hb hby d5_27) rfl (by decide) (cap := 1) (by decide) (by decide) (by decide) (by decide)
  obtain ⟨b120, g120⟩ : ∃ z, z = h108.size := ⟨_, rfl⟩
  rw [← g120] at A120 st120
  have ne121 : o0 ≠ b120 := Nat.ne_of_lt (Nat.lt_of_lt_of_le f109.lt (Nat.le_of_eq g120.symm))
  have ne122 : b51 ≠ b120 := Nat.ne_of_lt (Nat.lt_of_lt_of_le f111.lt (Nat.le_of_eq g120.symm))
  have ne123 : b71 ≠ b120 := Nat.ne_of_lt (Nat.lt_of_lt_of_le f113.lt (Nat.le_of_eq g120.symm))
  have ne124 : b94 ≠ b120 := Nat.ne_of_lt (Nat.lt_of_lt_of_le f115.lt (Nat.le_of_eq g120.symm))
  have g_b120 : n0 ≤ b120 := Nat.le_trans Z118 (Nat.le_of_eq g120.symm)
  have sz_b120 : h0.size ≤ b120 := Nat.le_trans K119.1 (Nat.le_of_eq g120.symm)
  have K125 : Keep h0 h120 [o0] := K119.ext E120
  have Z126 : n0 ≤ h120.size := Nat.le_trans Z118 E120.1
  have f127 : Exa Z h120 o0 "com/example/perigo/perigo/engine/network/Timeline" := Exa.ext E120 f109
  have f128 : Fld Z h120 o0 "com/example/perigo/perigo/engine/network/Timeline" "tags" "[I" w_o0_tags := Fld.ext E120 f110
  have f129 : own_Arv Z h120 b51 .int (1 : Int32) [(.int (0 : Int32))] (.int (0 : Int32)) := f111.ext E120
  have f130 : Fld Z h120 o0 "com/example/perigo/perigo/engine/network/Timeline" "numbers" "[I" (.ref b51) := Fld.ext E120 f112
  have f131 : own_Arv Z h120 b71 .long (1 : Int32) [(.long (0 : Int64))] (.long (0 : Int64)) := f113.ext E120
  have f132 : Fld Z h120 o0 "com/example/perigo/perigo/engine/network/Timeline" "seconds" "[J" (.ref b71) := Fld.ext E120 f114
  have f133 : own_Arv Z h120 b94 .int (1 : Int32) [(.int (0 : Int32))] (.int (0 : Int32)) := f115.ext E120
  have f134 : Fld Z h120 o0 "com/example/perigo/perigo/engine/network/Timeline" "nanos" "[I" (.ref b94) := Fld.ext E120 f116
  have v135 : own_Arv Z h120 b120 .int (1 : Int32) [(.int (0 : Int32))] (.int (0 : Int32)) := ⟨_, (Arv.new A120 (by decide)).pad (pad_rep [] (.int (0 : Int32)) 1)⟩
  refine own_go st120 ?_
  obtain ⟨T136, h136, X136, e136, W136, st136⟩ := putF X120 hx hZ hown (host := "") (Or.inl (hw _ (List.mem_of_getElem? (i := 52) rfl))) Via.refl e120 f128 f127 (Or.inl (hw _ (List.mem_of_getElem? (i := 53) rfl))) (hw _ (List.mem_of_getElem? (i := 38) rfl)) (ty := (.array .int)) (by decide) rfl rfl (g := (mkF m 29 #[.val (.ref o0)] [(.ref b120), (.ref o0)])) rfl rfl (hb hby d5_29)
  have f137 : Exa Z h136 o0 "com/example/perigo/perigo/engine/network/Timeline" := f127.wr W136
  have f138 : own_Arv Z h136 b51 .int (1 : Int32) [(.int (0 : Int32))] (.int (0 : Int32)) := f129.other W136 (Ne.symm ne52)
  have f139 : Fld Z h136 o0 "com/example/perigo/perigo/engine/network/Timeline" "numbers" "[I" (.ref b51) := f130.other W136 (Or.inr (slot_ne (Or.inl (hw _ (List.mem_of_getElem? (i := 46) rfl))) (Or.inl (hw _ (List.mem_of_getElem? (i := 53) rfl))) (by decide) (t := (.array .int)) (t' := (.array .int)) (by decide) (by decide)))
  have f140 : own_Arv Z h136 b71 .long (1 : Int32) [(.long (0 : Int64))] (.long (0 : Int64)) := f131.other W136 (Ne.symm ne72)
  have f141 : Fld Z h136 o0 "com/example/perigo/perigo/engine/network/Timeline" "seconds" "[J" (.ref b71) := f132.other W136 (Or.inr (slot_ne (Or.inl (hw _ (List.mem_of_getElem? (i := 49) rfl))) (Or.inl (hw _ (List.mem_of_getElem? (i := 53) rfl))) (by decide) (t := (.array .long)) (t' := (.array .int)) (by decide) (by decide)))
  have f142 : own_Arv Z h136 b94 .int (1 : Int32) [(.int (0 : Int32))] (.int (0 : Int32)) := f133.other W136 (Ne.symm ne95)
  have f143 : Fld Z h136 o0 "com/example/perigo/perigo/engine/network/Timeline" "nanos" "[I" (.ref b94) := f134.other W136 (Or.inr (slot_ne (Or.inl (hw _ (List.mem_of_getElem? (i := 51) rfl))) (Or.inl (hw _ (List.mem_of_getElem? (i := 53) rfl))) (by decide) (t := (.array .int)) (t' := (.array .int)) (by decide) (by decide)))
  have f144 : own_Arv Z h136 b120 .int (1 : Int32) [(.int (0 : Int32))] (.int (0 : Int32)) := v135.other W136 (Ne.symm ne121)
  have f145 : Fld Z h136 o0 "com/example/perigo/perigo/engine/network/Timeline" "tags" "[I" (.ref b120) := f128.same W136
  have N146 := Fr.snoc X136 N117 g_o0
  have Z147 : n0 ≤ h136.size := Nat.le_trans Z126 (Keep.of_wr W136).1
  have K148 : Keep h0 h136 [o0] := K125.wr W136 (Or.inl (List.mem_of_getElem? (i := 0) rfl))
  refine own_go st136 ?_
  obtain ⟨fs, hr, hrun, hended, hW, hsame⟩ := X136.leave (v := none) (fun _ => rfl)
  refine own_end (v := none) ?_ hrun hended ?_ hW (hsame.mono (by decide) (by decide))
  · show Steps p.tables e below (T136.setTop (mkF m 32 #[.val (.ref o0)] [])) _
    exact X136.returnOut hx Bd.returns (hb hby d5_32) hr
  · show QtlInit Z o0 w_o0_numbers w_o0_seconds w_o0_nanos w_o0_tags h0 n0 _ T136.heap _
    rw [e136]
    exact ⟨rfl, N146, K148, f137⟩
theorem d7_0 : decode jdk_71_method_1_code 0 = .ok (.aload_n 0, 1) := by decide +kernel
theorem d7_1 : decode jdk_71_method_1_code 1 = .ok (.invokespecial 1, 3) := by decide +kernel
theorem d7_4 : decode jdk_71_method_1_code 4 = .ok (.return_, 1) := by decide +kernel
theorem pn_45 : plainName "java/util/AbstractMap" = true := by first | (simp [plainName, overriddenIn]; done) | decide +kernel
theorem ef_amInit (m : MethodId) (x0 : Addr) : entryFrame m #[(.ref x0)] 1 = mkF m 0 #[.val (.ref x0)] [] := by first | (simp [entryFrame, mkF, argsToLocals, Value.category]; done) | rfl
def QamInit (Z : State) (o0 : Addr) (h0 : Heap) (n0 : Nat) (v : Option Value) (h : Heap) (L : List Loc) : Prop := v = none ∧ Fr n0 L ∧ h = h0
set_option maxRecDepth 65536 in
set_option maxHeartbeats 40000000 in
theorem amInit (l : Launch) (Z : State) (a0 : Array Value) (hw : ∀ d ∈ tables_1, d.before a0 Z = true) (ws : List Jvm.Cond) (o0 : Addr) (h0 : Heap) (n0 : Nat) (Z0 : n0 ≤ h0.size) :
    MetFree l (⟨"java/util/AbstractMap", "<init>", "()V"⟩ : MethodName) (head1 (Jvm.Cond.code (⟨"java/util/AbstractMap", "<init>", "()V"⟩ : MethodName) jdk_71_method_1_code 1 none :: ws) ({ frames := 1, cells := 0, slots := 0, locals := 12 } : Room)) (fun a U => a = #[(.ref o0)] ∧ Z.Warmed39 U.vm ∧ U.heap = h0) (fun _ _ _ _ _ => True) (fun _ U o U' => ∃ v L, o = .returned v ∧ QamInit Z o0 h0 n0 v U'.heap L ∧ FrameEnd U o U' L ({ frames := 1, cells := 0, slots := 0, locals := 12 } : Room).cells ({ frames := 1, cells := 0, slots := 0, locals := 12 } : Room).slots) := by
  refine MetFree.of_bodySF (plainFor_of_name pn_45) hisR ?_
  intro p e s m args below meth c s₁ Bd hml0 hP hK
  obtain ⟨rfl, hZ, hh⟩ := hP
  have hx := Bd.exec
  have hby := Bd.bytes
  have hml : c.maxLocals = 1 := hml0
  have hown : s.vm.findClass "java/util/AbstractMap" = some m.cls := findClass_of_methodNamed Bd.named
  have hnm := (name_of_methodNamed Bd.named Bd.method).1
  have X0 : Stand p l e ({ frames := 1, cells := 0, slots := 0, locals := 12 } : Room) s m #[(.ref o0)] below meth c s₁ [] 0 0 := Stand.of_body Bd
  have e0 : s₁.heap = h0 := by rw [← hh, Bd.state]; rfl
  have N0 := Fr.nil n0
  show own_Go p e below s (QamInit Z o0 h0 n0) ({ frames := 1, cells := 0, slots := 0, locals := 12 } : Room).cells ({ frames := 1, cells := 0, slots := 0, locals := 12 } : Room).slots (s₁.setTop (entryFrame m #[(.ref o0)] 1))
  rw [ef_amInit m o0]
  have K0 : Keep h0 h0 [] := Keep.refl h0 []
  refine own_go (S' := s₁.setTop (mkF m 1 #[.val (.ref o0)] [(.ref o0)])) (fun t k => ?_) ?_
  · show Steps p.tables e below (s₁.setTop (mkF m 0 #[.val (.ref o0)] [])) t
    refine XS.aloadN X0.here hx rfl (hb hby d7_0) rfl rfl ?_
    exact k
  obtain ⟨T149, X149, e149, st149⟩ := initO X0 hx hZ hown (hw _ (List.mem_of_getElem? (i := 68) rfl)) (hw _ (List.mem_of_getElem? (i := 19) rfl)) (hw _ (List.mem_of_getElem? (i := 20) rfl)) e0 (g := (mkF m 1 #[.val (.ref o0)] [(.ref o0)])) rfl (by rw [hml]; rfl) rfl (hb hby d7_1) (by decide) (W := 0) (by show 2 * 0 + _ ≤ _; exact Nat.le_of_eq rfl) (by decide)
  refine own_go st149 ?_
  obtain ⟨fs, hr, hrun, hended, hW, hsame⟩ := X149.leave (v := none) (fun _ => rfl)
  refine own_end (v := none) ?_ hrun hended ?_ hW (hsame.mono (by decide) (by decide))
  · show Steps p.tables e below (T149.setTop (mkF m 4 #[.val (.ref o0)] [])) _
    exact X149.returnOut hx Bd.returns (hb hby d7_4) hr
  · show QamInit Z o0 h0 n0 _ T149.heap _
    rw [e149]
    exact ⟨rfl, N0, rfl⟩
theorem d6_0 : decode jdk_69_method_7_code 0 = .ok (.aload_n 0, 1) := by decide +kernel
theorem d6_1 : decode jdk_69_method_7_code 1 = .ok (.invokespecial 43, 3) := by decide +kernel
theorem pd_48 : parseMethodDescriptor "()V" = some ⟨[], none⟩ := by decide +kernel
theorem d6_4 : decode jdk_69_method_7_code 4 = .ok (.aload_n 0, 1) := by decide +kernel
theorem d6_5 : decode jdk_69_method_7_code 5 = .ok (.ldc 92, 2) := by decide +kernel
theorem d6_7 : decode jdk_69_method_7_code 7 = .ok (.putfield 81, 3) := by decide +kernel
theorem d6_10 : decode jdk_69_method_7_code 10 = .ok (.return_, 1) := by decide +kernel
theorem pn_53 : plainName "java/util/HashMap" = true := by first | (simp [plainName, overriddenIn]; done) | decide +kernel
theorem ef_hmInit (m : MethodId) (x0 : Addr) : entryFrame m #[(.ref x0)] 1 = mkF m 0 #[.val (.ref x0)] [] := by first | (simp [entryFrame, mkF, argsToLocals, Value.category]; done) | rfl
def QhmInit (Z : State) (o0 : Addr) (w_o0_loadFactor : UInt32) (h0 : Heap) (n0 : Nat) (v : Option Value) (h : Heap) (L : List Loc) : Prop := v = none ∧ Fr n0 L ∧ Keep h0 h [o0] ∧ Exa Z h o0 "java/util/HashMap"
set_option maxRecDepth 65536 in
set_option maxHeartbeats 40000000 in
theorem hmInit (l : Launch) (Z : State) (a0 : Array Value) (hw : ∀ d ∈ tables_1, d.before a0 Z = true) (ws : List Jvm.Cond) (o0 : Addr) (w_o0_loadFactor : UInt32) (h0 : Heap) (n0 : Nat) (Z0 : n0 ≤ h0.size) (E_o0 : Exa Z h0 o0 "java/util/HashMap") (F_o0_loadFactor : Fld Z h0 o0 "java/util/HashMap" "loadFactor" "F" (.float w_o0_loadFactor)) (g_o0 : n0 ≤ o0) :
    MetFree l (⟨"java/util/HashMap", "<init>", "()V"⟩ : MethodName) (head1 (Jvm.Cond.code (⟨"java/util/HashMap", "<init>", "()V"⟩ : MethodName) jdk_69_method_7_code 1 none :: ws) ({ frames := 2, cells := 0, slots := 0, locals := 24 } : Room)) (fun a U => a = #[(.ref o0)] ∧ Z.Warmed39 U.vm ∧ U.heap = h0) (fun _ _ _ _ _ => True) (fun _ U o U' => ∃ v L, o = .returned v ∧ QhmInit Z o0 w_o0_loadFactor h0 n0 v U'.heap L ∧ FrameEnd U o U' L ({ frames := 2, cells := 0, slots := 0, locals := 24 } : Room).cells ({ frames := 2, cells := 0, slots := 0, locals := 24 } : Room).slots) := by
  refine MetFree.of_bodySF (plainFor_of_name pn_53) hisR ?_
  intro p e s m args below meth c s₁ Bd hml0 hP hK
  obtain ⟨rfl, hZ, hh⟩ := hP
  have hx := Bd.exec
  have hby := Bd.bytes
  have hml : c.maxLocals = 1 := hml0
  have hown : s.vm.findClass "java/util/HashMap" = some m.cls := findClass_of_methodNamed Bd.named
  have hnm := (name_of_methodNamed Bd.named Bd.method).1
  have X0 : Stand p l e ({ frames := 2, cells := 0, slots := 0, locals := 24 } : Room) s m #[(.ref o0)] below meth c s₁ [] 0 0 := Stand.of_body Bd
  have e0 : s₁.heap = h0 := by rw [← hh, Bd.state]; rfl
  have N0 := Fr.nil n0
  show own_Go p e below s (QhmInit Z o0 w_o0_loadFactor h0 n0) ({ frames := 2, cells := 0, slots := 0, locals := 24 } : Room).cells ({ frames := 2, cells := 0, slots := 0, locals := 24 } : Room).slots (s₁.setTop (entryFrame m #[(.ref o0)] 1))
  rw [ef_hmInit m o0]
  have K0 : Keep h0 h0 [o0] := Keep.refl h0 [o0]
  refine own_go (S' := s₁.setTop (mkF m 1 #[.val (.ref o0)] [(.ref o0)])) (fun t k => ?_) ?_
  · show Steps p.tables e below (s₁.setTop (mkF m 0 #[.val (.ref o0)] [])) t
    refine XS.aloadN X0.here hx rfl (hb hby d6_0) rfl rfl ?_
    exact k
  obtain ⟨_, _, ⟨T150, L150, kk150, nn150⟩, -, X150, ⟨Lc150, hQ150, l150, y150, z150⟩, st150⟩ := X0.specialBack hx (y := (⟨"java/util/AbstractMap", "<init>", "()V"⟩ : MethodName)) rfl hown (mvT hZ (hw _ (List.mem_of_getElem? (i := 62) rfl))) (mvT hZ (hw _ (List.mem_of_getElem? (i := 63) rfl))) (mvT hZ (hw _ (List.mem_of_getElem? (i := 67) rfl))) (by decide) (backOf (W := 0) (amInit l Z a0 hw [] o0 h0 n0 Z0 ) hZ (hw _ (List.mem_of_getElem? (i := 67) rfl)) (hw _ (List.mem_of_getElem? (i := 66) rfl)) (by decide) (by decide)) (g := (mkF m 1 #[.val (.ref o0)] [(.ref o0)])) rfl (by rw [hml]; rfl) (Steps.refl _) (a := o0) (argsL := []) (rest := []) (lenOf pd_48 rfl) rfl (by show 2 * 0 + _ ≤ _; exact Nat.le_of_eq rfl) (hb hby d6_1) (fun _ _ => ⟨rfl, e0, (by decide : 0 + 0 ≤ _), (by decide : 0 + 0 ≤ _)⟩)
  dsimp only [Pt.U, Pt.locs, Pt.cells, Pt.slots] at X150 l150 y150 z150 st150 hQ150
  subst l150 y150 z150
  obtain ⟨rfl, N151, e150⟩ := hQ150
  have N153 := Fr.app N0 N151
  refine own_goT st150 ?_
  refine own_go (S' := T150.setTop (mkF m 5 #[.val (.ref o0)] [(.ref o0)])) (fun t k => ?_) ?_
  · show Steps p.tables e below (T150.setTop (mkF m 4 #[.val (.ref o0)] [])) t
    refine XS.aloadN X150.here hx rfl (hb hby d6_4) rfl rfl ?_
    exact k
  refine own_go (S' := T150.setTop (mkF m 7 #[.val (.ref o0)] [(.float (1061158912 : UInt32)), (.ref o0)])) (fun t k => ?_) ?_
  · show Steps p.tables e below (T150.setTop (mkF m 5 #[.val (.ref o0)] [(.ref o0)])) t
    exact X150.ldcFloatC hx hown (mvT hZ (hw _ (List.mem_of_getElem? (i := 69) rfl))) (g := (mkF m 5 #[.val (.ref o0)] [(.ref o0)])) rfl (hb hby d6_5) _ k
  obtain ⟨T154, h154, X154, e154, W154, st154⟩ := putF X150 hx hZ hown (host := "") (Or.inl (hw _ (List.mem_of_getElem? (i := 70) rfl))) Via.refl e150 F_o0_loadFactor E_o0 (Or.inr ⟨(hw _ (List.mem_of_getElem? (i := 71) rfl)), rfl, hnm⟩) (hw _ (List.mem_of_getElem? (i := 57) rfl)) (ty := .float) (by decide) rfl rfl (g := (mkF m 7 #[.val (.ref o0)] [(.float (1061158912 : UInt32)), (.ref o0)])) rfl rfl (hb hby d6_7)
  have f155 : Exa Z h154 o0 "java/util/HashMap" := E_o0.wr W154
  have f156 : Fld Z h154 o0 "java/util/HashMap" "loadFactor" "F" (.float (1061158912 : UInt32)) := F_o0_loadFactor.same W154
  have N157 := Fr.snoc X154 N153 g_o0
  have Z158 : n0 ≤ h154.size := Nat.le_trans Z0 (Keep.of_wr W154).1
  have K159 : Keep h0 h154 [o0] := K0.wr W154 (Or.inl (List.mem_of_getElem? (i := 0) rfl))
  refine own_go st154 ?_
  obtain ⟨fs, hr, hrun, hended, hW, hsame⟩ := X154.leave (v := none) (fun _ => rfl)
  refine own_end (v := none) ?_ hrun hended ?_ hW (hsame.mono (by decide) (by decide))
  · show Steps p.tables e below (T154.setTop (mkF m 10 #[.val (.ref o0)] [])) _
    exact X154.returnOut hx Bd.returns (hb hby d6_10) hr
  · show QhmInit Z o0 w_o0_loadFactor h0 n0 _ T154.heap _
    rw [e154]
    exact ⟨rfl, N157, K159, f155⟩
theorem d8_0 : decode prog_24_method_3_code 0 = .ok (.aload_n 0, 1) := by decide +kernel
theorem d8_1 : decode prog_24_method_3_code 1 = .ok (.getfield 24, 3) := by decide +kernel
theorem d8_4 : decode prog_24_method_3_code 4 = .ok (.areturn, 1) := by decide +kernel
theorem ef_meVal (m : MethodId) (x0 : Addr) : entryFrame m #[(.ref x0)] 1 = mkF m 0 #[.val (.ref x0)] [] := by first | (simp [entryFrame, mkF, argsToLocals, Value.category]; done) | rfl
def QmeVal (Z : State) (o0 : Addr) (w_o0_value : Addr) (h0 : Heap) (n0 : Nat) (v : Option Value) (h : Heap) (L : List Loc) : Prop := v = some (.ref w_o0_value) ∧ Fr n0 L ∧ h = h0
set_option maxRecDepth 65536 in
set_option maxHeartbeats 40000000 in
theorem meVal (l : Launch) (Z : State) (a0 : Array Value) (hw : ∀ d ∈ tables_1, d.before a0 Z = true) (ws : List Jvm.Cond) (o0 : Addr) (w_o0_value : Addr) (h0 : Heap) (n0 : Nat) (Z0 : n0 ≤ h0.size) (F_o0_value : Fld Z h0 o0 "com/example/perigo/perigo/engine/event/Medium" "value" "Ljava/lang/String;" (.ref w_o0_value)) :
    MetFree l (⟨"com/example/perigo/perigo/engine/event/Medium", "value", "()Ljava/lang/String;"⟩ : MethodName) (head1 (Jvm.Cond.code (⟨"com/example/perigo/perigo/engine/event/Medium", "value", "()Ljava/lang/String;"⟩ : MethodName) prog_24_method_3_code 1 (some (.object "java/lang/String")) :: ws) ({ frames := 0, cells := 0, slots := 0, locals := 0 } : Room)) (fun a U => a = #[(.ref o0)] ∧ Z.Warmed39 U.vm ∧ U.heap = h0) (fun _ _ _ _ _ => True) (fun _ U o U' => ∃ v L, o = .returned v ∧ QmeVal Z o0 w_o0_value h0 n0 v U'.heap L ∧ FrameEnd U o U' L ({ frames := 0, cells := 0, slots := 0, locals := 0 } : Room).cells ({ frames := 0, cells := 0, slots := 0, locals := 0 } : Room).slots) := by
  refine MetFree.of_bodySF (plainFor_of_name pn_21) hisR ?_
  intro p e s m args below meth c s₁ Bd hml0 hP hK
  obtain ⟨rfl, hZ, hh⟩ := hP
  have hx := Bd.exec
  have hby := Bd.bytes
  have hml : c.maxLocals = 1 := hml0
  have hown : s.vm.findClass "com/example/perigo/perigo/engine/event/Medium" = some m.cls := findClass_of_methodNamed Bd.named
  have hnm := (name_of_methodNamed Bd.named Bd.method).1
  have X0 : Stand p l e ({ frames := 0, cells := 0, slots := 0, locals := 0 } : Room) s m #[(.ref o0)] below meth c s₁ [] 0 0 := Stand.of_body Bd
  have e0 : s₁.heap = h0 := by rw [← hh, Bd.state]; rfl
  have N0 := Fr.nil n0
  show own_Go p e below s (QmeVal Z o0 w_o0_value h0 n0) ({ frames := 0, cells := 0, slots := 0, locals := 0 } : Room).cells ({ frames := 0, cells := 0, slots := 0, locals := 0 } : Room).slots (s₁.setTop (entryFrame m #[(.ref o0)] 1))
  rw [ef_meVal m o0]
  have K0 : Keep h0 h0 [] := Keep.refl h0 []
  refine own_go (S' := s₁.setTop (mkF m 1 #[.val (.ref o0)] [(.ref o0)])) (fun t k => ?_) ?_
  · show Steps p.tables e below (s₁.setTop (mkF m 0 #[.val (.ref o0)] [])) t
    refine XS.aloadN X0.here hx rfl (hb hby d8_0) rfl rfl ?_
    exact k
  obtain ⟨T160, X160, e160, st160⟩ := getF X0 hx hZ hown (host := "") (Or.inl (hw _ (List.mem_of_getElem? (i := 31) rfl))) Via.refl e0 F_o0_value (g := (mkF m 1 #[.val (.ref o0)] [(.ref o0)])) rfl rfl (hb hby d8_1)
  refine own_go st160 ?_
  obtain ⟨fs, hr, hrun, hended, hW, hsame⟩ := X160.leave (v := some (.ref w_o0_value)) (fun h => by rw [Bd.returns] at h; cases h)
  refine own_end (v := some (.ref w_o0_value)) ?_ hrun hended ?_ hW (hsame.mono (by decide) (by decide))
  · show Steps p.tables e below (T160.setTop (mkF m 4 #[.val (.ref o0)] [(.ref w_o0_value)])) _
    jvm_step X160.here [X160.here.top, hx, (hb hby d8_4), X160.method', Bd.returns, Value.isRef, FieldType.isReference]
    first | (intro acts; rw [hr _ acts rfl rfl rfl]) | rw [hr _ _ rfl rfl rfl]
    exact Steps.refl _
  · show QmeVal Z o0 w_o0_value h0 n0 _ T160.heap _
    rw [e160]
    exact ⟨rfl, N0, rfl⟩
theorem d10_0 : decode jdk_42_method_152_code 0 = .ok (.getstatic 38, 3) := by decide +kernel
theorem d10_3 : decode jdk_42_method_152_code 3 = .ok (.ifCond .eq 10, 3) := by decide +kernel
theorem d10_6 : decode jdk_42_method_152_code 6 = .ok (.aload_n 0, 1) := by decide +kernel
theorem d10_7 : decode jdk_42_method_152_code 7 = .ok (.getfield 15, 3) := by decide +kernel
theorem d10_10 : decode jdk_42_method_152_code 10 = .ok (.goto 4, 3) := by decide +kernel
theorem d10_14 : decode jdk_42_method_152_code 14 = .ok (.ireturn, 1) := by decide +kernel
theorem pn_63 : plainName "java/lang/String" = true := by first | (simp [plainName, overriddenIn]; done) | decide +kernel
theorem ef_coder (m : MethodId) (x0 : Addr) : entryFrame m #[(.ref x0)] 1 = mkF m 0 #[.val (.ref x0)] [] := by first | (simp [entryFrame, mkF, argsToLocals, Value.category]; done) | rfl
def Qcoder (Z : State) (o0 : Addr) (w_s_COMPACT_STRINGS : Int32) (h0 : Heap) (n0 : Nat) (v : Option Value) (h : Heap) (L : List Loc) : Prop := v = some (.int (0 : Int32)) ∧ Fr n0 L ∧ h = h0
set_option maxRecDepth 65536 in
set_option maxHeartbeats 40000000 in
theorem coder (l : Launch) (Z : State) (a0 : Array Value) (hw : ∀ d ∈ tables_1, d.before a0 Z = true) (ws : List Jvm.Cond) (o0 : Addr) (w_s_COMPACT_STRINGS : Int32) (h0 : Heap) (n0 : Nat) (Z0 : n0 ≤ h0.size) (hcs : ¬ (w_s_COMPACT_STRINGS = (0 : Int32))) (S_COMPACT_STRINGS : Sta Z h0 "java/lang/String" "COMPACT_STRINGS" "Z" (.int w_s_COMPACT_STRINGS)) (F_o0_coder : Fld Z h0 o0 "java/lang/String" "coder" "B" (.int (0 : Int32))) :
    MetFree l (⟨"java/lang/String", "coder", "()B"⟩ : MethodName) (head1 (Jvm.Cond.code (⟨"java/lang/String", "coder", "()B"⟩ : MethodName) jdk_42_method_152_code 1 (some .byte) :: ws) ({ frames := 0, cells := 0, slots := 0, locals := 0 } : Room)) (fun a U => a = #[(.ref o0)] ∧ Z.Warmed39 U.vm ∧ U.heap = h0) (fun _ _ _ _ _ => True) (fun _ U o U' => ∃ v L, o = .returned v ∧ Qcoder Z o0 w_s_COMPACT_STRINGS h0 n0 v U'.heap L ∧ FrameEnd U o U' L ({ frames := 0, cells := 0, slots := 0, locals := 0 } : Room).cells ({ frames := 0, cells := 0, slots := 0, locals := 0 } : Room).slots) := by
  refine MetFree.of_bodySF (plainFor_of_name pn_63) hisR ?_
  intro p e s m args below meth c s₁ Bd hml0 hP hK
  obtain ⟨rfl, hZ, hh⟩ := hP
  have hx := Bd.exec
  have hby := Bd.bytes
  have hml : c.maxLocals = 1 := hml0
  have hown : s.vm.findClass "java/lang/String" = some m.cls := findClass_of_methodNamed Bd.named
  have hnm := (name_of_methodNamed Bd.named Bd.method).1
  have X0 : Stand p l e ({ frames := 0, cells := 0, slots := 0, locals := 0 } : Room) s m #[(.ref o0)] below meth c s₁ [] 0 0 := Stand.of_body Bd
  have e0 : s₁.heap = h0 := by rw [← hh, Bd.state]; rfl
  have N0 := Fr.nil n0
  show own_Go p e below s (Qcoder Z o0 w_s_COMPACT_STRINGS h0 n0) ({ frames := 0, cells := 0, slots := 0, locals := 0 } : Room).cells ({ frames := 0, cells := 0, slots := 0, locals := 0 } : Room).slots (s₁.setTop (entryFrame m #[(.ref o0)] 1))
  rw [ef_coder m o0]
  have K0 : Keep h0 h0 [] := Keep.refl h0 []
  obtain ⟨T161, X161, e161, st161⟩ := getS2 X0 hx hZ hown (host := "") (Or.inl (hw _ (List.mem_of_getElem? (i := 106) rfl))) Via.refl e0 S_COMPACT_STRINGS (g := (mkF m 0 #[.val (.ref o0)] [])) rfl (hb hby d10_0)
  refine own_go st161 ?_
  refine own_go (S' := T161.setTop (mkF m 7 #[.val (.ref o0)] [(.ref o0)])) (fun t k => ?_) ?_
  · show Steps p.tables e below (T161.setTop (mkF m 3 #[.val (.ref o0)] [(.int w_s_COMPACT_STRINGS)])) t
    refine XS.ifNo X161.here hx rfl (hb hby d10_3) rfl ((if0 _ _).trans (feq (hcs : ¬ (w_s_COMPACT_STRINGS = (0 : Int32)))).1) ?_
    show Steps p.tables e below (T161.setTop (mkF m 6 #[.val (.ref o0)] [])) t
    refine XS.aloadN X161.here hx rfl (hb hby d10_6) rfl rfl ?_
    exact k
  obtain ⟨T162, X162, e162, st162⟩ := getF X161 hx hZ hown (host := "") (Or.inl (hw _ (List.mem_of_getElem? (i := 107) rfl))) Via.refl e161 F_o0_coder (g := (mkF m 7 #[.val (.ref o0)] [(.ref o0)])) rfl rfl (hb hby d10_7)
  refine own_go st162 ?_
  refine own_go (S' := T162.setTop (mkF m 14 #[.val (.ref o0)] [(.int (0 : Int32))])) (fun t k => ?_) ?_
  · show Steps p.tables e below (T162.setTop (mkF m 10 #[.val (.ref o0)] [(.int (0 : Int32))])) t
    refine XS.goto X162.here hx rfl (pc0 := 10) (pc' := 14) rfl (hb hby d10_10) (by decide) (by decide) ?_
    exact k
  obtain ⟨fs, hr, hrun, hended, hW, hsame⟩ := X162.leave (v := some (.int (0 : Int32))) (fun h => by rw [Bd.returns] at h; cases h)
  refine own_end (v := some (.int (0 : Int32))) ?_ hrun hended ?_ hW (hsame.mono (by decide) (by decide))
  · show Steps p.tables e below (T162.setTop (mkF m 14 #[.val (.ref o0)] [(.int (0 : Int32))])) _
    exact retN X162 hx (t := .byte) Bd.returns (by simp) (hb hby d10_14) hr
  · show Qcoder Z o0 w_s_COMPACT_STRINGS h0 n0 _ T162.heap _
    rw [e162]
    exact ⟨rfl, N0, rfl⟩
theorem d9_0 : decode jdk_42_method_54_code 0 = .ok (.aload_n 0, 1) := by decide +kernel
theorem d9_1 : decode jdk_42_method_54_code 1 = .ok (.getfield 9, 3) := by decide +kernel
theorem d9_4 : decode jdk_42_method_54_code 4 = .ok (.arraylength, 1) := by decide +kernel
theorem d9_5 : decode jdk_42_method_54_code 5 = .ok (.aload_n 0, 1) := by decide +kernel
theorem d9_6 : decode jdk_42_method_54_code 6 = .ok (.invokevirtual 335, 3) := by decide +kernel
theorem pd_69 : parseMethodDescriptor "()B" = some ⟨[], some .byte⟩ := by decide +kernel
theorem d9_9 : decode jdk_42_method_54_code 9 = .ok (.ishr, 1) := by decide +kernel
theorem d9_10 : decode jdk_42_method_54_code 10 = .ok (.ireturn, 1) := by decide +kernel
theorem ef_len (m : MethodId) (x0 : Addr) : entryFrame m #[(.ref x0)] 1 = mkF m 0 #[.val (.ref x0)] [] := by first | (simp [entryFrame, mkF, argsToLocals, Value.category]; done) | rfl
def Qlen (Z : State) (o0 : Addr) (w_s_COMPACT_STRINGS : Int32) (w_o0_value : Addr) (h0 : Heap) (n0 : Nat) (v : Option Value) (h : Heap) (L : List Loc) : Prop := v = some (.int ((1 : Int32) >>> ((0 : Int32) &&& 31))) ∧ Fr n0 L ∧ h = h0
set_option maxRecDepth 65536 in
set_option maxHeartbeats 40000000 in
theorem len (l : Launch) (Z : State) (a0 : Array Value) (hw : ∀ d ∈ tables_1, d.before a0 Z = true) (ws : List Jvm.Cond) (o0 : Addr) (w_s_COMPACT_STRINGS : Int32) (w_o0_value : Addr) (h0 : Heap) (n0 : Nat) (Z0 : n0 ≤ h0.size) (hcs : ¬ (w_s_COMPACT_STRINGS = (0 : Int32))) (A_val : own_Arv Z h0 w_o0_value .byte (1 : Int32) [(.int (49 : Int32))] (.int (0 : Int32))) (F_o0_value : Fld Z h0 o0 "java/lang/String" "value" "[B" (.ref w_o0_value)) (S_COMPACT_STRINGS : Sta Z h0 "java/lang/String" "COMPACT_STRINGS" "Z" (.int w_s_COMPACT_STRINGS)) (F_o0_coder : Fld Z h0 o0 "java/lang/String" "coder" "B" (.int (0 : Int32))) (E_o0 : Exa Z h0 o0 "java/lang/String") :
    MetFree l (⟨"java/lang/String", "length", "()I"⟩ : MethodName) (head1 (Jvm.Cond.code (⟨"java/lang/String", "length", "()I"⟩ : MethodName) jdk_42_method_54_code 1 (some .int) :: ws) ({ frames := 1, cells := 0, slots := 0, locals := 13 } : Room)) (fun a U => a = #[(.ref o0)] ∧ Z.Warmed39 U.vm ∧ U.heap = h0) (fun _ _ _ _ _ => True) (fun _ U o U' => ∃ v L, o = .returned v ∧ Qlen Z o0 w_s_COMPACT_STRINGS w_o0_value h0 n0 v U'.heap L ∧ FrameEnd U o U' L ({ frames := 1, cells := 0, slots := 0, locals := 13 } : Room).cells ({ frames := 1, cells := 0, slots := 0, locals := 13 } : Room).slots) := by
  refine MetFree.of_bodySF (plainFor_of_name pn_63) hisR ?_
  intro p e s m args below meth c s₁ Bd hml0 hP hK
  obtain ⟨rfl, hZ, hh⟩ := hP
  have hx := Bd.exec
  have hby := Bd.bytes
  have hml : c.maxLocals = 1 := hml0
  have hown : s.vm.findClass "java/lang/String" = some m.cls := findClass_of_methodNamed Bd.named
  have hnm := (name_of_methodNamed Bd.named Bd.method).1
  have X0 : Stand p l e ({ frames := 1, cells := 0, slots := 0, locals := 13 } : Room) s m #[(.ref o0)] below meth c s₁ [] 0 0 := Stand.of_body Bd
  have e0 : s₁.heap = h0 := by rw [← hh, Bd.state]; rfl
  have N0 := Fr.nil n0
  show own_Go p e below s (Qlen Z o0 w_s_COMPACT_STRINGS w_o0_value h0 n0) ({ frames := 1, cells := 0, slots := 0, locals := 13 } : Room).cells ({ frames := 1, cells := 0, slots := 0, locals := 13 } : Room).slots (s₁.setTop (entryFrame m #[(.ref o0)] 1))
  rw [ef_len m o0]
  have K0 : Keep h0 h0 [] := Keep.refl h0 []
  refine own_go (S' := s₁.setTop (mkF m 1 #[.val (.ref o0)] [(.ref o0)])) (fun t k => ?_) ?_
  · show Steps p.tables e below (s₁.setTop (mkF m 0 #[.val (.ref o0)] [])) t
    refine XS.aloadN X0.here hx rfl (hb hby d9_0) rfl rfl ?_
    exact k
  obtain ⟨T163, X163, e163, st163⟩ := getF X0 hx hZ hown (host := "") (Or.inl (hw _ (List.mem_of_getElem? (i := 100) rfl))) Via.refl e0 F_o0_value (g := (mkF m 1 #[.val (.ref o0)] [(.ref o0)])) rfl rfl (hb hby d9_1)
  refine own_go st163 ?_
  obtain ⟨kq164, cl164, Ar164, q164, S164, Nn164, Hh164, G164⟩ := id A_val
  refine own_go (S' := T163.setTop (mkF m 6 #[.val (.ref o0)] [(.ref o0), (.int (1 : Int32))])) (fun t k => ?_) ?_
  · show Steps p.tables e below (T163.setTop (mkF m 4 #[.val (.ref o0)] [(.ref w_o0_value)])) t
    refine X163.arraylength hx (by (try rw [e163]); exact Ar164.1) (State.isArrayOf_alike hZ.alike Ar164.2.1) (g := (mkF m 4 #[.val (.ref o0)] [(.ref w_o0_value)])) rfl rfl (hb hby d9_4) _ ?_
    rw [len_of S164 Nn164]
    show Steps p.tables e below (T163.setTop (mkF m 5 #[.val (.ref o0)] [(.int (1 : Int32))])) t
    refine XS.aloadN X163.here hx rfl (hb hby d9_5) rfl rfl ?_
    exact k
  obtain ⟨cq165, kq165, qa165, qb165, qc165⟩ := isOf hZ e163 E_o0
  obtain ⟨_, _, ⟨T165, L165, kk165, nn165⟩, -, X165, ⟨Lc165, hQ165, l165, y165, z165⟩, st165⟩ := X163.virtualBack hx (y := (⟨"java/lang/String", "coder", "()B"⟩ : MethodName)) (z := (⟨"java/lang/String", "coder", "()B"⟩ : MethodName)) hown (mvT hZ (hw _ (List.mem_of_getElem? (i := 101) rfl))) (mvT hZ (hw _ (List.mem_of_getElem? (i := 102) rfl))) (notFace_of_selects (args := #[]) (mvT hZ (hw _ (List.mem_of_getElem? (i := 104) rfl)))) (mvT hZ (hw _ (List.mem_of_getElem? (i := 104) rfl))) (mvT hZ (hw _ (List.mem_of_getElem? (i := 103) rfl))) (by decide) (backOf (W := 1) (coder l Z a0 hw [] o0 w_s_COMPACT_STRINGS h0 n0 Z0 (hcs : ¬ (w_s_COMPACT_STRINGS = (0 : Int32))) S_COMPACT_STRINGS F_o0_coder) hZ (hw _ (List.mem_of_getElem? (i := 105) rfl)) (hw _ (List.mem_of_getElem? (i := 7) rfl)) (by decide) (by decide)) qa165 qc165 (g := (mkF m 6 #[.val (.ref o0)] [(.ref o0), (.int (1 : Int32))])) rfl (by rw [hml]; rfl) (Steps.refl _) (argsL := []) (rest := [(.int (1 : Int32))]) (lenOf pd_69 rfl) rfl (by show 2 * 0 + _ ≤ _; exact Nat.le_of_eq rfl) (hb hby d9_6) (fun _ _ => ⟨rfl, e163, (by decide : 0 + 0 ≤ _), (by decide : 0 + 0 ≤ _)⟩)
  dsimp only [Pt.U, Pt.locs, Pt.cells, Pt.slots] at X165 l165 y165 z165 st165 hQ165
  subst l165 y165 z165
  obtain ⟨rfl, N166, e165⟩ := hQ165
  have N168 := Fr.app N0 N166
  refine own_goT st165 ?_
  have hf169 : (0 : Int32) = (0 : Int32) := rfl
  rw [hf169]
  refine own_go (S' := T165.setTop (mkF m 10 #[.val (.ref o0)] [(.int ((1 : Int32) >>> ((0 : Int32) &&& 31)))])) (fun t k => ?_) ?_
  · show Steps p.tables e below (T165.setTop (mkF m 9 #[.val (.ref o0)] [(.int (0 : Int32)), (.int (1 : Int32))])) t
    refine XS.ishr X165.here hx rfl (hb hby d9_9) rfl ?_
    exact k
  obtain ⟨fs, hr, hrun, hended, hW, hsame⟩ := X165.leave (v := some (.int ((1 : Int32) >>> ((0 : Int32) &&& 31)))) (fun h => by rw [Bd.returns] at h; cases h)
  refine own_end (v := some (.int ((1 : Int32) >>> ((0 : Int32) &&& 31)))) ?_ hrun hended ?_ hW (hsame.mono (by decide) (by decide))
  · show Steps p.tables e below (T165.setTop (mkF m 10 #[.val (.ref o0)] [(.int ((1 : Int32) >>> ((0 : Int32) &&& 31)))])) _
    exact retI X165 hx Bd.returns (hb hby d9_10) hr
  · show Qlen Z o0 w_s_COMPACT_STRINGS w_o0_value h0 n0 _ T165.heap _
    rw [e165]
    exact ⟨rfl, N168, rfl⟩
theorem d12_0 : decode jdk_42_method_154_code 0 = .ok (.getstatic 38, 3) := by decide +kernel
theorem d12_3 : decode jdk_42_method_154_code 3 = .ok (.ifCond .eq 14, 3) := by decide +kernel
theorem d12_6 : decode jdk_42_method_154_code 6 = .ok (.aload_n 0, 1) := by decide +kernel
theorem d12_7 : decode jdk_42_method_154_code 7 = .ok (.getfield 15, 3) := by decide +kernel
theorem d12_10 : decode jdk_42_method_154_code 10 = .ok (.ifCond .ne 7, 3) := by decide +kernel
theorem d12_13 : decode jdk_42_method_154_code 13 = .ok (.iconst 1, 1) := by decide +kernel
theorem d12_14 : decode jdk_42_method_154_code 14 = .ok (.goto 4, 3) := by decide +kernel
theorem d12_18 : decode jdk_42_method_154_code 18 = .ok (.ireturn, 1) := by decide +kernel
theorem ef_isLat (m : MethodId) (x0 : Addr) : entryFrame m #[(.ref x0)] 1 = mkF m 0 #[.val (.ref x0)] [] := by first | (simp [entryFrame, mkF, argsToLocals, Value.category]; done) | rfl
def QisLat (Z : State) (o0 : Addr) (w_s_COMPACT_STRINGS : Int32) (h0 : Heap) (n0 : Nat) (v : Option Value) (h : Heap) (L : List Loc) : Prop := v = some (.int (1 : Int32)) ∧ Fr n0 L ∧ h = h0
set_option maxRecDepth 65536 in
set_option maxHeartbeats 40000000 in
theorem isLat (l : Launch) (Z : State) (a0 : Array Value) (hw : ∀ d ∈ tables_1, d.before a0 Z = true) (ws : List Jvm.Cond) (o0 : Addr) (w_s_COMPACT_STRINGS : Int32) (h0 : Heap) (n0 : Nat) (Z0 : n0 ≤ h0.size) (hcs : ¬ (w_s_COMPACT_STRINGS = (0 : Int32))) (S_COMPACT_STRINGS : Sta Z h0 "java/lang/String" "COMPACT_STRINGS" "Z" (.int w_s_COMPACT_STRINGS)) (F_o0_coder : Fld Z h0 o0 "java/lang/String" "coder" "B" (.int (0 : Int32))) :
    MetFree l (⟨"java/lang/String", "isLatin1", "()Z"⟩ : MethodName) (head1 (Jvm.Cond.code (⟨"java/lang/String", "isLatin1", "()Z"⟩ : MethodName) jdk_42_method_154_code 1 (some .boolean) :: ws) ({ frames := 0, cells := 0, slots := 0, locals := 0 } : Room)) (fun a U => a = #[(.ref o0)] ∧ Z.Warmed39 U.vm ∧ U.heap = h0) (fun _ _ _ _ _ => True) (fun _ U o U' => ∃ v L, o = .returned v ∧ QisLat Z o0 w_s_COMPACT_STRINGS h0 n0 v U'.heap L ∧ FrameEnd U o U' L ({ frames := 0, cells := 0, slots := 0, locals := 0 } : Room).cells ({ frames := 0, cells := 0, slots := 0, locals := 0 } : Room).slots) := by
  refine MetFree.of_bodySF (plainFor_of_name pn_63) hisR ?_
  intro p e s m args below meth c s₁ Bd hml0 hP hK
  obtain ⟨rfl, hZ, hh⟩ := hP
  have hx := Bd.exec
  have hby := Bd.bytes
  have hml : c.maxLocals = 1 := hml0
  have hown : s.vm.findClass "java/lang/String" = some m.cls := findClass_of_methodNamed Bd.named
  have hnm := (name_of_methodNamed Bd.named Bd.method).1
  have X0 : Stand p l e ({ frames := 0, cells := 0, slots := 0, locals := 0 } : Room) s m #[(.ref o0)] below meth c s₁ [] 0 0 := Stand.of_body Bd
  have e0 : s₁.heap = h0 := by rw [← hh, Bd.state]; rfl
  have N0 := Fr.nil n0
  show own_Go p e below s (QisLat Z o0 w_s_COMPACT_STRINGS h0 n0) ({ frames := 0, cells := 0, slots := 0, locals := 0 } : Room).cells ({ frames := 0, cells := 0, slots := 0, locals := 0 } : Room).slots (s₁.setTop (entryFrame m #[(.ref o0)] 1))
  rw [ef_isLat m o0]
  have K0 : Keep h0 h0 [] := Keep.refl h0 []
  obtain ⟨T170, X170, e170, st170⟩ := getS2 X0 hx hZ hown (host := "") (Or.inl (hw _ (List.mem_of_getElem? (i := 106) rfl))) Via.refl e0 S_COMPACT_STRINGS (g := (mkF m 0 #[.val (.ref o0)] [])) rfl (hb hby d12_0)
  refine own_go st170 ?_
  refine own_go (S' := T170.setTop (mkF m 7 #[.val (.ref o0)] [(.ref o0)])) (fun t k => ?_) ?_
  · show Steps p.tables e below (T170.setTop (mkF m 3 #[.val (.ref o0)] [(.int w_s_COMPACT_STRINGS)])) t
    refine XS.ifNo X170.here hx rfl (hb hby d12_3) rfl ((if0 _ _).trans (feq (hcs : ¬ (w_s_COMPACT_STRINGS = (0 : Int32)))).1) ?_
    show Steps p.tables e below (T170.setTop (mkF m 6 #[.val (.ref o0)] [])) t
    refine XS.aloadN X170.here hx rfl (hb hby d12_6) rfl rfl ?_
    exact k
  obtain ⟨T171, X171, e171, st171⟩ := getF X170 hx hZ hown (host := "") (Or.inl (hw _ (List.mem_of_getElem? (i := 107) rfl))) Via.refl e170 F_o0_coder (g := (mkF m 7 #[.val (.ref o0)] [(.ref o0)])) rfl rfl (hb hby d12_7)
  refine own_go st171 ?_
  refine own_go (S' := T171.setTop (mkF m 18 #[.val (.ref o0)] [(.int (1 : Int32))])) (fun t k => ?_) ?_
  · show Steps p.tables e below (T171.setTop (mkF m 10 #[.val (.ref o0)] [(.int (0 : Int32))])) t
    refine XS.ifNo X171.here hx rfl (hb hby d12_10) rfl ((if0 _ _).trans (teq (by decide)).2) ?_
    show Steps p.tables e below (T171.setTop (mkF m 13 #[.val (.ref o0)] [])) t
    refine XS.iconst X171.here hx rfl (hb hby d12_13) ?_
    show Steps p.tables e below (T171.setTop (mkF m 14 #[.val (.ref o0)] [(.int (1 : Int32))])) t
    refine XS.goto X171.here hx rfl (pc0 := 14) (pc' := 18) rfl (hb hby d12_14) (by decide) (by decide) ?_
    exact k
  obtain ⟨fs, hr, hrun, hended, hW, hsame⟩ := X171.leave (v := some (.int (1 : Int32))) (fun h => by rw [Bd.returns] at h; cases h)
  refine own_end (v := some (.int (1 : Int32))) ?_ hrun hended ?_ hW (hsame.mono (by decide) (by decide))
  · show Steps p.tables e below (T171.setTop (mkF m 18 #[.val (.ref o0)] [(.int (1 : Int32))])) _
    exact retN X171 hx (t := .boolean) Bd.returns (by simp) (hb hby d12_18) hr
  · show QisLat Z o0 w_s_COMPACT_STRINGS h0 n0 _ T171.heap _
    rw [e171]
    exact ⟨rfl, N0, rfl⟩
theorem d15_0 : decode jdk_41_method_11_code 0 = .ok (.iload_n 0, 1) := by decide +kernel
theorem d15_1 : decode jdk_41_method_11_code 1 = .ok (.ifCond .lt 8, 3) := by decide +kernel
theorem d15_4 : decode jdk_41_method_11_code 4 = .ok (.iload_n 0, 1) := by decide +kernel
theorem d15_5 : decode jdk_41_method_11_code 5 = .ok (.iload_n 1, 1) := by decide +kernel
theorem d15_6 : decode jdk_41_method_11_code 6 = .ok (.if_icmp .lt 10, 3) := by decide +kernel
theorem d15_16 : decode jdk_41_method_11_code 16 = .ok (.iload_n 0, 1) := by decide +kernel
theorem d15_17 : decode jdk_41_method_11_code 17 = .ok (.ireturn, 1) := by decide +kernel
theorem pn_87 : plainName "jdk/internal/util/Preconditions" = true := by first | (simp [plainName, overriddenIn]; done) | decide +kernel
theorem ef_pChk (m : MethodId) (x2 : Addr) : entryFrame m #[(.int (0 : Int32)), (.int (1 : Int32)), (.ref x2)] 3 = mkF m 0 #[.val (.int (0 : Int32)), .val (.int (1 : Int32)), .val (.ref x2)] [] := by first | (simp [entryFrame, mkF, argsToLocals, Value.category]; done) | rfl
def QpChk (Z : State) (o2 : Addr) (h0 : Heap) (n0 : Nat) (v : Option Value) (h : Heap) (L : List Loc) : Prop := v = some (.int (0 : Int32)) ∧ Fr n0 L ∧ h = h0
set_option maxRecDepth 65536 in
set_option maxHeartbeats 40000000 in
theorem pChk (l : Launch) (Z : State) (a0 : Array Value) (hw : ∀ d ∈ tables_1, d.before a0 Z = true) (ws : List Jvm.Cond) (o2 : Addr) (h0 : Heap) (n0 : Nat) (Z0 : n0 ≤ h0.size) :
    MetFree l (⟨"jdk/internal/util/Preconditions", "checkIndex", "(IILjava/util/function/BiFunction;)I"⟩ : MethodName) (head1 (Jvm.Cond.code (⟨"jdk/internal/util/Preconditions", "checkIndex", "(IILjava/util/function/BiFunction;)I"⟩ : MethodName) jdk_41_method_11_code 3 (some .int) :: ws) ({ frames := 0, cells := 0, slots := 0, locals := 0 } : Room)) (fun a U => a = #[(.int (0 : Int32)), (.int (1 : Int32)), (.ref o2)] ∧ Z.Warmed39 U.vm ∧ U.heap = h0) (fun _ _ _ _ _ => True) (fun _ U o U' => ∃ v L, o = .returned v ∧ QpChk Z o2 h0 n0 v U'.heap L ∧ FrameEnd U o U' L ({ frames := 0, cells := 0, slots := 0, locals := 0 } : Room).cells ({ frames := 0, cells := 0, slots := 0, locals := 0 } : Room).slots) := by
  refine MetFree.of_bodySF (plainFor_of_name pn_87) hisR ?_
  intro p e s m args below meth c s₁ Bd hml0 hP hK
  obtain ⟨rfl, hZ, hh⟩ := hP
  have hx := Bd.exec
  have hby := Bd.bytes
  have hml : c.maxLocals = 3 := hml0
  have hown : s.vm.findClass "jdk/internal/util/Preconditions" = some m.cls := findClass_of_methodNamed Bd.named
  have hnm := (name_of_methodNamed Bd.named Bd.method).1
  have X0 : Stand p l e ({ frames := 0, cells := 0, slots := 0, locals := 0 } : Room) s m #[(.int (0 : Int32)), (.int (1 : Int32)), (.ref o2)] below meth c s₁ [] 0 0 := Stand.of_body Bd
  have e0 : s₁.heap = h0 := by rw [← hh, Bd.state]; rfl
  have N0 := Fr.nil n0
  show own_Go p e below s (QpChk Z o2 h0 n0) ({ frames := 0, cells := 0, slots := 0, locals := 0 } : Room).cells ({ frames := 0, cells := 0, slots := 0, locals := 0 } : Room).slots (s₁.setTop (entryFrame m #[(.int (0 : Int32)), (.int (1 : Int32)), (.ref o2)] 3))
  rw [ef_pChk m o2]
  have K0 : Keep h0 h0 [] := Keep.refl h0 []
  refine own_go (S' := s₁.setTop (mkF m 17 #[.val (.int (0 : Int32)), .val (.int (1 : Int32)), .val (.ref o2)] [(.int (0 : Int32))])) (fun t k => ?_) ?_
  · show Steps p.tables e below (s₁.setTop (mkF m 0 #[.val (.int (0 : Int32)), .val (.int (1 : Int32)), .val (.ref o2)] [])) t
    refine XS.iloadN X0.here hx rfl (hb hby d15_0) rfl ?_
    show Steps p.tables e below (s₁.setTop (mkF m 1 #[.val (.int (0 : Int32)), .val (.int (1 : Int32)), .val (.ref o2)] [(.int (0 : Int32))])) t
    refine XS.ifNo X0.here hx rfl (hb hby d15_1) rfl ((if0 _ _).trans (flt (by decide)).1) ?_
    show Steps p.tables e below (s₁.setTop (mkF m 4 #[.val (.int (0 : Int32)), .val (.int (1 : Int32)), .val (.ref o2)] [])) t
    refine XS.iloadN X0.here hx rfl (hb hby d15_4) rfl ?_
    show Steps p.tables e below (s₁.setTop (mkF m 5 #[.val (.int (0 : Int32)), .val (.int (1 : Int32)), .val (.ref o2)] [(.int (0 : Int32))])) t
    refine XS.iloadN X0.here hx rfl (hb hby d15_5) rfl ?_
    show Steps p.tables e below (s₁.setTop (mkF m 6 #[.val (.int (0 : Int32)), .val (.int (1 : Int32)), .val (.ref o2)] [(.int (1 : Int32)), (.int (0 : Int32))])) t
    refine XS.icmpYes X0.here hx rfl (pc0 := 6) (pc' := 16) rfl (hb hby d15_6) rfl (tlt (by decide)).1 (by decide) (by decide) ?_
    show Steps p.tables e below (s₁.setTop (mkF m 16 #[.val (.int (0 : Int32)), .val (.int (1 : Int32)), .val (.ref o2)] [])) t
    refine XS.iloadN X0.here hx rfl (hb hby d15_16) rfl ?_
    exact k
  obtain ⟨fs, hr, hrun, hended, hW, hsame⟩ := X0.leave (v := some (.int (0 : Int32))) (fun h => by rw [Bd.returns] at h; cases h)
  refine own_end (v := some (.int (0 : Int32))) ?_ hrun hended ?_ hW (hsame.mono (by decide) (by decide))
  · show Steps p.tables e below (s₁.setTop (mkF m 17 #[.val (.int (0 : Int32)), .val (.int (1 : Int32)), .val (.ref o2)] [(.int (0 : Int32))])) _
    exact retI X0 hx Bd.returns (hb hby d15_17) hr
  · show QpChk Z o2 h0 n0 _ s₁.heap _
    rw [e0]
    exact ⟨rfl, N0, rfl⟩
theorem ef_pChkN (m : MethodId)  : entryFrame m #[(.int (0 : Int32)), (.int (1 : Int32)), .null] 3 = mkF m 0 #[.val (.int (0 : Int32)), .val (.int (1 : Int32)), .val .null] [] := by first | (simp [entryFrame, mkF, argsToLocals, Value.category]; done) | rfl
def QpChkN (Z : State)  (h0 : Heap) (n0 : Nat) (v : Option Value) (h : Heap) (L : List Loc) : Prop := v = some (.int (0 : Int32)) ∧ Fr n0 L ∧ h = h0
set_option maxRecDepth 65536 in
set_option maxHeartbeats 40000000 in
theorem pChkN (l : Launch) (Z : State) (a0 : Array Value) (hw : ∀ d ∈ tables_1, d.before a0 Z = true) (ws : List Jvm.Cond)  (h0 : Heap) (n0 : Nat) (Z0 : n0 ≤ h0.size) :
    MetFree l (⟨"jdk/internal/util/Preconditions", "checkIndex", "(IILjava/util/function/BiFunction;)I"⟩ : MethodName) (head1 (Jvm.Cond.code (⟨"jdk/internal/util/Preconditions", "checkIndex", "(IILjava/util/function/BiFunction;)I"⟩ : MethodName) jdk_41_method_11_code 3 (some .int) :: ws) ({ frames := 0, cells := 0, slots := 0, locals := 0 } : Room)) (fun a U => a = #[(.int (0 : Int32)), (.int (1 : Int32)), .null] ∧ Z.Warmed39 U.vm ∧ U.heap = h0) (fun _ _ _ _ _ => True) (fun _ U o U' => ∃ v L, o = .returned v ∧ QpChkN Z  h0 n0 v U'.heap L ∧ FrameEnd U o U' L ({ frames := 0, cells := 0, slots := 0, locals := 0 } : Room).cells ({ frames := 0, cells := 0, slots := 0, locals := 0 } : Room).slots) := by
  refine MetFree.of_bodySF (plainFor_of_name pn_87) hisR ?_
  intro p e s m args below meth c s₁ Bd hml0 hP hK
  obtain ⟨rfl, hZ, hh⟩ := hP
  have hx := Bd.exec
  have hby := Bd.bytes
  have hml : c.maxLocals = 3 := hml0
  have hown : s.vm.findClass "jdk/internal/util/Preconditions" = some m.cls := findClass_of_methodNamed Bd.named
  have hnm := (name_of_methodNamed Bd.named Bd.method).1
  have X0 : Stand p l e ({ frames := 0, cells := 0, slots := 0, locals := 0 } : Room) s m #[(.int (0 : Int32)), (.int (1 : Int32)), .null] below meth c s₁ [] 0 0 := Stand.of_body Bd
  have e0 : s₁.heap = h0 := by rw [← hh, Bd.state]; rfl
  have N0 := Fr.nil n0
  show own_Go p e below s (QpChkN Z  h0 n0) ({ frames := 0, cells := 0, slots := 0, locals := 0 } : Room).cells ({ frames := 0, cells := 0, slots := 0, locals := 0 } : Room).slots (s₁.setTop (entryFrame m #[(.int (0 : Int32)), (.int (1 : Int32)), .null] 3))
  rw [ef_pChkN m ]
  have K0 : Keep h0 h0 [] := Keep.refl h0 []
  refine own_go (S' := s₁.setTop (mkF m 17 #[.val (.int (0 : Int32)), .val (.int (1 : Int32)), .val .null] [(.int (0 : Int32))])) (fun t k => ?_) ?_
  · show Steps p.tables e below (s₁.setTop (mkF m 0 #[.val (.int (0 : Int32)), .val (.int (1 : Int32)), .val .null] [])) t
    refine XS.iloadN X0.here hx rfl (hb hby d15_0) rfl ?_
    show Steps p.tables e below (s₁.setTop (mkF m 1 #[.val (.int (0 : Int32)), .val (.int (1 : Int32)), .val .null] [(.int (0 : Int32))])) t
    refine XS.ifNo X0.here hx rfl (hb hby d15_1) rfl ((if0 _ _).trans (flt (by decide)).1) ?_
    show Steps p.tables e below (s₁.setTop (mkF m 4 #[.val (.int (0 : Int32)), .val (.int (1 : Int32)), .val .null] [])) t
    refine XS.iloadN X0.here hx rfl (hb hby d15_4) rfl ?_
    show Steps p.tables e below (s₁.setTop (mkF m 5 #[.val (.int (0 : Int32)), .val (.int (1 : Int32)), .val .null] [(.int (0 : Int32))])) t
    refine XS.iloadN X0.here hx rfl (hb hby d15_5) rfl ?_
    show Steps p.tables e below (s₁.setTop (mkF m 6 #[.val (.int (0 : Int32)), .val (.int (1 : Int32)), .val .null] [(.int (1 : Int32)), (.int (0 : Int32))])) t
    refine XS.icmpYes X0.here hx rfl (pc0 := 6) (pc' := 16) rfl (hb hby d15_6) rfl (tlt (by decide)).1 (by decide) (by decide) ?_
    show Steps p.tables e below (s₁.setTop (mkF m 16 #[.val (.int (0 : Int32)), .val (.int (1 : Int32)), .val .null] [])) t
    refine XS.iloadN X0.here hx rfl (hb hby d15_16) rfl ?_
    exact k
  obtain ⟨fs, hr, hrun, hended, hW, hsame⟩ := X0.leave (v := some (.int (0 : Int32))) (fun h => by rw [Bd.returns] at h; cases h)
  refine own_end (v := some (.int (0 : Int32))) ?_ hrun hended ?_ hW (hsame.mono (by decide) (by decide))
  · show Steps p.tables e below (s₁.setTop (mkF m 17 #[.val (.int (0 : Int32)), .val (.int (1 : Int32)), .val .null] [(.int (0 : Int32))])) _
    exact retI X0 hx Bd.returns (hb hby d15_17) hr
  · show QpChkN Z  h0 n0 _ s₁.heap _
    rw [e0]
    exact ⟨rfl, N0, rfl⟩
theorem d14_0 : decode jdk_42_method_155_code 0 = .ok (.iload_n 0, 1) := by decide +kernel
theorem d14_1 : decode jdk_42_method_155_code 1 = .ok (.iload_n 1, 1) := by decide +kernel
theorem d14_2 : decode jdk_42_method_155_code 2 = .ok (.getstatic 1053, 3) := by decide +kernel
theorem d14_5 : decode jdk_42_method_155_code 5 = .ok (.invokestatic 1059, 3) := by decide +kernel
theorem pd_92 : parseMethodDescriptor "(IILjava/util/function/BiFunction;)I" = some ⟨[.int, .int, (.object "java/util/function/BiFunction")], some .int⟩ := by decide +kernel
theorem d14_8 : decode jdk_42_method_155_code 8 = .ok (.pop, 1) := by decide +kernel
theorem d14_9 : decode jdk_42_method_155_code 9 = .ok (.return_, 1) := by decide +kernel
theorem ef_sChk (m : MethodId)  : entryFrame m #[(.int (0 : Int32)), (.int (1 : Int32))] 2 = mkF m 0 #[.val (.int (0 : Int32)), .val (.int (1 : Int32))] [] := by first | (simp [entryFrame, mkF, argsToLocals, Value.category]; done) | rfl
def QsChk (Z : State) (w_s_SIOOBE_FORMATTER : Value) (h0 : Heap) (n0 : Nat) (v : Option Value) (h : Heap) (L : List Loc) : Prop := v = none ∧ Fr n0 L ∧ h = h0
set_option maxRecDepth 65536 in
set_option maxHeartbeats 40000000 in
theorem sChk (l : Launch) (Z : State) (a0 : Array Value) (hw : ∀ d ∈ tables_1, d.before a0 Z = true) (ws : List Jvm.Cond) (w_s_SIOOBE_FORMATTER : Value) (h0 : Heap) (n0 : Nat) (Z0 : n0 ≤ h0.size) (ref_w_s_SIOOBE_FORMATTER : w_s_SIOOBE_FORMATTER.isRef = true) (S_SIOOBE_FORMATTER : Sta Z h0 "jdk/internal/util/Preconditions" "SIOOBE_FORMATTER" "Ljava/util/function/BiFunction;" w_s_SIOOBE_FORMATTER) :
    MetFree l (⟨"java/lang/String", "checkIndex", "(II)V"⟩ : MethodName) (head1 (Jvm.Cond.code (⟨"java/lang/String", "checkIndex", "(II)V"⟩ : MethodName) jdk_42_method_155_code 2 none :: ws) ({ frames := 1, cells := 0, slots := 0, locals := 14 } : Room)) (fun a U => a = #[(.int (0 : Int32)), (.int (1 : Int32))] ∧ Z.Warmed39 U.vm ∧ U.heap = h0) (fun _ _ _ _ _ => True) (fun _ U o U' => ∃ v L, o = .returned v ∧ QsChk Z w_s_SIOOBE_FORMATTER h0 n0 v U'.heap L ∧ FrameEnd U o U' L ({ frames := 1, cells := 0, slots := 0, locals := 14 } : Room).cells ({ frames := 1, cells := 0, slots := 0, locals := 14 } : Room).slots) := by
  refine MetFree.of_bodySF (plainFor_of_name pn_63) hisR ?_
  intro p e s m args below meth c s₁ Bd hml0 hP hK
  obtain ⟨rfl, hZ, hh⟩ := hP
  have hx := Bd.exec
  have hby := Bd.bytes
  have hml : c.maxLocals = 2 := hml0
  have hown : s.vm.findClass "java/lang/String" = some m.cls := findClass_of_methodNamed Bd.named
  have hnm := (name_of_methodNamed Bd.named Bd.method).1
  have X0 : Stand p l e ({ frames := 1, cells := 0, slots := 0, locals := 14 } : Room) s m #[(.int (0 : Int32)), (.int (1 : Int32))] below meth c s₁ [] 0 0 := Stand.of_body Bd
  have e0 : s₁.heap = h0 := by rw [← hh, Bd.state]; rfl
  have N0 := Fr.nil n0
  show own_Go p e below s (QsChk Z w_s_SIOOBE_FORMATTER h0 n0) ({ frames := 1, cells := 0, slots := 0, locals := 14 } : Room).cells ({ frames := 1, cells := 0, slots := 0, locals := 14 } : Room).slots (s₁.setTop (entryFrame m #[(.int (0 : Int32)), (.int (1 : Int32))] 2))
  rw [ef_sChk m ]
  have K0 : Keep h0 h0 [] := Keep.refl h0 []
  refine own_go (S' := s₁.setTop (mkF m 2 #[.val (.int (0 : Int32)), .val (.int (1 : Int32))] [(.int (1 : Int32)), (.int (0 : Int32))])) (fun t k => ?_) ?_
  · show Steps p.tables e below (s₁.setTop (mkF m 0 #[.val (.int (0 : Int32)), .val (.int (1 : Int32))] [])) t
    refine XS.iloadN X0.here hx rfl (hb hby d14_0) rfl ?_
    show Steps p.tables e below (s₁.setTop (mkF m 1 #[.val (.int (0 : Int32)), .val (.int (1 : Int32))] [(.int (0 : Int32))])) t
    refine XS.iloadN X0.here hx rfl (hb hby d14_1) rfl ?_
    exact k
  obtain ⟨T172, X172, e172, st172⟩ := getS2 X0 hx hZ hown (host := "") (Or.inl (hw _ (List.mem_of_getElem? (i := 125) rfl))) Via.refl e0 S_SIOOBE_FORMATTER (g := (mkF m 2 #[.val (.int (0 : Int32)), .val (.int (1 : Int32))] [(.int (1 : Int32)), (.int (0 : Int32))])) rfl (hb hby d14_2)
  refine own_go st172 ?_
  rcases ref_cases ref_w_s_SIOOBE_FORMATTER with e_si | ⟨a_si, e_si⟩
  · skip
    subst e_si
    obtain ⟨_, _, ⟨T173, L173, kk173, nn173⟩, -, X173, ⟨Lc173, hQ173, l173, y173, z173⟩, st173⟩ := Jvm.LawKit.callS X172 hx (y := (⟨"jdk/internal/util/Preconditions", "checkIndex", "(IILjava/util/function/BiFunction;)I"⟩ : MethodName)) hown (mvT hZ (hw _ (List.mem_of_getElem? (i := 127) rfl))) (mvT hZ (hw _ (List.mem_of_getElem? (i := 128) rfl))) (mvT hZ (hw _ (List.mem_of_getElem? (i := 126) rfl))) (mvT hZ (hw _ (List.mem_of_getElem? (i := 129) rfl))) (by decide) (backOf (W := 0) (pChkN l Z a0 hw []  h0 n0 Z0 ) hZ (hw _ (List.mem_of_getElem? (i := 129) rfl)) (hw _ (List.mem_of_getElem? (i := 126) rfl)) (by decide) (by decide)) (g := (mkF m 5 #[.val (.int (0 : Int32)), .val (.int (1 : Int32))] [.null, (.int (1 : Int32)), (.int (0 : Int32))])) rfl (by rw [hml]; rfl) (argsL := [(.int (0 : Int32)), (.int (1 : Int32)), .null]) (rest := []) (lenOf pd_92 rfl) rfl (by show 2 * 0 + _ ≤ _; exact Nat.le_of_eq rfl) (hb hby d14_5) (fun _ _ => ⟨rfl, e172, (by decide : 0 + 0 ≤ _), (by decide : 0 + 0 ≤ _)⟩)
    dsimp only [Pt.U, Pt.locs, Pt.cells, Pt.slots] at X173 l173 y173 z173 st173 hQ173
    subst l173 y173 z173
    obtain ⟨rfl, N174, e173⟩ := hQ173
    have N176 := Fr.app N0 N174
    refine own_go st173 ?_
    refine own_go (S' := T173.setTop (mkF m 9 #[.val (.int (0 : Int32)), .val (.int (1 : Int32))] [])) (fun t k => ?_) ?_
    · show Steps p.tables e below (T173.setTop (mkF m 8 #[.val (.int (0 : Int32)), .val (.int (1 : Int32))] [(.int (0 : Int32))])) t
      refine XS.pop X173.here hx rfl (hb hby d14_8) rfl rfl ?_
      exact k
    obtain ⟨fs, hr, hrun, hended, hW, hsame⟩ := X173.leave (v := none) (fun _ => rfl)
    refine own_end (v := none) ?_ hrun hended ?_ hW (hsame.mono (by decide) (by decide))
    · show Steps p.tables e below (T173.setTop (mkF m 9 #[.val (.int (0 : Int32)), .val (.int (1 : Int32))] [])) _
      exact X173.returnOut hx Bd.returns (hb hby d14_9) hr
    · show QsChk Z _ h0 n0 _ T173.heap _
      rw [e173]
      exact ⟨rfl, N176, rfl⟩
  · skip
    subst e_si
    obtain ⟨_, _, ⟨T177, L177, kk177, nn177⟩, -, X177, ⟨Lc177, hQ177, l177, y177, z177⟩, st177⟩ := Jvm.LawKit.callS X172 hx (y := (⟨"jdk/internal/util/Preconditions", "checkIndex", "(IILjava/util/function/BiFunction;)I"⟩ : MethodName)) hown (mvT hZ (hw _ (List.mem_of_getElem? (i := 127) rfl))) (mvT hZ (hw _ (List.mem_of_getElem? (i := 128) rfl))) (mvT hZ (hw _ (List.mem_of_getElem? (i := 126) rfl))) (mvT hZ (hw _ (List.mem_of_getElem? (i := 129) rfl))) (by decide) (backOf (W := 0) (pChk l Z a0 hw [] a_si h0 n0 Z0 ) hZ (hw _ (List.mem_of_getElem? (i := 129) rfl)) (hw _ (List.mem_of_getElem? (i := 126) rfl)) (by decide) (by decide)) (g := (mkF m 5 #[.val (.int (0 : Int32)), .val (.int (1 : Int32))] [(.ref a_si), (.int (1 : Int32)), (.int (0 : Int32))])) rfl (by rw [hml]; rfl) (argsL := [(.int (0 : Int32)), (.int (1 : Int32)), (.ref a_si)]) (rest := []) (lenOf pd_92 rfl) rfl (by show 2 * 0 + _ ≤ _; exact Nat.le_of_eq rfl) (hb hby d14_5) (fun _ _ => ⟨rfl, e172, (by decide : 0 + 0 ≤ _), (by decide : 0 + 0 ≤ _)⟩)
    dsimp only [Pt.U, Pt.locs, Pt.cells, Pt.slots] at X177 l177 y177 z177 st177 hQ177
    subst l177 y177 z177
    obtain ⟨rfl, N178, e177⟩ := hQ177
    have N180 := Fr.app N0 N178
    refine own_go st177 ?_
    refine own_go (S' := T177.setTop (mkF m 9 #[.val (.int (0 : Int32)), .val (.int (1 : Int32))] [])) (fun t k => ?_) ?_
    · show Steps p.tables e below (T177.setTop (mkF m 8 #[.val (.int (0 : Int32)), .val (.int (1 : Int32))] [(.int (0 : Int32))])) t
      refine XS.pop X177.here hx rfl (hb hby d14_8) rfl rfl ?_
      exact k
    obtain ⟨fs, hr, hrun, hended, hW, hsame⟩ := X177.leave (v := none) (fun _ => rfl)
    refine own_end (v := none) ?_ hrun hended ?_ hW (hsame.mono (by decide) (by decide))
    · show Steps p.tables e below (T177.setTop (mkF m 9 #[.val (.int (0 : Int32)), .val (.int (1 : Int32))] [])) _
      exact X177.returnOut hx Bd.returns (hb hby d14_9) hr
    · show QsChk Z _ h0 n0 _ T177.heap _
      rw [e177]
      exact ⟨rfl, N180, rfl⟩
theorem d13_0 : decode jdk_43_method_2_code 0 = .ok (.iload_n 1, 1) := by decide +kernel
theorem d13_1 : decode jdk_43_method_2_code 1 = .ok (.aload_n 0, 1) := by decide +kernel
theorem d13_2 : decode jdk_43_method_2_code 2 = .ok (.arraylength, 1) := by decide +kernel
theorem d13_3 : decode jdk_43_method_2_code 3 = .ok (.invokestatic 9, 3) := by decide +kernel
theorem pd_99 : parseMethodDescriptor "(II)V" = some ⟨[.int, .int], none⟩ := by decide +kernel
theorem d13_6 : decode jdk_43_method_2_code 6 = .ok (.aload_n 0, 1) := by decide +kernel
theorem d13_7 : decode jdk_43_method_2_code 7 = .ok (.iload_n 1, 1) := by decide +kernel
theorem d13_8 : decode jdk_43_method_2_code 8 = .ok (.baload, 1) := by decide +kernel
theorem d13_9 : decode jdk_43_method_2_code 9 = .ok (.sipush 255, 3) := by decide +kernel
theorem d13_12 : decode jdk_43_method_2_code 12 = .ok (.iand, 1) := by decide +kernel
theorem d13_13 : decode jdk_43_method_2_code 13 = .ok (.i2c, 1) := by decide +kernel
theorem d13_14 : decode jdk_43_method_2_code 14 = .ok (.ireturn, 1) := by decide +kernel
theorem pn_107 : plainName "java/lang/StringLatin1" = true := by first | (simp [plainName, overriddenIn]; done) | decide +kernel
theorem ef_lchar (m : MethodId) (x0 : Addr) : entryFrame m #[(.ref x0), (.int (0 : Int32))] 2 = mkF m 0 #[.val (.ref x0), .val (.int (0 : Int32))] [] := by first | (simp [entryFrame, mkF, argsToLocals, Value.category]; done) | rfl
def Qlchar (Z : State) (o0 : Addr) (w_s_SIOOBE_FORMATTER : Value) (h0 : Heap) (n0 : Nat) (v : Option Value) (h : Heap) (L : List Loc) : Prop := v = some (.int (nar .char (((49 : Int32) &&& (255 : Int32)).toUInt32.toUInt16.toUInt32.toInt32))) ∧ Fr n0 L ∧ h = h0
set_option maxRecDepth 65536 in
set_option maxHeartbeats 40000000 in
theorem lchar (l : Launch) (Z : State) (a0 : Array Value) (hw : ∀ d ∈ tables_1, d.before a0 Z = true) (ws : List Jvm.Cond) (o0 : Addr) (w_s_SIOOBE_FORMATTER : Value) (h0 : Heap) (n0 : Nat) (Z0 : n0 ≤ h0.size) (A_o0 : own_Arv Z h0 o0 .byte (1 : Int32) [(.int (49 : Int32))] (.int (0 : Int32))) (ref_w_s_SIOOBE_FORMATTER : w_s_SIOOBE_FORMATTER.isRef = true) (S_SIOOBE_FORMATTER : Sta Z h0 "jdk/internal/util/Preconditions" "SIOOBE_FORMATTER" "Ljava/util/function/BiFunction;" w_s_SIOOBE_FORMATTER) :
    MetFree l (⟨"java/lang/StringLatin1", "charAt", "([BI)C"⟩ : MethodName) (head1 (Jvm.Cond.code (⟨"java/lang/StringLatin1", "charAt", "([BI)C"⟩ : MethodName) jdk_43_method_2_code 2 (some .char) :: ws) ({ frames := 2, cells := 0, slots := 0, locals := 27 } : Room)) (fun a U => a = #[(.ref o0), (.int (0 : Int32))] ∧ Z.Warmed39 U.vm ∧ U.heap = h0) (fun _ _ _ _ _ => True) (fun _ U o U' => ∃ v L, o = .returned v ∧ Qlchar Z o0 w_s_SIOOBE_FORMATTER h0 n0 v U'.heap L ∧ FrameEnd U o U' L ({ frames := 2, cells := 0, slots := 0, locals := 27 } : Room).cells ({ frames := 2, cells := 0, slots := 0, locals := 27 } : Room).slots) := by
  refine MetFree.of_bodySF (plainFor_of_name pn_107) hisR ?_
  intro p e s m args below meth c s₁ Bd hml0 hP hK
  obtain ⟨rfl, hZ, hh⟩ := hP
  have hx := Bd.exec
  have hby := Bd.bytes
  have hml : c.maxLocals = 2 := hml0
  have hown : s.vm.findClass "java/lang/StringLatin1" = some m.cls := findClass_of_methodNamed Bd.named
  have hnm := (name_of_methodNamed Bd.named Bd.method).1
  have X0 : Stand p l e ({ frames := 2, cells := 0, slots := 0, locals := 27 } : Room) s m #[(.ref o0), (.int (0 : Int32))] below meth c s₁ [] 0 0 := Stand.of_body Bd
  have e0 : s₁.heap = h0 := by rw [← hh, Bd.state]; rfl
  have N0 := Fr.nil n0
  show own_Go p e below s (Qlchar Z o0 w_s_SIOOBE_FORMATTER h0 n0) ({ frames := 2, cells := 0, slots := 0, locals := 27 } : Room).cells ({ frames := 2, cells := 0, slots := 0, locals := 27 } : Room).slots (s₁.setTop (entryFrame m #[(.ref o0), (.int (0 : Int32))] 2))
  rw [ef_lchar m o0]
  have K0 : Keep h0 h0 [] := Keep.refl h0 []
  obtain ⟨kq181, cl181, Ar181, q181, S181, Nn181, Hh181, G181⟩ := id A_o0
  refine own_go (S' := s₁.setTop (mkF m 3 #[.val (.ref o0), .val (.int (0 : Int32))] [(.int (1 : Int32)), (.int (0 : Int32))])) (fun t k => ?_) ?_
  · show Steps p.tables e below (s₁.setTop (mkF m 0 #[.val (.ref o0), .val (.int (0 : Int32))] [])) t
    refine XS.iloadN X0.here hx rfl (hb hby d13_0) rfl ?_
    show Steps p.tables e below (s₁.setTop (mkF m 1 #[.val (.ref o0), .val (.int (0 : Int32))] [(.int (0 : Int32))])) t
    refine XS.aloadN X0.here hx rfl (hb hby d13_1) rfl rfl ?_
    show Steps p.tables e below (s₁.setTop (mkF m 2 #[.val (.ref o0), .val (.int (0 : Int32))] [(.ref o0), (.int (0 : Int32))])) t
    refine X0.arraylength hx (by (try rw [e0]); exact Ar181.1) (State.isArrayOf_alike hZ.alike Ar181.2.1) (g := (mkF m 2 #[.val (.ref o0), .val (.int (0 : Int32))] [(.ref o0), (.int (0 : Int32))])) rfl rfl (hb hby d13_2) _ ?_
    rw [len_of S181 Nn181]
    exact k
  obtain ⟨_, _, ⟨T182, L182, kk182, nn182⟩, -, X182, ⟨Lc182, hQ182, l182, y182, z182⟩, st182⟩ := Jvm.LawKit.callS X0 hx (y := (⟨"java/lang/String", "checkIndex", "(II)V"⟩ : MethodName)) hown (mvT hZ (hw _ (List.mem_of_getElem? (i := 122) rfl))) (mvT hZ (hw _ (List.mem_of_getElem? (i := 123) rfl))) (mvT hZ (hw _ (List.mem_of_getElem? (i := 7) rfl))) (mvT hZ (hw _ (List.mem_of_getElem? (i := 124) rfl))) (by decide) (backOf (W := 0) (sChk l Z a0 hw [] w_s_SIOOBE_FORMATTER h0 n0 Z0 (by first | rfl | assumption | decide | omega : w_s_SIOOBE_FORMATTER.isRef = true) S_SIOOBE_FORMATTER) hZ (hw _ (List.mem_of_getElem? (i := 124) rfl)) (hw _ (List.mem_of_getElem? (i := 7) rfl)) (by decide) (by decide)) (g := (mkF m 3 #[.val (.ref o0), .val (.int (0 : Int32))] [(.int (1 : Int32)), (.int (0 : Int32))])) rfl (by rw [hml]; rfl) (argsL := [(.int (0 : Int32)), (.int (1 : Int32))]) (rest := []) (lenOf pd_99 rfl) rfl (by show 2 * 0 + _ ≤ _; exact Nat.le_of_eq rfl) (hb hby d13_3) (fun _ _ => ⟨rfl, e0, (by decide : 0 + 0 ≤ _), (by decide : 0 + 0 ≤ _)⟩)
  dsimp only [Pt.U, Pt.locs, Pt.cells, Pt.slots] at X182 l182 y182 z182 st182 hQ182
  subst l182 y182 z182
  obtain ⟨rfl, N183, e182⟩ := hQ182
  have N185 := Fr.app N0 N183
  refine own_go st182 ?_
  refine own_go (S' := T182.setTop (mkF m 14 #[.val (.ref o0), .val (.int (0 : Int32))] [(.int (((49 : Int32) &&& (255 : Int32)).toUInt32.toUInt16.toUInt32.toInt32))])) (fun t k => ?_) ?_
  · show Steps p.tables e below (T182.setTop (mkF m 6 #[.val (.ref o0), .val (.int (0 : Int32))] [])) t
    refine XS.aloadN X182.here hx rfl (hb hby d13_6) rfl rfl ?_
    show Steps p.tables e below (T182.setTop (mkF m 7 #[.val (.ref o0), .val (.int (0 : Int32))] [(.ref o0)])) t
    refine XS.iloadN X182.here hx rfl (hb hby d13_7) rfl ?_
    show Steps p.tables e below (T182.setTop (mkF m 8 #[.val (.ref o0), .val (.int (0 : Int32))] [(.int (0 : Int32)), (.ref o0)])) t
    refine X182.baloadBytes hx (j := (0 : Int32)) (v := (.int (49 : Int32))) (by (try rw [e182]); exact Ar181.1) (State.isArrayOf_alike hZ.alike Ar181.2.1) Ar181.2.2 (inb_of S181 ⟨by decide, by decide⟩) (Hh181.at (inb_of S181 ⟨by decide, by decide⟩) rfl) (g := (mkF m 8 #[.val (.ref o0), .val (.int (0 : Int32))] [(.int (0 : Int32)), (.ref o0)])) rfl rfl (hb hby d13_8) _ ?_
    show Steps p.tables e below (T182.setTop (mkF m 9 #[.val (.ref o0), .val (.int (0 : Int32))] [(.int (49 : Int32))])) t
    refine XS.sipush X182.here hx rfl (hb hby d13_9) ?_
    show Steps p.tables e below (T182.setTop (mkF m 12 #[.val (.ref o0), .val (.int (0 : Int32))] [(.int (255 : Int32)), (.int (49 : Int32))])) t
    refine XS.iand X182.here hx rfl (hb hby d13_12) rfl ?_
    show Steps p.tables e below (T182.setTop (mkF m 13 #[.val (.ref o0), .val (.int (0 : Int32))] [(.int ((49 : Int32) &&& (255 : Int32)))])) t
    refine XS.i2c X182.here hx rfl (hb hby d13_13) rfl ?_
    exact k
  obtain ⟨fs, hr, hrun, hended, hW, hsame⟩ := X182.leave (v := some (.int (nar .char (((49 : Int32) &&& (255 : Int32)).toUInt32.toUInt16.toUInt32.toInt32)))) (fun h => by rw [Bd.returns] at h; cases h)
  refine own_end (v := some (.int (nar .char (((49 : Int32) &&& (255 : Int32)).toUInt32.toUInt16.toUInt32.toInt32)))) ?_ hrun hended ?_ hW (hsame.mono (by decide) (by decide))
  · show Steps p.tables e below (T182.setTop (mkF m 14 #[.val (.ref o0), .val (.int (0 : Int32))] [(.int (((49 : Int32) &&& (255 : Int32)).toUInt32.toUInt16.toUInt32.toInt32))])) _
    exact retN X182 hx (t := .char) Bd.returns (by simp) (hb hby d13_14) hr
  · show Qlchar Z o0 w_s_SIOOBE_FORMATTER h0 n0 _ T182.heap _
    rw [e182]
    exact ⟨rfl, N185, rfl⟩
theorem d11_0 : decode jdk_42_method_56_code 0 = .ok (.aload_n 0, 1) := by decide +kernel
theorem d11_1 : decode jdk_42_method_56_code 1 = .ok (.invokevirtual 492, 3) := by decide +kernel
theorem pd_110 : parseMethodDescriptor "()Z" = some ⟨[], some .boolean⟩ := by decide +kernel
theorem d11_4 : decode jdk_42_method_56_code 4 = .ok (.ifCond .eq 12, 3) := by decide +kernel
theorem d11_7 : decode jdk_42_method_56_code 7 = .ok (.aload_n 0, 1) := by decide +kernel
theorem d11_8 : decode jdk_42_method_56_code 8 = .ok (.getfield 9, 3) := by decide +kernel
theorem d11_11 : decode jdk_42_method_56_code 11 = .ok (.iload_n 1, 1) := by decide +kernel
theorem d11_12 : decode jdk_42_method_56_code 12 = .ok (.invokestatic 495, 3) := by decide +kernel
theorem pd_116 : parseMethodDescriptor "([BI)C" = some ⟨[(.array .byte), .int], some .char⟩ := by decide +kernel
theorem d11_15 : decode jdk_42_method_56_code 15 = .ok (.ireturn, 1) := by decide +kernel
theorem ef_charAt (m : MethodId) (x0 : Addr) : entryFrame m #[(.ref x0), (.int (0 : Int32))] 2 = mkF m 0 #[.val (.ref x0), .val (.int (0 : Int32))] [] := by first | (simp [entryFrame, mkF, argsToLocals, Value.category]; done) | rfl
def QcharAt (Z : State) (o0 : Addr) (w_s_COMPACT_STRINGS : Int32) (w_o0_value : Addr) (w_s_SIOOBE_FORMATTER : Value) (h0 : Heap) (n0 : Nat) (v : Option Value) (h : Heap) (L : List Loc) : Prop := v = some (.int (nar .char (nar .char (((49 : Int32) &&& (255 : Int32)).toUInt32.toUInt16.toUInt32.toInt32)))) ∧ Fr n0 L ∧ h = h0
set_option maxRecDepth 65536 in
set_option maxHeartbeats 40000000 in
theorem charAt (l : Launch) (Z : State) (a0 : Array Value) (hw : ∀ d ∈ tables_1, d.before a0 Z = true) (ws : List Jvm.Cond) (o0 : Addr) (w_s_COMPACT_STRINGS : Int32) (w_o0_value : Addr) (w_s_SIOOBE_FORMATTER : Value) (h0 : Heap) (n0 : Nat) (Z0 : n0 ≤ h0.size) (hcs : ¬ (w_s_COMPACT_STRINGS = (0 : Int32))) (A_val : own_Arv Z h0 w_o0_value .byte (1 : Int32) [(.int (49 : Int32))] (.int (0 : Int32))) (S_COMPACT_STRINGS : Sta Z h0 "java/lang/String" "COMPACT_STRINGS" "Z" (.int w_s_COMPACT_STRINGS)) (F_o0_coder : Fld Z h0 o0 "java/lang/String" "coder" "B" (.int (0 : Int32))) (E_o0 : Exa Z h0 o0 "java/lang/String") (F_o0_value : Fld Z h0 o0 "java/lang/String" "value" "[B" (.ref w_o0_value)) (ref_w_s_SIOOBE_FORMATTER : w_s_SIOOBE_FORMATTER.isRef = true) (S_SIOOBE_FORMATTER : Sta Z h0 "jdk/internal/util/Preconditions" "SIOOBE_FORMATTER" "Ljava/util/function/BiFunction;" w_s_SIOOBE_FORMATTER) :
    MetFree l (⟨"java/lang/String", "charAt", "(I)C"⟩ : MethodName) (head1 (Jvm.Cond.code (⟨"java/lang/String", "charAt", "(I)C"⟩ : MethodName) jdk_42_method_56_code 2 (some .char) :: ws) ({ frames := 3, cells := 0, slots := 0, locals := 40 } : Room)) (fun a U => a = #[(.ref o0), (.int (0 : Int32))] ∧ Z.Warmed39 U.vm ∧ U.heap = h0) (fun _ _ _ _ _ => True) (fun _ U o U' => ∃ v L, o = .returned v ∧ QcharAt Z o0 w_s_COMPACT_STRINGS w_o0_value w_s_SIOOBE_FORMATTER h0 n0 v U'.heap L ∧ FrameEnd U o U' L ({ frames := 3, cells := 0, slots := 0, locals := 40 } : Room).cells ({ frames := 3, cells := 0, slots := 0, locals := 40 } : Room).slots) := by
  refine MetFree.of_bodySF (plainFor_of_name pn_63) hisR ?_
  intro p e s m args below meth c s₁ Bd hml0 hP hK
  obtain ⟨rfl, hZ, hh⟩ := hP
  have hx := Bd.exec
  have hby := Bd.bytes
  have hml : c.maxLocals = 2 := hml0
  have hown : s.vm.findClass "java/lang/String" = some m.cls := findClass_of_methodNamed Bd.named
  have hnm := (name_of_methodNamed Bd.named Bd.method).1
  have X0 : Stand p l e ({ frames := 3, cells := 0, slots := 0, locals := 40 } : Room) s m #[(.ref o0), (.int (0 : Int32))] below meth c s₁ [] 0 0 := Stand.of_body Bd
  have e0 : s₁.heap = h0 := by rw [← hh, Bd.state]; rfl
  have N0 := Fr.nil n0
  show own_Go p e below s (QcharAt Z o0 w_s_COMPACT_STRINGS w_o0_value w_s_SIOOBE_FORMATTER h0 n0) ({ frames := 3, cells := 0, slots := 0, locals := 40 } : Room).cells ({ frames := 3, cells := 0, slots := 0, locals := 40 } : Room).slots (s₁.setTop (entryFrame m #[(.ref o0), (.int (0 : Int32))] 2))
  rw [ef_charAt m o0]
  have K0 : Keep h0 h0 [] := Keep.refl h0 []
  refine own_go (S' := s₁.setTop (mkF m 1 #[.val (.ref o0), .val (.int (0 : Int32))] [(.ref o0)])) (fun t k => ?_) ?_
  · show Steps p.tables e below (s₁.setTop (mkF m 0 #[.val (.ref o0), .val (.int (0 : Int32))] [])) t
    refine XS.aloadN X0.here hx rfl (hb hby d11_0) rfl rfl ?_
    exact k
  obtain ⟨cq186, kq186, qa186, qb186, qc186⟩ := isOf hZ e0 E_o0
  obtain ⟨_, _, ⟨T186, L186, kk186, nn186⟩, -, X186, ⟨Lc186, hQ186, l186, y186, z186⟩, st186⟩ := X0.virtualBack hx (y := (⟨"java/lang/String", "isLatin1", "()Z"⟩ : MethodName)) (z := (⟨"java/lang/String", "isLatin1", "()Z"⟩ : MethodName)) hown (mvT hZ (hw _ (List.mem_of_getElem? (i := 113) rfl))) (mvT hZ (hw _ (List.mem_of_getElem? (i := 114) rfl))) (notFace_of_selects (args := #[]) (mvT hZ (hw _ (List.mem_of_getElem? (i := 116) rfl)))) (mvT hZ (hw _ (List.mem_of_getElem? (i := 116) rfl))) (mvT hZ (hw _ (List.mem_of_getElem? (i := 115) rfl))) (by decide) (backOf (W := 0) (isLat l Z a0 hw [] o0 w_s_COMPACT_STRINGS h0 n0 Z0 (hcs : ¬ (w_s_COMPACT_STRINGS = (0 : Int32))) S_COMPACT_STRINGS F_o0_coder) hZ (hw _ (List.mem_of_getElem? (i := 117) rfl)) (hw _ (List.mem_of_getElem? (i := 7) rfl)) (by decide) (by decide)) qa186 qc186 (g := (mkF m 1 #[.val (.ref o0), .val (.int (0 : Int32))] [(.ref o0)])) rfl (by rw [hml]; rfl) (Steps.refl _) (argsL := []) (rest := []) (lenOf pd_110 rfl) rfl (by show 2 * 0 + _ ≤ _; exact Nat.le_of_eq rfl) (hb hby d11_1) (fun _ _ => ⟨rfl, e0, (by decide : 0 + 0 ≤ _), (by decide : 0 + 0 ≤ _)⟩)
  dsimp only [Pt.U, Pt.locs, Pt.cells, Pt.slots] at X186 l186 y186 z186 st186 hQ186
  subst l186 y186 z186
  obtain ⟨rfl, N187, e186⟩ := hQ186
  have N189 := Fr.app N0 N187
  refine own_goT st186 ?_
  refine own_go (S' := T186.setTop (mkF m 8 #[.val (.ref o0), .val (.int (0 : Int32))] [(.ref o0)])) (fun t k => ?_) ?_
  · show Steps p.tables e below (T186.setTop (mkF m 4 #[.val (.ref o0), .val (.int (0 : Int32))] [(.int (1 : Int32))])) t
    refine XS.ifNo X186.here hx rfl (hb hby d11_4) rfl ((if0 _ _).trans (feq (by decide)).1) ?_
    show Steps p.tables e below (T186.setTop (mkF m 7 #[.val (.ref o0), .val (.int (0 : Int32))] [])) t
    refine XS.aloadN X186.here hx rfl (hb hby d11_7) rfl rfl ?_
    exact k
  obtain ⟨T190, X190, e190, st190⟩ := getF X186 hx hZ hown (host := "") (Or.inl (hw _ (List.mem_of_getElem? (i := 100) rfl))) Via.refl e186 F_o0_value (g := (mkF m 8 #[.val (.ref o0), .val (.int (0 : Int32))] [(.ref o0)])) rfl rfl (hb hby d11_8)
  refine own_go st190 ?_
  refine own_go (S' := T190.setTop (mkF m 12 #[.val (.ref o0), .val (.int (0 : Int32))] [(.int (0 : Int32)), (.ref w_o0_value)])) (fun t k => ?_) ?_
  · show Steps p.tables e below (T190.setTop (mkF m 11 #[.val (.ref o0), .val (.int (0 : Int32))] [(.ref w_o0_value)])) t
    refine XS.iloadN X190.here hx rfl (hb hby d11_11) rfl ?_
    exact k
  obtain ⟨_, _, ⟨T191, L191, kk191, nn191⟩, -, X191, ⟨Lc191, hQ191, l191, y191, z191⟩, st191⟩ := Jvm.LawKit.callS X190 hx (y := (⟨"java/lang/StringLatin1", "charAt", "([BI)C"⟩ : MethodName)) hown (mvT hZ (hw _ (List.mem_of_getElem? (i := 118) rfl))) (mvT hZ (hw _ (List.mem_of_getElem? (i := 119) rfl))) (mvT hZ (hw _ (List.mem_of_getElem? (i := 120) rfl))) (mvT hZ (hw _ (List.mem_of_getElem? (i := 121) rfl))) (by decide) (backOf (W := 0) (lchar l Z a0 hw [] w_o0_value w_s_SIOOBE_FORMATTER h0 n0 Z0 A_val (by first | rfl | assumption | decide | omega : w_s_SIOOBE_FORMATTER.isRef = true) S_SIOOBE_FORMATTER) hZ (hw _ (List.mem_of_getElem? (i := 121) rfl)) (hw _ (List.mem_of_getElem? (i := 120) rfl)) (by decide) (by decide)) (g := (mkF m 12 #[.val (.ref o0), .val (.int (0 : Int32))] [(.int (0 : Int32)), (.ref w_o0_value)])) rfl (by rw [hml]; rfl) (argsL := [(.ref w_o0_value), (.int (0 : Int32))]) (rest := []) (lenOf pd_116 rfl) rfl (by show 2 * 0 + _ ≤ _; exact Nat.le_of_eq rfl) (hb hby d11_12) (fun _ _ => ⟨rfl, e190, (by decide : 0 + 0 ≤ _), (by decide : 0 + 0 ≤ _)⟩)
  dsimp only [Pt.U, Pt.locs, Pt.cells, Pt.slots] at X191 l191 y191 z191 st191 hQ191
  subst l191 y191 z191
  obtain ⟨rfl, N192, e191⟩ := hQ191
  have N194 := Fr.app N189 N192
  refine own_go st191 ?_
  obtain ⟨fs, hr, hrun, hended, hW, hsame⟩ := X191.leave (v := some (.int (nar .char (nar .char (((49 : Int32) &&& (255 : Int32)).toUInt32.toUInt16.toUInt32.toInt32))))) (fun h => by rw [Bd.returns] at h; cases h)
  refine own_end (v := some (.int (nar .char (nar .char (((49 : Int32) &&& (255 : Int32)).toUInt32.toUInt16.toUInt32.toInt32))))) ?_ hrun hended ?_ hW (hsame.mono (by decide) (by decide))
  · show Steps p.tables e below (T191.setTop (mkF m 15 #[.val (.ref o0), .val (.int (0 : Int32))] [(.int (nar .char (((49 : Int32) &&& (255 : Int32)).toUInt32.toUInt16.toUInt32.toInt32)))])) _
    exact retN X191 hx (t := .char) Bd.returns (by simp) (hb hby d11_15) hr
  · show QcharAt Z o0 w_s_COMPACT_STRINGS w_o0_value w_s_SIOOBE_FORMATTER h0 n0 _ T191.heap _
    rw [e191]
    exact ⟨rfl, N194, rfl⟩
theorem d4_0 : decode prog_53_method_1_code 0 = .ok (.aload_n 0, 1) := by decide +kernel
theorem d4_1 : decode prog_53_method_1_code 1 = .ok (.invokespecial 1, 3) := by decide +kernel
theorem d4_4 : decode prog_53_method_1_code 4 = .ok (.aload_n 0, 1) := by decide +kernel
theorem d4_5 : decode prog_53_method_1_code 5 = .ok (.new 7, 3) := by decide +kernel
theorem d4_8 : decode prog_53_method_1_code 8 = .ok (.dup, 1) := by decide +kernel
theorem d4_9 : decode prog_53_method_1_code 9 = .ok (.invokespecial 9, 3) := by decide +kernel
theorem d4_12 : decode prog_53_method_1_code 12 = .ok (.putfield 10, 3) := by decide +kernel
theorem d4_15 : decode prog_53_method_1_code 15 = .ok (.aload_n 0, 1) := by decide +kernel
theorem d4_16 : decode prog_53_method_1_code 16 = .ok (.new 16, 3) := by decide +kernel
theorem d4_19 : decode prog_53_method_1_code 19 = .ok (.dup, 1) := by decide +kernel
theorem d4_20 : decode prog_53_method_1_code 20 = .ok (.invokespecial 18, 3) := by decide +kernel
theorem d4_23 : decode prog_53_method_1_code 23 = .ok (.putfield 19, 3) := by decide +kernel
theorem d4_26 : decode prog_53_method_1_code 26 = .ok (.aload_n 0, 1) := by decide +kernel
theorem d4_27 : decode prog_53_method_1_code 27 = .ok (.new 7, 3) := by decide +kernel
theorem d4_30 : decode prog_53_method_1_code 30 = .ok (.dup, 1) := by decide +kernel
theorem d4_31 : decode prog_53_method_1_code 31 = .ok (.invokespecial 9, 3) := by decide +kernel
theorem d4_34 : decode prog_53_method_1_code 34 = .ok (.putfield 23, 3) := by decide +kernel
theorem d4_37 : decode prog_53_method_1_code 37 = .ok (.aload_n 0, 1) := by decide +kernel
theorem d4_38 : decode prog_53_method_1_code 38 = .ok (.iconst 1, 1) := by decide +kernel
theorem d4_39 : decode prog_53_method_1_code 39 = .ok (.newarray .long, 2) := by decide +kernel
theorem d4_41 : decode prog_53_method_1_code 41 = .ok (.putfield 26, 3) := by decide +kernel
theorem d4_44 : decode prog_53_method_1_code 44 = .ok (.aload_n 0, 1) := by decide +kernel
theorem d4_45 : decode prog_53_method_1_code 45 = .ok (.iconst 1, 1) := by decide +kernel
theorem d4_46 : decode prog_53_method_1_code 46 = .ok (.newarray .int, 2) := by decide +kernel
theorem d4_48 : decode prog_53_method_1_code 48 = .ok (.putfield 30, 3) := by decide +kernel
theorem d4_51 : decode prog_53_method_1_code 51 = .ok (.aload_n 0, 1) := by decide +kernel
theorem d4_52 : decode prog_53_method_1_code 52 = .ok (.iconst 2, 1) := by decide +kernel
theorem d4_53 : decode prog_53_method_1_code 53 = .ok (.anewarray 11, 3) := by decide +kernel
theorem d4_56 : decode prog_53_method_1_code 56 = .ok (.putfield 34, 3) := by decide +kernel
theorem d4_59 : decode prog_53_method_1_code 59 = .ok (.aload_n 0, 1) := by decide +kernel
theorem d4_60 : decode prog_53_method_1_code 60 = .ok (.iconst 1, 1) := by decide +kernel
theorem d4_61 : decode prog_53_method_1_code 61 = .ok (.putfield 38, 3) := by decide +kernel
theorem d4_64 : decode prog_53_method_1_code 64 = .ok (.aload_n 0, 1) := by decide +kernel
theorem d4_65 : decode prog_53_method_1_code 65 = .ok (.new 16, 3) := by decide +kernel
theorem d4_68 : decode prog_53_method_1_code 68 = .ok (.dup, 1) := by decide +kernel
theorem d4_69 : decode prog_53_method_1_code 69 = .ok (.invokespecial 18, 3) := by decide +kernel
theorem d4_72 : decode prog_53_method_1_code 72 = .ok (.putfield 42, 3) := by decide +kernel
theorem d4_75 : decode prog_53_method_1_code 75 = .ok (.aload_n 0, 1) := by decide +kernel
theorem d4_76 : decode prog_53_method_1_code 76 = .ok (.aload_n 1, 1) := by decide +kernel
theorem d4_77 : decode prog_53_method_1_code 77 = .ok (.putfield 45, 3) := by decide +kernel
theorem d4_80 : decode prog_53_method_1_code 80 = .ok (.lconst 0, 1) := by decide +kernel
theorem d4_81 : decode prog_53_method_1_code 81 = .ok (.lstore_n 2, 1) := by decide +kernel
theorem d4_82 : decode prog_53_method_1_code 82 = .ok (.iconst 0, 1) := by decide +kernel
theorem d4_83 : decode prog_53_method_1_code 83 = .ok (.istore 4, 2) := by decide +kernel
theorem d4_85 : decode prog_53_method_1_code 85 = .ok (.iload 4, 2) := by decide +kernel
theorem d4_87 : decode prog_53_method_1_code 87 = .ok (.iconst 4, 1) := by decide +kernel
theorem d4_88 : decode prog_53_method_1_code 88 = .ok (.if_icmp .ge 45, 3) := by decide +kernel
theorem d4_91 : decode prog_53_method_1_code 91 = .ok (.iload 4, 2) := by decide +kernel
theorem d4_93 : decode prog_53_method_1_code 93 = .ok (.aload_n 1, 1) := by decide +kernel
theorem d4_94 : decode prog_53_method_1_code 94 = .ok (.invokevirtual 53, 3) := by decide +kernel
theorem pd_168 : parseMethodDescriptor "()Ljava/lang/String;" = some ⟨[], some (.object "java/lang/String")⟩ := by decide +kernel
theorem d4_97 : decode prog_53_method_1_code 97 = .ok (.invokevirtual 59, 3) := by decide +kernel
theorem pd_170 : parseMethodDescriptor "()I" = some ⟨[], some .int⟩ := by decide +kernel
theorem d4_100 : decode prog_53_method_1_code 100 = .ok (.if_icmp .ge 15, 3) := by decide +kernel
theorem d4_103 : decode prog_53_method_1_code 103 = .ok (.aload_n 1, 1) := by decide +kernel
theorem d4_104 : decode prog_53_method_1_code 104 = .ok (.invokevirtual 53, 3) := by decide +kernel
theorem d4_107 : decode prog_53_method_1_code 107 = .ok (.iload 4, 2) := by decide +kernel
theorem d4_109 : decode prog_53_method_1_code 109 = .ok (.invokevirtual 65, 3) := by decide +kernel
theorem pd_176 : parseMethodDescriptor "(I)C" = some ⟨[.int], some .char⟩ := by decide +kernel
theorem d4_112 : decode prog_53_method_1_code 112 = .ok (.goto 4, 3) := by decide +kernel
theorem d4_116 : decode prog_53_method_1_code 116 = .ok (.istore 5, 2) := by decide +kernel
theorem d4_118 : decode prog_53_method_1_code 118 = .ok (.lload_n 2, 1) := by decide +kernel
theorem d4_119 : decode prog_53_method_1_code 119 = .ok (.bipush 16, 2) := by decide +kernel
theorem d4_121 : decode prog_53_method_1_code 121 = .ok (.lshl, 1) := by decide +kernel
theorem d4_122 : decode prog_53_method_1_code 122 = .ok (.iload 5, 2) := by decide +kernel
theorem d4_124 : decode prog_53_method_1_code 124 = .ok (.i2l, 1) := by decide +kernel
theorem d4_125 : decode prog_53_method_1_code 125 = .ok (.lor, 1) := by decide +kernel
theorem d4_126 : decode prog_53_method_1_code 126 = .ok (.lstore_n 2, 1) := by decide +kernel
theorem d4_127 : decode prog_53_method_1_code 127 = .ok (.iinc 4 1, 3) := by decide +kernel
theorem d4_130 : decode prog_53_method_1_code 130 = .ok (.goto (-45), 3) := by decide +kernel
theorem d4_115 : decode prog_53_method_1_code 115 = .ok (.iconst 0, 1) := by decide +kernel
theorem d4_133 : decode prog_53_method_1_code 133 = .ok (.aload_n 0, 1) := by decide +kernel
theorem d4_134 : decode prog_53_method_1_code 134 = .ok (.lload_n 2, 1) := by decide +kernel
theorem d4_135 : decode prog_53_method_1_code 135 = .ok (.putfield 69, 3) := by decide +kernel
theorem d4_138 : decode prog_53_method_1_code 138 = .ok (.return_, 1) := by decide +kernel
theorem pn_193 : plainName "com/example/perigo/perigo/engine/network/Node" = true := by first | (simp [plainName, overriddenIn]; done) | decide +kernel
theorem ef_noInit (m : MethodId) (x0 : Addr) (x1 : Addr) : entryFrame m #[(.ref x0), (.ref x1)] 6 = mkF m 0 #[.val (.ref x0), .val (.ref x1), .unset, .unset, .unset, .unset] [] := by first | (simp [entryFrame, mkF, argsToLocals, Value.category]; done) | rfl
def QnoInit (Z : State) (o0 : Addr) (o1 : Addr) (w_s_COMPACT_STRINGS : Int32) (w_w_o1_value_value : Addr) (w_o0_events : Value) (w_o0_eventsByType : Value) (w_o0_frauds : Value) (w_o0_knownSeconds : Value) (w_o0_knownNanos : Value) (w_o0_others : Value) (w_o0_besideInTimeOrder : Int32) (w_o0_firstJoins : Value) (w_o0_medium : Value) (w_o0_valueKey : Int64) (w_o0_reachedBy : Int64) (w_o0_reachedWith : Int32) (w_o1_value : Addr) (w_s_SIOOBE_FORMATTER : Value) (h0 : Heap) (n0 : Nat) (v : Option Value) (h : Heap) (L : List Loc) : Prop := v = none ∧ Fr n0 L ∧ Keep h0 h [o0] ∧ Exa Z h o0 "com/example/perigo/perigo/engine/network/Node" ∧ Fld Z h o0 "com/example/perigo/perigo/engine/network/Node" "reachedBy" "J" (.long w_o0_reachedBy) ∧ Fld Z h o0 "com/example/perigo/perigo/engine/network/Node" "reachedWith" "I" (.int w_o0_reachedWith)
set_option maxRecDepth 65536 in
set_option maxHeartbeats 40000000 in
theorem noInit (l : Launch) (Z : State) (a0 : Array Value) (hw : ∀ d ∈ tables_1, d.before a0 Z = true) (ws : List Jvm.Cond) (o0 : Addr) (o1 : Addr) (w_s_COMPACT_STRINGS : Int32) (w_w_o1_value_value : Addr) (w_o0_events : Value) (w_o0_eventsByType : Value) (w_o0_frauds : Value) (w_o0_knownSeconds : Value) (w_o0_knownNanos : Value) (w_o0_others : Value) (w_o0_besideInTimeOrder : Int32) (w_o0_firstJoins : Value) (w_o0_medium : Value) (w_o0_valueKey : Int64) (w_o0_reachedBy : Int64) (w_o0_reachedWith : Int32) (w_o1_value : Addr) (w_s_SIOOBE_FORMATTER : Value) (h0 : Heap) (n0 : Nat) (Z0 : n0 ≤ h0.size) (hcs : ¬ (w_s_COMPACT_STRINGS = (0 : Int32))) (A_val : own_Arv Z h0 w_w_o1_value_value .byte (1 : Int32) [(.int (49 : Int32))] (.int (0 : Int32))) (E_o0 : Exa Z h0 o0 "com/example/perigo/perigo/engine/network/Node") (F_o0_events : Fld Z h0 o0 "com/example/perigo/perigo/engine/network/Node" "events" "Lcom/example/perigo/perigo/engine/network/Timeline;" w_o0_events) (F_o0_eventsByType : Fld Z h0 o0 "com/example/perigo/perigo/engine/network/Node" "eventsByType" "Ljava/util/Map;" w_o0_eventsByType) (F_o0_frauds : Fld Z h0 o0 "com/example/perigo/perigo/engine/network/Node" "frauds" "Lcom/example/perigo/perigo/engine/network/Timeline;" w_o0_frauds) (F_o0_knownSeconds : Fld Z h0 o0 "com/example/perigo/perigo/engine/network/Node" "knownSeconds" "[J" w_o0_knownSeconds) (F_o0_knownNanos : Fld Z h0 o0 "com/example/perigo/perigo/engine/network/Node" "knownNanos" "[I" w_o0_knownNanos) (F_o0_others : Fld Z h0 o0 "com/example/perigo/perigo/engine/network/Node" "others" "[Lcom/example/perigo/perigo/engine/network/Node;" w_o0_others) (F_o0_besideInTimeOrder : Fld Z h0 o0 "com/example/perigo/perigo/engine/network/Node" "besideInTimeOrder" "Z" (.int w_o0_besideInTimeOrder)) (F_o0_firstJoins : Fld Z h0 o0 "com/example/perigo/perigo/engine/network/Node" "firstJoins" "Ljava/util/Map;" w_o0_firstJoins) (F_o0_medium : Fld Z h0 o0 "com/example/perigo/perigo/engine/network/Node" "medium" "Lcom/example/perigo/perigo/engine/event/Medium;" w_o0_medium) (F_o0_valueKey : Fld Z h0 o0 "com/example/perigo/perigo/engine/network/Node" "valueKey" "J" (.long w_o0_valueKey)) (F_o0_reachedBy : Fld Z h0 o0 "com/example/perigo/perigo/engine/network/Node" "reachedBy" "J" (.long w_o0_reachedBy)) (F_o0_reachedWith : Fld Z h0 o0 "com/example/perigo/perigo/engine/network/Node" "reachedWith" "I" (.int w_o0_reachedWith)) (g_o0 : n0 ≤ o0) (F_o1_value : Fld Z h0 o1 "com/example/perigo/perigo/engine/event/Medium" "value" "Ljava/lang/String;" (.ref w_o1_value)) (ne_o1_o0 : o1 ≠ o0) (E_o1 : Exa Z h0 o1 "com/example/perigo/perigo/engine/event/Medium") (F_w_o1_value_value : Fld Z h0 w_o1_value "java/lang/String" "value" "[B" (.ref w_w_o1_value_value)) (ne_w_o1_value_o0 : w_o1_value ≠ o0) (S_COMPACT_STRINGS : Sta Z h0 "java/lang/String" "COMPACT_STRINGS" "Z" (.int w_s_COMPACT_STRINGS)) (F_w_o1_value_coder : Fld Z h0 w_o1_value "java/lang/String" "coder" "B" (.int (0 : Int32))) (E_w_o1_value : Exa Z h0 w_o1_value "java/lang/String") (ref_w_s_SIOOBE_FORMATTER : w_s_SIOOBE_FORMATTER.isRef = true) (S_SIOOBE_FORMATTER : Sta Z h0 "jdk/internal/util/Preconditions" "SIOOBE_FORMATTER" "Ljava/util/function/BiFunction;" w_s_SIOOBE_FORMATTER) :
    MetFree l (⟨"com/example/perigo/perigo/engine/network/Node", "<init>", "(Lcom/example/perigo/perigo/engine/event/Medium;)V"⟩ : MethodName) (head1 (Jvm.Cond.code (⟨"com/example/perigo/perigo/engine/network/Node", "<init>", "(Lcom/example/perigo/perigo/engine/event/Medium;)V"⟩ : MethodName) prog_53_method_1_code 6 none :: ws) ({ frames := 4, cells := 15, slots := 40, locals := 53 } : Room)) (fun a U => a = #[(.ref o0), (.ref o1)] ∧ Z.Warmed39 U.vm ∧ U.heap = h0) (fun _ _ _ _ _ => True) (fun _ U o U' => ∃ v L, o = .returned v ∧ QnoInit Z o0 o1 w_s_COMPACT_STRINGS w_w_o1_value_value w_o0_events w_o0_eventsByType w_o0_frauds w_o0_knownSeconds w_o0_knownNanos w_o0_others w_o0_besideInTimeOrder w_o0_firstJoins w_o0_medium w_o0_valueKey w_o0_reachedBy w_o0_reachedWith w_o1_value w_s_SIOOBE_FORMATTER h0 n0 v U'.heap L ∧ FrameEnd U o U' L ({ frames := 4, cells := 15, slots := 40, locals := 53 } : Room).cells ({ frames := 4, cells := 15, slots := 40, locals := 53 } : Room).slots) := by
  refine MetFree.of_bodySF (plainFor_of_name pn_193) hisR ?_
  intro p e s m args below meth c s₁ Bd hml0 hP hK
  obtain ⟨rfl, hZ, hh⟩ := hP
  have hx := Bd.exec
  have hby := Bd.bytes
  have hml : c.maxLocals = 6 := hml0
  have hown : s.vm.findClass "com/example/perigo/perigo/engine/network/Node" = some m.cls := findClass_of_methodNamed Bd.named
  have hnm := (name_of_methodNamed Bd.named Bd.method).1
  have X0 : Stand p l e ({ frames := 4, cells := 15, slots := 40, locals := 53 } : Room) s m #[(.ref o0), (.ref o1)] below meth c s₁ [] 0 0 := Stand.of_body Bd
  have e0 : s₁.heap = h0 := by rw [← hh, Bd.state]; rfl
  have N0 := Fr.nil n0
  show own_Go p e below s (QnoInit Z o0 o1 w_s_COMPACT_STRINGS w_w_o1_value_value w_o0_events w_o0_eventsByType w_o0_frauds w_o0_knownSeconds w_o0_knownNanos w_o0_others w_o0_besideInTimeOrder w_o0_firstJoins w_o0_medium w_o0_valueKey w_o0_reachedBy w_o0_reachedWith w_o1_value w_s_SIOOBE_FORMATTER h0 n0) ({ frames := 4, cells := 15, slots := 40, locals := 53 } : Room).cells ({ frames := 4, cells := 15, slots := 40, locals := 53 } : Room).slots (s₁.setTop (entryFrame m #[(.ref o0), (.ref o1)] 6))
  rw [ef_noInit m o0 o1]
  have K0 : Keep h0 h0 [o0] := Keep.refl h0 [o0]
  refine own_go (S' := s₁.setTop (mkF m 1 #[.val (.ref o0), .val (.ref o1), .unset, .unset, .unset, .unset] [(.ref o0)])) (fun t k => ?_) ?_
  · show Steps p.tables e below (s₁.setTop (mkF m 0 #[.val (.ref o0), .val (.ref o1), .unset, .unset, .unset, .unset] [])) t
    refine XS.aloadN X0.here hx rfl (hb hby d4_0) rfl rfl ?_
    exact k
  obtain ⟨T195, X195, e195, st195⟩ := initO X0 hx hZ hown (hw _ (List.mem_of_getElem? (i := 36) rfl)) (hw _ (List.mem_of_getElem? (i := 19) rfl)) (hw _ (List.mem_of_getElem? (i := 20) rfl)) e0 (g := (mkF m 1 #[.val (.ref o0), .val (.ref o1), .unset, .unset, .unset, .unset] [(.ref o0)])) rfl (by rw [hml]; rfl) rfl (hb hby d4_1) (by decide) (W := 0) (by show 2 * 0 + _ ≤ _; exact Nat.le_of_eq rfl) (by decide)
  refine own_go st195 ?_
  refine own_go (S' := T195.setTop (mkF m 5 #[.val (.ref o0), .val (.ref o1), .unset, .unset, .unset, .unset] [(.ref o0)])) (fun t k => ?_) ?_
  · show Steps p.tables e below (T195.setTop (mkF m 4 #[.val (.ref o0), .val (.ref o1), .unset, .unset, .unset, .unset] [])) t
    refine XS.aloadN X195.here hx rfl (hb hby d4_4) rfl rfl ?_
    exact k
  obtain ⟨T196, h196, X196, e196, E196, A196, D196, -, st196⟩ := newO X195 hx hZ hown (hw _ (List.mem_of_getElem? (i := 37) rfl)) (hw _ (List.mem_of_getElem? (i := 38) rfl)) (hw _ (List.mem_of_getElem? (i := 39) rfl)) e195 (g := (mkF m 5 #[.val (.ref o0), .val (.ref o1), .unset, .unset, .unset, .unset] [(.ref o0)])) rfl (hb hby d4_5) (by decide) (by decide)
  obtain ⟨b196, g196⟩ : ∃ z, z = h0.size := ⟨_, rfl⟩
  rw [← g196] at A196 D196 st196
  have ne197 : w_w_o1_value_value ≠ b196 := Nat.ne_of_lt (Nat.lt_of_lt_of_le A_val.lt (Nat.le_of_eq g196.symm))
  have ne198 : o0 ≠ b196 := Nat.ne_of_lt (Nat.lt_of_lt_of_le E_o0.lt (Nat.le_of_eq g196.symm))
  have ne199 : o1 ≠ b196 := Nat.ne_of_lt (Nat.lt_of_lt_of_le F_o1_value.lt (Nat.le_of_eq g196.symm))
  have ne200 : w_o1_value ≠ b196 := Nat.ne_of_lt (Nat.lt_of_lt_of_le F_w_o1_value_value.lt (Nat.le_of_eq g196.symm))
  have g_b196 : n0 ≤ b196 := Nat.le_trans Z0 (Nat.le_of_eq g196.symm)
  have sz_b196 : h0.size ≤ b196 := Nat.le_trans K0.1 (Nat.le_of_eq g196.symm)
  have K201 : Keep h0 h196 [o0] := K0.ext E196
  have Z202 : n0 ≤ h196.size := Nat.le_trans Z0 E196.1
  have f203 : own_Arv Z h196 w_w_o1_value_value .byte (1 : Int32) [(.int (49 : Int32))] (.int (0 : Int32)) := A_val.ext E196
  have f204 : Exa Z h196 o0 "com/example/perigo/perigo/engine/network/Node" := Exa.ext E196 E_o0
  have f205 : Fld Z h196 o0 "com/example/perigo/perigo/engine/network/Node" "events" "Lcom/example/perigo/perigo/engine/network/Timeline;" w_o0_events := Fld.ext E196 F_o0_events
  have f206 : Fld Z h196 o0 "com/example/perigo/perigo/engine/network/Node" "eventsByType" "Ljava/util/Map;" w_o0_eventsByType := Fld.ext E196 F_o0_eventsByType
  have f207 : Fld Z h196 o0 "com/example/perigo/perigo/engine/network/Node" "frauds" "Lcom/example/perigo/perigo/engine/network/Timeline;" w_o0_frauds := Fld.ext E196 F_o0_frauds
  have f208 : Fld Z h196 o0 "com/example/perigo/perigo/engine/network/Node" "knownSeconds" "[J" w_o0_knownSeconds := Fld.ext E196 F_o0_knownSeconds
  have f209 : Fld Z h196 o0 "com/example/perigo/perigo/engine/network/Node" "knownNanos" "[I" w_o0_knownNanos := Fld.ext E196 F_o0_knownNanos
  have f210 : Fld Z h196 o0 "com/example/perigo/perigo/engine/network/Node" "others" "[Lcom/example/perigo/perigo/engine/network/Node;" w_o0_others := Fld.ext E196 F_o0_others
  have f211 : Fld Z h196 o0 "com/example/perigo/perigo/engine/network/Node" "besideInTimeOrder" "Z" (.int w_o0_besideInTimeOrder) := Fld.ext E196 F_o0_besideInTimeOrder
  have f212 : Fld Z h196 o0 "com/example/perigo/perigo/engine/network/Node" "firstJoins" "Ljava/util/Map;" w_o0_firstJoins := Fld.ext E196 F_o0_firstJoins
  have f213 : Fld Z h196 o0 "com/example/perigo/perigo/engine/network/Node" "medium" "Lcom/example/perigo/perigo/engine/event/Medium;" w_o0_medium := Fld.ext E196 F_o0_medium
  have f214 : Fld Z h196 o0 "com/example/perigo/perigo/engine/network/Node" "valueKey" "J" (.long w_o0_valueKey) := Fld.ext E196 F_o0_valueKey
  have f215 : Fld Z h196 o0 "com/example/perigo/perigo/engine/network/Node" "reachedBy" "J" (.long w_o0_reachedBy) := Fld.ext E196 F_o0_reachedBy
  have f216 : Fld Z h196 o0 "com/example/perigo/perigo/engine/network/Node" "reachedWith" "I" (.int w_o0_reachedWith) := Fld.ext E196 F_o0_reachedWith
  have f217 : Fld Z h196 o1 "com/example/perigo/perigo/engine/event/Medium" "value" "Ljava/lang/String;" (.ref w_o1_value) := Fld.ext E196 F_o1_value
  have f218 : Exa Z h196 o1 "com/example/perigo/perigo/engine/event/Medium" := Exa.ext E196 E_o1
  have f219 : Fld Z h196 w_o1_value "java/lang/String" "value" "[B" (.ref w_w_o1_value_value) := Fld.ext E196 F_w_o1_value_value
  have f220 : Sta Z h196 "java/lang/String" "COMPACT_STRINGS" "Z" (.int w_s_COMPACT_STRINGS) := Sta.ext E196 S_COMPACT_STRINGS
  have f221 : Fld Z h196 w_o1_value "java/lang/String" "coder" "B" (.int (0 : Int32)) := Fld.ext E196 F_w_o1_value_coder
  have f222 : Exa Z h196 w_o1_value "java/lang/String" := Exa.ext E196 E_w_o1_value
  have f223 : Sta Z h196 "jdk/internal/util/Preconditions" "SIOOBE_FORMATTER" "Ljava/util/function/BiFunction;" w_s_SIOOBE_FORMATTER := Sta.ext E196 S_SIOOBE_FORMATTER
  have f224 : Fld Z h196 b196 "com/example/perigo/perigo/engine/network/Timeline" "numbers" "[I" .null := D196 (Or.inl (hw _ (List.mem_of_getElem? (i := 46) rfl))) (ty := (.array .int)) (by decide)
  have f225 : Fld Z h196 b196 "com/example/perigo/perigo/engine/network/Timeline" "seconds" "[J" .null := D196 (Or.inl (hw _ (List.mem_of_getElem? (i := 49) rfl))) (ty := (.array .long)) (by decide)
  have f226 : Fld Z h196 b196 "com/example/perigo/perigo/engine/network/Timeline" "nanos" "[I" .null := D196 (Or.inl (hw _ (List.mem_of_getElem? (i := 51) rfl))) (ty := (.array .int)) (by decide)
  have f227 : Fld Z h196 b196 "com/example/perigo/perigo/engine/network/Timeline" "tags" "[I" .null := D196 (Or.inl (hw _ (List.mem_of_getElem? (i := 53) rfl))) (ty := (.array .int)) (by decide)
  refine own_go st196 ?_
  refine own_go (S' := T196.setTop (mkF m 9 #[.val (.ref o0), .val (.ref o1), .unset, .unset, .unset, .unset] [(.ref b196), (.ref b196), (.ref o0)])) (fun t k => ?_) ?_
  · show Steps p.tables e below (T196.setTop (mkF m 8 #[.val (.ref o0), .val (.ref o1), .unset, .unset, .unset, .unset] [(.ref b196), (.ref o0)])) t
    refine XS.dup X196.here hx rfl (hb hby d4_8) rfl rfl ?_
    exact k
  obtain ⟨_, _, ⟨T228, L228, kk228, nn228⟩, -, X228, ⟨Lc228, hQ228, l228, y228, z228⟩, st228⟩ := X196.specialBack hx (y := (⟨"com/example/perigo/perigo/engine/network/Timeline", "<init>", "()V"⟩ : MethodName)) rfl hown (mvT hZ (hw _ (List.mem_of_getElem? (i := 40) rfl))) (mvT hZ (hw _ (List.mem_of_getElem? (i := 41) rfl))) (mvT hZ (hw _ (List.mem_of_getElem? (i := 42) rfl))) (by decide) (backOf (W := 2) (tlInit l Z a0 hw [] b196 (.null) (.null) (.null) (.null) h196 n0 Z202 A196 f224 f225 f226 f227 g_b196) hZ (hw _ (List.mem_of_getElem? (i := 42) rfl)) (hw _ (List.mem_of_getElem? (i := 39) rfl)) (by decide) (by decide)) (g := (mkF m 9 #[.val (.ref o0), .val (.ref o1), .unset, .unset, .unset, .unset] [(.ref b196), (.ref b196), (.ref o0)])) rfl (by rw [hml]; rfl) (Steps.refl _) (a := b196) (argsL := []) (rest := [(.ref b196), (.ref o0)]) (lenOf pd_48 rfl) rfl (by show 2 * 0 + _ ≤ _; exact Nat.le_of_eq rfl) (hb hby d4_9) (fun _ _ => ⟨rfl, e196, (by decide : 1 + 4 ≤ _), (by decide : 6 + 4 ≤ _)⟩)
  dsimp only [Pt.U, Pt.locs, Pt.cells, Pt.slots] at X228 l228 y228 z228 st228 hQ228
  subst l228 y228 z228
  obtain ⟨rfl, N229, K230, p231⟩ := hQ228
  have N232 := Fr.app N0 N229
  have f233 : own_Arv Z T228.heap w_w_o1_value_value .byte (1 : Int32) [(.int (49 : Int32))] (.int (0 : Int32)) := f203.keep K230 (ninS ne197 nin0)
  have f234 : Exa Z T228.heap o0 "com/example/perigo/perigo/engine/network/Node" := f204.keep K230
  have f235 : Fld Z T228.heap o0 "com/example/perigo/perigo/engine/network/Node" "events" "Lcom/example/perigo/perigo/engine/network/Timeline;" w_o0_events := f205.keep K230 (ninS ne198 nin0)
  have f236 : Fld Z T228.heap o0 "com/example/perigo/perigo/engine/network/Node" "eventsByType" "Ljava/util/Map;" w_o0_eventsByType := f206.keep K230 (ninS ne198 nin0)
  have f237 : Fld Z T228.heap o0 "com/example/perigo/perigo/engine/network/Node" "frauds" "Lcom/example/perigo/perigo/engine/network/Timeline;" w_o0_frauds := f207.keep K230 (ninS ne198 nin0)
  have f238 : Fld Z T228.heap o0 "com/example/perigo/perigo/engine/network/Node" "knownSeconds" "[J" w_o0_knownSeconds := f208.keep K230 (ninS ne198 nin0)
  have f239 : Fld Z T228.heap o0 "com/example/perigo/perigo/engine/network/Node" "knownNanos" "[I" w_o0_knownNanos := f209.keep K230 (ninS ne198 nin0)
  have f240 : Fld Z T228.heap o0 "com/example/perigo/perigo/engine/network/Node" "others" "[Lcom/example/perigo/perigo/engine/network/Node;" w_o0_others := f210.keep K230 (ninS ne198 nin0)
  have f241 : Fld Z T228.heap o0 "com/example/perigo/perigo/engine/network/Node" "besideInTimeOrder" "Z" (.int w_o0_besideInTimeOrder) := f211.keep K230 (ninS ne198 nin0)
  have f242 : Fld Z T228.heap o0 "com/example/perigo/perigo/engine/network/Node" "firstJoins" "Ljava/util/Map;" w_o0_firstJoins := f212.keep K230 (ninS ne198 nin0)
  have f243 : Fld Z T228.heap o0 "com/example/perigo/perigo/engine/network/Node" "medium" "Lcom/example/perigo/perigo/engine/event/Medium;" w_o0_medium := f213.keep K230 (ninS ne198 nin0)
  have f244 : Fld Z T228.heap o0 "com/example/perigo/perigo/engine/network/Node" "valueKey" "J" (.long w_o0_valueKey) := f214.keep K230 (ninS ne198 nin0)
  have f245 : Fld Z T228.heap o0 "com/example/perigo/perigo/engine/network/Node" "reachedBy" "J" (.long w_o0_reachedBy) := f215.keep K230 (ninS ne198 nin0)
  have f246 : Fld Z T228.heap o0 "com/example/perigo/perigo/engine/network/Node" "reachedWith" "I" (.int w_o0_reachedWith) := f216.keep K230 (ninS ne198 nin0)
  have f247 : Fld Z T228.heap o1 "com/example/perigo/perigo/engine/event/Medium" "value" "Ljava/lang/String;" (.ref w_o1_value) := f217.keep K230 (ninS ne199 nin0)
  have f248 : Exa Z T228.heap o1 "com/example/perigo/perigo/engine/event/Medium" := f218.keep K230
  have f249 : Fld Z T228.heap w_o1_value "java/lang/String" "value" "[B" (.ref w_w_o1_value_value) := f219.keep K230 (ninS ne200 nin0)
  have f250 : Sta Z T228.heap "java/lang/String" "COMPACT_STRINGS" "Z" (.int w_s_COMPACT_STRINGS) := own_sta_keep f220 K230 (allS (own_plain A196) all0)
  have f251 : Fld Z T228.heap w_o1_value "java/lang/String" "coder" "B" (.int (0 : Int32)) := f221.keep K230 (ninS ne200 nin0)
  have f252 : Exa Z T228.heap w_o1_value "java/lang/String" := f222.keep K230
  have f253 : Sta Z T228.heap "jdk/internal/util/Preconditions" "SIOOBE_FORMATTER" "Ljava/util/function/BiFunction;" w_s_SIOOBE_FORMATTER := own_sta_keep f223 K230 (allS (own_plain A196) all0)
  have f254 : Exa Z T228.heap b196 "com/example/perigo/perigo/engine/network/Timeline" := A196.keep K230
  have Z255 : n0 ≤ T228.heap.size := Nat.le_trans Z202 K230.1
  have K256 : Keep h0 T228.heap [o0] := K201.trans K230 (allS (Or.inr sz_b196) all0)
  refine own_goT st228 ?_
  obtain ⟨T257, h257, X257, e257, W257, st257⟩ := putF X228 hx hZ hown (host := "") (Or.inl (hw _ (List.mem_of_getElem? (i := 54) rfl))) Via.refl rfl f235 f234 (Or.inr ⟨(hw _ (List.mem_of_getElem? (i := 55) rfl)), rfl, hnm⟩) (hw _ (List.mem_of_getElem? (i := 1) rfl)) (ty := (.object "com/example/perigo/perigo/engine/network/Timeline")) (by decide) rfl rfl (g := (mkF m 12 #[.val (.ref o0), .val (.ref o1), .unset, .unset, .unset, .unset] [(.ref b196), (.ref o0)])) rfl rfl (hb hby d4_12)
  have f258 : own_Arv Z h257 w_w_o1_value_value .byte (1 : Int32) [(.int (49 : Int32))] (.int (0 : Int32)) := f233.other W257 (Ne.symm (own_neA f234 f233 (hw _ (List.mem_of_getElem? (i := 1) rfl))))
  have f259 : Exa Z h257 o0 "com/example/perigo/perigo/engine/network/Node" := f234.wr W257
  have f260 : Fld Z h257 o0 "com/example/perigo/perigo/engine/network/Node" "eventsByType" "Ljava/util/Map;" w_o0_eventsByType := f236.other W257 (Or.inr (slot_ne (Or.inr (hw _ (List.mem_of_getElem? (i := 73) rfl))) (Or.inr (hw _ (List.mem_of_getElem? (i := 55) rfl))) (by decide) (t := (.object "java/util/Map")) (t' := (.object "com/example/perigo/perigo/engine/network/Timeline")) (by decide) (by decide)))
  have f261 : Fld Z h257 o0 "com/example/perigo/perigo/engine/network/Node" "frauds" "Lcom/example/perigo/perigo/engine/network/Timeline;" w_o0_frauds := f237.other W257 (Or.inr (slot_ne (Or.inr (hw _ (List.mem_of_getElem? (i := 75) rfl))) (Or.inr (hw _ (List.mem_of_getElem? (i := 55) rfl))) (by decide) (t := (.object "com/example/perigo/perigo/engine/network/Timeline")) (t' := (.object "com/example/perigo/perigo/engine/network/Timeline")) (by decide) (by decide)))
  have f262 : Fld Z h257 o0 "com/example/perigo/perigo/engine/network/Node" "knownSeconds" "[J" w_o0_knownSeconds := f238.other W257 (Or.inr (slot_ne (Or.inl (hw _ (List.mem_of_getElem? (i := 77) rfl))) (Or.inr (hw _ (List.mem_of_getElem? (i := 55) rfl))) (by decide) (t := (.array .long)) (t' := (.object "com/example/perigo/perigo/engine/network/Timeline")) (by decide) (by decide)))
  have f263 : Fld Z h257 o0 "com/example/perigo/perigo/engine/network/Node" "knownNanos" "[I" w_o0_knownNanos := f239.other W257 (Or.inr (slot_ne (Or.inl (hw _ (List.mem_of_getElem? (i := 79) rfl))) (Or.inr (hw _ (List.mem_of_getElem? (i := 55) rfl))) (by decide) (t := (.array .int)) (t' := (.object "com/example/perigo/perigo/engine/network/Timeline")) (by decide) (by decide)))
  have f264 : Fld Z h257 o0 "com/example/perigo/perigo/engine/network/Node" "others" "[Lcom/example/perigo/perigo/engine/network/Node;" w_o0_others := f240.other W257 (Or.inr (slot_ne (Or.inl (hw _ (List.mem_of_getElem? (i := 83) rfl))) (Or.inr (hw _ (List.mem_of_getElem? (i := 55) rfl))) (by decide) (t := (.array (.object "com/example/perigo/perigo/engine/network/Node"))) (t' := (.object "com/example/perigo/perigo/engine/network/Timeline")) (by decide) (by decide)))
  have f265 : Fld Z h257 o0 "com/example/perigo/perigo/engine/network/Node" "besideInTimeOrder" "Z" (.int w_o0_besideInTimeOrder) := f241.other W257 (Or.inr (slot_ne (Or.inl (hw _ (List.mem_of_getElem? (i := 85) rfl))) (Or.inr (hw _ (List.mem_of_getElem? (i := 55) rfl))) (by decide) (t := .boolean) (t' := (.object "com/example/perigo/perigo/engine/network/Timeline")) (by decide) (by decide)))
  have f266 : Fld Z h257 o0 "com/example/perigo/perigo/engine/network/Node" "firstJoins" "Ljava/util/Map;" w_o0_firstJoins := f242.other W257 (Or.inr (slot_ne (Or.inr (hw _ (List.mem_of_getElem? (i := 87) rfl))) (Or.inr (hw _ (List.mem_of_getElem? (i := 55) rfl))) (by decide) (t := (.object "java/util/Map")) (t' := (.object "com/example/perigo/perigo/engine/network/Timeline")) (by decide) (by decide)))
  have f267 : Fld Z h257 o0 "com/example/perigo/perigo/engine/network/Node" "medium" "Lcom/example/perigo/perigo/engine/event/Medium;" w_o0_medium := f243.other W257 (Or.inr (slot_ne (Or.inr (hw _ (List.mem_of_getElem? (i := 89) rfl))) (Or.inr (hw _ (List.mem_of_getElem? (i := 55) rfl))) (by decide) (t := (.object "com/example/perigo/perigo/engine/event/Medium")) (t' := (.object "com/example/perigo/perigo/engine/network/Timeline")) (by decide) (by decide)))
  have f268 : Fld Z h257 o0 "com/example/perigo/perigo/engine/network/Node" "valueKey" "J" (.long w_o0_valueKey) := f244.other W257 (Or.inr (slot_ne (Or.inr (hw _ (List.mem_of_getElem? (i := 131) rfl))) (Or.inr (hw _ (List.mem_of_getElem? (i := 55) rfl))) (by decide) (t := .long) (t' := (.object "com/example/perigo/perigo/engine/network/Timeline")) (by decide) (by decide)))
  have f269 : Fld Z h257 o0 "com/example/perigo/perigo/engine/network/Node" "reachedBy" "J" (.long w_o0_reachedBy) := f245.other W257 (Or.inr (slot_ne (Or.inl (hw _ (List.mem_of_getElem? (i := 138) rfl))) (Or.inr (hw _ (List.mem_of_getElem? (i := 55) rfl))) (by decide) (t := .long) (t' := (.object "com/example/perigo/perigo/engine/network/Timeline")) (by decide) (by decide)))
  have f270 : Fld Z h257 o0 "com/example/perigo/perigo/engine/network/Node" "reachedWith" "I" (.int w_o0_reachedWith) := f246.other W257 (Or.inr (slot_ne (Or.inl (hw _ (List.mem_of_getElem? (i := 140) rfl))) (Or.inr (hw _ (List.mem_of_getElem? (i := 55) rfl))) (by decide) (t := .int) (t' := (.object "com/example/perigo/perigo/engine/network/Timeline")) (by decide) (by decide)))
  have f271 : Fld Z h257 o1 "com/example/perigo/perigo/engine/event/Medium" "value" "Ljava/lang/String;" (.ref w_o1_value) := f247.other W257 (Or.inl ne_o1_o0)
  have f272 : Exa Z h257 o1 "com/example/perigo/perigo/engine/event/Medium" := f248.wr W257
  have f273 : Fld Z h257 w_o1_value "java/lang/String" "value" "[B" (.ref w_w_o1_value_value) := f249.other W257 (Or.inl ne_w_o1_value_o0)
  have f274 : Sta Z h257 "java/lang/String" "COMPACT_STRINGS" "Z" (.int w_s_COMPACT_STRINGS) := f250.wr W257
  have f275 : Fld Z h257 w_o1_value "java/lang/String" "coder" "B" (.int (0 : Int32)) := f251.other W257 (Or.inl ne_w_o1_value_o0)
  have f276 : Exa Z h257 w_o1_value "java/lang/String" := f252.wr W257
  have f277 : Sta Z h257 "jdk/internal/util/Preconditions" "SIOOBE_FORMATTER" "Ljava/util/function/BiFunction;" w_s_SIOOBE_FORMATTER := f253.wr W257
  have f278 : Exa Z h257 b196 "com/example/perigo/perigo/engine/network/Timeline" := p231.wr W257
  have f279 : Fld Z h257 o0 "com/example/perigo/perigo/engine/network/Node" "events" "Lcom/example/perigo/perigo/engine/network/Timeline;" (.ref b196) := f235.same W257
  have N280 := Fr.snoc X257 N232 g_o0
  have Z281 : n0 ≤ h257.size := Nat.le_trans Z255 (Keep.of_wr W257).1
  have K282 : Keep h0 h257 [o0] := K256.wr W257 (Or.inl (List.mem_of_getElem? (i := 0) rfl))
  refine own_go st257 ?_
  refine own_go (S' := T257.setTop (mkF m 16 #[.val (.ref o0), .val (.ref o1), .unset, .unset, .unset, .unset] [(.ref o0)])) (fun t k => ?_) ?_
  · show Steps p.tables e below (T257.setTop (mkF m 15 #[.val (.ref o0), .val (.ref o1), .unset, .unset, .unset, .unset] [])) t
    refine XS.aloadN X257.here hx rfl (hb hby d4_15) rfl rfl ?_
    exact k
  obtain ⟨T283, h283, X283, e283, E283, A283, D283, -, st283⟩ := newO X257 hx hZ hown (hw _ (List.mem_of_getElem? (i := 56) rfl)) (hw _ (List.mem_of_getElem? (i := 57) rfl)) (hw _ (List.mem_of_getElem? (i := 58) rfl)) e257 (g := (mkF m 16 #[.val (.ref o0), .val (.ref o1), .unset, .unset, .unset, .unset] [(.ref o0)])) rfl (hb hby d4_16) (by decide) (by decide)
  obtain ⟨b283, g283⟩ : ∃ z, z = h257.size := ⟨_, rfl⟩
  rw [← g283] at A283 D283 st283
  have ne284 : w_w_o1_value_value ≠ b283 := Nat.ne_of_lt (Nat.lt_of_lt_of_le f258.lt (Nat.le_of_eq g283.symm))
  have ne285 : o0 ≠ b283 := Nat.ne_of_lt (Nat.lt_of_lt_of_le f259.lt (Nat.le_of_eq g283.symm))
  have ne286 : o1 ≠ b283 := Nat.ne_of_lt (Nat.lt_of_lt_of_le f271.lt (Nat.le_of_eq g283.symm))
  have ne287 : w_o1_value ≠ b283 := Nat.ne_of_lt (Nat.lt_of_lt_of_le f273.lt (Nat.le_of_eq g283.symm))
  have ne288 : b196 ≠ b283 := Nat.ne_of_lt (Nat.lt_of_lt_of_le f278.lt (Nat.le_of_eq g283.symm))
  have g_b283 : n0 ≤ b283 := Nat.le_trans Z281 (Nat.le_of_eq g283.symm)
  have sz_b283 : h0.size ≤ b283 := Nat.le_trans K282.1 (Nat.le_of_eq g283.symm)
  have K289 : Keep h0 h283 [o0] := K282.ext E283
  have Z290 : n0 ≤ h283.size := Nat.le_trans Z281 E283.1
  have f291 : own_Arv Z h283 w_w_o1_value_value .byte (1 : Int32) [(.int (49 : Int32))] (.int (0 : Int32)) := f258.ext E283
  have f292 : Exa Z h283 o0 "com/example/perigo/perigo/engine/network/Node" := Exa.ext E283 f259
  have f293 : Fld Z h283 o0 "com/example/perigo/perigo/engine/network/Node" "eventsByType" "Ljava/util/Map;" w_o0_eventsByType := Fld.ext E283 f260
  have f294 : Fld Z h283 o0 "com/example/perigo/perigo/engine/network/Node" "frauds" "Lcom/example/perigo/perigo/engine/network/Timeline;" w_o0_frauds := Fld.ext E283 f261
  have f295 : Fld Z h283 o0 "com/example/perigo/perigo/engine/network/Node" "knownSeconds" "[J" w_o0_knownSeconds := Fld.ext E283 f262
  have f296 : Fld Z h283 o0 "com/example/perigo/perigo/engine/network/Node" "knownNanos" "[I" w_o0_knownNanos := Fld.ext E283 f263
  have f297 : Fld Z h283 o0 "com/example/perigo/perigo/engine/network/Node" "others" "[Lcom/example/perigo/perigo/engine/network/Node;" w_o0_others := Fld.ext E283 f264
  have f298 : Fld Z h283 o0 "com/example/perigo/perigo/engine/network/Node" "besideInTimeOrder" "Z" (.int w_o0_besideInTimeOrder) := Fld.ext E283 f265
  have f299 : Fld Z h283 o0 "com/example/perigo/perigo/engine/network/Node" "firstJoins" "Ljava/util/Map;" w_o0_firstJoins := Fld.ext E283 f266
  have f300 : Fld Z h283 o0 "com/example/perigo/perigo/engine/network/Node" "medium" "Lcom/example/perigo/perigo/engine/event/Medium;" w_o0_medium := Fld.ext E283 f267
  have f301 : Fld Z h283 o0 "com/example/perigo/perigo/engine/network/Node" "valueKey" "J" (.long w_o0_valueKey) := Fld.ext E283 f268
  have f302 : Fld Z h283 o0 "com/example/perigo/perigo/engine/network/Node" "reachedBy" "J" (.long w_o0_reachedBy) := Fld.ext E283 f269
  have f303 : Fld Z h283 o0 "com/example/perigo/perigo/engine/network/Node" "reachedWith" "I" (.int w_o0_reachedWith) := Fld.ext E283 f270
  have f304 : Fld Z h283 o1 "com/example/perigo/perigo/engine/event/Medium" "value" "Ljava/lang/String;" (.ref w_o1_value) := Fld.ext E283 f271
  have f305 : Exa Z h283 o1 "com/example/perigo/perigo/engine/event/Medium" := Exa.ext E283 f272
  have f306 : Fld Z h283 w_o1_value "java/lang/String" "value" "[B" (.ref w_w_o1_value_value) := Fld.ext E283 f273
  have f307 : Sta Z h283 "java/lang/String" "COMPACT_STRINGS" "Z" (.int w_s_COMPACT_STRINGS) := Sta.ext E283 f274
  have f308 : Fld Z h283 w_o1_value "java/lang/String" "coder" "B" (.int (0 : Int32)) := Fld.ext E283 f275
  have f309 : Exa Z h283 w_o1_value "java/lang/String" := Exa.ext E283 f276
  have f310 : Sta Z h283 "jdk/internal/util/Preconditions" "SIOOBE_FORMATTER" "Ljava/util/function/BiFunction;" w_s_SIOOBE_FORMATTER := Sta.ext E283 f277
  have f311 : Exa Z h283 b196 "com/example/perigo/perigo/engine/network/Timeline" := Exa.ext E283 f278
  have f312 : Fld Z h283 o0 "com/example/perigo/perigo/engine/network/Node" "events" "Lcom/example/perigo/perigo/engine/network/Timeline;" (.ref b196) := Fld.ext E283 f279
  have f313 : Fld Z h283 b283 "java/util/HashMap" "loadFactor" "F" (.float (0 : UInt32)) := D283 (Or.inr (hw _ (List.mem_of_getElem? (i := 71) rfl))) (ty := .float) (by decide)
  refine own_go st283 ?_
  refine own_go (S' := T283.setTop (mkF m 20 #[.val (.ref o0), .val (.ref o1), .unset, .unset, .unset, .unset] [(.ref b283), (.ref b283), (.ref o0)])) (fun t k => ?_) ?_
  · show Steps p.tables e below (T283.setTop (mkF m 19 #[.val (.ref o0), .val (.ref o1), .unset, .unset, .unset, .unset] [(.ref b283), (.ref o0)])) t
    refine XS.dup X283.here hx rfl (hb hby d4_19) rfl rfl ?_
    exact k
  obtain ⟨_, _, ⟨T314, L314, kk314, nn314⟩, -, X314, ⟨Lc314, hQ314, l314, y314, z314⟩, st314⟩ := X283.specialBack hx (y := (⟨"java/util/HashMap", "<init>", "()V"⟩ : MethodName)) rfl hown (mvT hZ (hw _ (List.mem_of_getElem? (i := 59) rfl))) (mvT hZ (hw _ (List.mem_of_getElem? (i := 60) rfl))) (mvT hZ (hw _ (List.mem_of_getElem? (i := 61) rfl))) (by decide) (backOf (W := 2) (hmInit l Z a0 hw [] b283 (0 : UInt32) h283 n0 Z290 A283 f313 g_b283) hZ (hw _ (List.mem_of_getElem? (i := 61) rfl)) (hw _ (List.mem_of_getElem? (i := 58) rfl)) (by decide) (by decide)) (g := (mkF m 20 #[.val (.ref o0), .val (.ref o1), .unset, .unset, .unset, .unset] [(.ref b283), (.ref b283), (.ref o0)])) rfl (by rw [hml]; rfl) (Steps.refl _) (a := b283) (argsL := []) (rest := [(.ref b283), (.ref o0)]) (lenOf pd_48 rfl) rfl (by show 2 * 0 + _ ≤ _; exact Nat.le_of_eq rfl) (hb hby d4_20) (fun _ _ => ⟨rfl, e283, (by decide : 6 + 0 ≤ _), (by decide : 18 + 0 ≤ _)⟩)
  dsimp only [Pt.U, Pt.locs, Pt.cells, Pt.slots] at X314 l314 y314 z314 st314 hQ314
  subst l314 y314 z314
  obtain ⟨rfl, N315, K316, p317⟩ := hQ314
  have N318 := Fr.app N280 N315
  have f319 : own_Arv Z T314.heap w_w_o1_value_value .byte (1 : Int32) [(.int (49 : Int32))] (.int (0 : Int32)) := f291.keep K316 (ninS ne284 nin0)
  have f320 : Exa Z T314.heap o0 "com/example/perigo/perigo/engine/network/Node" := f292.keep K316
  have f321 : Fld Z T314.heap o0 "com/example/perigo/perigo/engine/network/Node" "eventsByType" "Ljava/util/Map;" w_o0_eventsByType := f293.keep K316 (ninS ne285 nin0)
  have f322 : Fld Z T314.heap o0 "com/example/perigo/perigo/engine/network/Node" "frauds" "Lcom/example/perigo/perigo/engine/network/Timeline;" w_o0_frauds := f294.keep K316 (ninS ne285 nin0)
  have f323 : Fld Z T314.heap o0 "com/example/perigo/perigo/engine/network/Node" "knownSeconds" "[J" w_o0_knownSeconds := f295.keep K316 (ninS ne285 nin0)
  have f324 : Fld Z T314.heap o0 "com/example/perigo/perigo/engine/network/Node" "knownNanos" "[I" w_o0_knownNanos := f296.keep K316 (ninS ne285 nin0)
  have f325 : Fld Z T314.heap o0 "com/example/perigo/perigo/engine/network/Node" "others" "[Lcom/example/perigo/perigo/engine/network/Node;" w_o0_others := f297.keep K316 (ninS ne285 nin0)
  have f326 : Fld Z T314.heap o0 "com/example/perigo/perigo/engine/network/Node" "besideInTimeOrder" "Z" (.int w_o0_besideInTimeOrder) := f298.keep K316 (ninS ne285 nin0)
  have f327 : Fld Z T314.heap o0 "com/example/perigo/perigo/engine/network/Node" "firstJoins" "Ljava/util/Map;" w_o0_firstJoins := f299.keep K316 (ninS ne285 nin0)
  have f328 : Fld Z T314.heap o0 "com/example/perigo/perigo/engine/network/Node" "medium" "Lcom/example/perigo/perigo/engine/event/Medium;" w_o0_medium := f300.keep K316 (ninS ne285 nin0)
  have f329 : Fld Z T314.heap o0 "com/example/perigo/perigo/engine/network/Node" "valueKey" "J" (.long w_o0_valueKey) := f301.keep K316 (ninS ne285 nin0)
  have f330 : Fld Z T314.heap o0 "com/example/perigo/perigo/engine/network/Node" "reachedBy" "J" (.long w_o0_reachedBy) := f302.keep K316 (ninS ne285 nin0)
  have f331 : Fld Z T314.heap o0 "com/example/perigo/perigo/engine/network/Node" "reachedWith" "I" (.int w_o0_reachedWith) := f303.keep K316 (ninS ne285 nin0)
  have f332 : Fld Z T314.heap o1 "com/example/perigo/perigo/engine/event/Medium" "value" "Ljava/lang/String;" (.ref w_o1_value) := f304.keep K316 (ninS ne286 nin0)
  have f333 : Exa Z T314.heap o1 "com/example/perigo/perigo/engine/event/Medium" := f305.keep K316
  have f334 : Fld Z T314.heap w_o1_value "java/lang/String" "value" "[B" (.ref w_w_o1_value_value) := f306.keep K316 (ninS ne287 nin0)
  have f335 : Sta Z T314.heap "java/lang/String" "COMPACT_STRINGS" "Z" (.int w_s_COMPACT_STRINGS) := own_sta_keep f307 K316 (allS (own_plain A283) all0)
  have f336 : Fld Z T314.heap w_o1_value "java/lang/String" "coder" "B" (.int (0 : Int32)) := f308.keep K316 (ninS ne287 nin0)
  have f337 : Exa Z T314.heap w_o1_value "java/lang/String" := f309.keep K316
  have f338 : Sta Z T314.heap "jdk/internal/util/Preconditions" "SIOOBE_FORMATTER" "Ljava/util/function/BiFunction;" w_s_SIOOBE_FORMATTER := own_sta_keep f310 K316 (allS (own_plain A283) all0)
  have f339 : Exa Z T314.heap b196 "com/example/perigo/perigo/engine/network/Timeline" := f311.keep K316
  have f340 : Fld Z T314.heap o0 "com/example/perigo/perigo/engine/network/Node" "events" "Lcom/example/perigo/perigo/engine/network/Timeline;" (.ref b196) := f312.keep K316 (ninS ne285 nin0)
  have f341 : Exa Z T314.heap b283 "java/util/HashMap" := A283.keep K316
  have Z342 : n0 ≤ T314.heap.size := Nat.le_trans Z290 K316.1
  have K343 : Keep h0 T314.heap [o0] := K289.trans K316 (allS (Or.inr sz_b283) all0)
  refine own_goT st314 ?_
  obtain ⟨T344, h344, X344, e344, W344, st344⟩ := putF X314 hx hZ hown (host := "") (Or.inl (hw _ (List.mem_of_getElem? (i := 72) rfl))) Via.refl rfl f321 f320 (Or.inr ⟨(hw _ (List.mem_of_getElem? (i := 73) rfl)), rfl, hnm⟩) (hw _ (List.mem_of_getElem? (i := 1) rfl)) (ty := (.object "java/util/Map")) (by decide) rfl rfl (g := (mkF m 23 #[.val (.ref o0), .val (.ref o1), .unset, .unset, .unset, .unset] [(.ref b283), (.ref o0)])) rfl rfl (hb hby d4_23)
  have f345 : own_Arv Z h344 w_w_o1_value_value .byte (1 : Int32) [(.int (49 : Int32))] (.int (0 : Int32)) := f319.other W344 (Ne.symm (own_neA f320 f319 (hw _ (List.mem_of_getElem? (i := 1) rfl))))
  have f346 : Exa Z h344 o0 "com/example/perigo/perigo/engine/network/Node" := f320.wr W344
  have f347 : Fld Z h344 o0 "com/example/perigo/perigo/engine/network/Node" "frauds" "Lcom/example/perigo/perigo/engine/network/Timeline;" w_o0_frauds := f322.other W344 (Or.inr (slot_ne (Or.inr (hw _ (List.mem_of_getElem? (i := 75) rfl))) (Or.inr (hw _ (List.mem_of_getElem? (i := 73) rfl))) (by decide) (t := (.object "com/example/perigo/perigo/engine/network/Timeline")) (t' := (.object "java/util/Map")) (by decide) (by decide)))
  have f348 : Fld Z h344 o0 "com/example/perigo/perigo/engine/network/Node" "knownSeconds" "[J" w_o0_knownSeconds := f323.other W344 (Or.inr (slot_ne (Or.inl (hw _ (List.mem_of_getElem? (i := 77) rfl))) (Or.inr (hw _ (List.mem_of_getElem? (i := 73) rfl))) (by decide) (t := (.array .long)) (t' := (.object "java/util/Map")) (by decide) (by decide)))
  have f349 : Fld Z h344 o0 "com/example/perigo/perigo/engine/network/Node" "knownNanos" "[I" w_o0_knownNanos := f324.other W344 (Or.inr (slot_ne (Or.inl (hw _ (List.mem_of_getElem? (i := 79) rfl))) (Or.inr (hw _ (List.mem_of_getElem? (i := 73) rfl))) (by decide) (t := (.array .int)) (t' := (.object "java/util/Map")) (by decide) (by decide)))
  have f350 : Fld Z h344 o0 "com/example/perigo/perigo/engine/network/Node" "others" "[Lcom/example/perigo/perigo/engine/network/Node;" w_o0_others := f325.other W344 (Or.inr (slot_ne (Or.inl (hw _ (List.mem_of_getElem? (i := 83) rfl))) (Or.inr (hw _ (List.mem_of_getElem? (i := 73) rfl))) (by decide) (t := (.array (.object "com/example/perigo/perigo/engine/network/Node"))) (t' := (.object "java/util/Map")) (by decide) (by decide)))
  have f351 : Fld Z h344 o0 "com/example/perigo/perigo/engine/network/Node" "besideInTimeOrder" "Z" (.int w_o0_besideInTimeOrder) := f326.other W344 (Or.inr (slot_ne (Or.inl (hw _ (List.mem_of_getElem? (i := 85) rfl))) (Or.inr (hw _ (List.mem_of_getElem? (i := 73) rfl))) (by decide) (t := .boolean) (t' := (.object "java/util/Map")) (by decide) (by decide)))
  have f352 : Fld Z h344 o0 "com/example/perigo/perigo/engine/network/Node" "firstJoins" "Ljava/util/Map;" w_o0_firstJoins := f327.other W344 (Or.inr (slot_ne (Or.inr (hw _ (List.mem_of_getElem? (i := 87) rfl))) (Or.inr (hw _ (List.mem_of_getElem? (i := 73) rfl))) (by decide) (t := (.object "java/util/Map")) (t' := (.object "java/util/Map")) (by decide) (by decide)))
  have f353 : Fld Z h344 o0 "com/example/perigo/perigo/engine/network/Node" "medium" "Lcom/example/perigo/perigo/engine/event/Medium;" w_o0_medium := f328.other W344 (Or.inr (slot_ne (Or.inr (hw _ (List.mem_of_getElem? (i := 89) rfl))) (Or.inr (hw _ (List.mem_of_getElem? (i := 73) rfl))) (by decide) (t := (.object "com/example/perigo/perigo/engine/event/Medium")) (t' := (.object "java/util/Map")) (by decide) (by decide)))
  have f354 : Fld Z h344 o0 "com/example/perigo/perigo/engine/network/Node" "valueKey" "J" (.long w_o0_valueKey) := f329.other W344 (Or.inr (slot_ne (Or.inr (hw _ (List.mem_of_getElem? (i := 131) rfl))) (Or.inr (hw _ (List.mem_of_getElem? (i := 73) rfl))) (by decide) (t := .long) (t' := (.object "java/util/Map")) (by decide) (by decide)))
  have f355 : Fld Z h344 o0 "com/example/perigo/perigo/engine/network/Node" "reachedBy" "J" (.long w_o0_reachedBy) := f330.other W344 (Or.inr (slot_ne (Or.inl (hw _ (List.mem_of_getElem? (i := 138) rfl))) (Or.inr (hw _ (List.mem_of_getElem? (i := 73) rfl))) (by decide) (t := .long) (t' := (.object "java/util/Map")) (by decide) (by decide)))
  have f356 : Fld Z h344 o0 "com/example/perigo/perigo/engine/network/Node" "reachedWith" "I" (.int w_o0_reachedWith) := f331.other W344 (Or.inr (slot_ne (Or.inl (hw _ (List.mem_of_getElem? (i := 140) rfl))) (Or.inr (hw _ (List.mem_of_getElem? (i := 73) rfl))) (by decide) (t := .int) (t' := (.object "java/util/Map")) (by decide) (by decide)))
  have f357 : Fld Z h344 o1 "com/example/perigo/perigo/engine/event/Medium" "value" "Ljava/lang/String;" (.ref w_o1_value) := f332.other W344 (Or.inl ne_o1_o0)
  have f358 : Exa Z h344 o1 "com/example/perigo/perigo/engine/event/Medium" := f333.wr W344
  have f359 : Fld Z h344 w_o1_value "java/lang/String" "value" "[B" (.ref w_w_o1_value_value) := f334.other W344 (Or.inl ne_w_o1_value_o0)
  have f360 : Sta Z h344 "java/lang/String" "COMPACT_STRINGS" "Z" (.int w_s_COMPACT_STRINGS) := f335.wr W344
  have f361 : Fld Z h344 w_o1_value "java/lang/String" "coder" "B" (.int (0 : Int32)) := f336.other W344 (Or.inl ne_w_o1_value_o0)
  have f362 : Exa Z h344 w_o1_value "java/lang/String" := f337.wr W344
  have f363 : Sta Z h344 "jdk/internal/util/Preconditions" "SIOOBE_FORMATTER" "Ljava/util/function/BiFunction;" w_s_SIOOBE_FORMATTER := f338.wr W344
  have f364 : Exa Z h344 b196 "com/example/perigo/perigo/engine/network/Timeline" := f339.wr W344
  have f365 : Fld Z h344 o0 "com/example/perigo/perigo/engine/network/Node" "events" "Lcom/example/perigo/perigo/engine/network/Timeline;" (.ref b196) := f340.other W344 (Or.inr (slot_ne (Or.inr (hw _ (List.mem_of_getElem? (i := 55) rfl))) (Or.inr (hw _ (List.mem_of_getElem? (i := 73) rfl))) (by decide) (t := (.object "com/example/perigo/perigo/engine/network/Timeline")) (t' := (.object "java/util/Map")) (by decide) (by decide)))
  have f366 : Exa Z h344 b283 "java/util/HashMap" := p317.wr W344
  have f367 : Fld Z h344 o0 "com/example/perigo/perigo/engine/network/Node" "eventsByType" "Ljava/util/Map;" (.ref b283) := f321.same W344
  have N368 := Fr.snoc X344 N318 g_o0
  have Z369 : n0 ≤ h344.size := Nat.le_trans Z342 (Keep.of_wr W344).1
  have K370 : Keep h0 h344 [o0] := K343.wr W344 (Or.inl (List.mem_of_getElem? (i := 0) rfl))
  refine own_go st344 ?_
  refine own_go (S' := T344.setTop (mkF m 27 #[.val (.ref o0), .val (.ref o1), .unset, .unset, .unset, .unset] [(.ref o0)])) (fun t k => ?_) ?_
  · show Steps p.tables e below (T344.setTop (mkF m 26 #[.val (.ref o0), .val (.ref o1), .unset, .unset, .unset, .unset] [])) t
    refine XS.aloadN X344.here hx rfl (hb hby d4_26) rfl rfl ?_
    exact k
  obtain ⟨T371, h371, X371, e371, E371, A371, D371, -, st371⟩ := newO X344 hx hZ hown (hw _ (List.mem_of_getElem? (i := 37) rfl)) (hw _ (List.mem_of_getElem? (i := 38) rfl)) (hw _ (List.mem_of_getElem? (i := 39) rfl)) e344 (g := (mkF m 27 #[.val (.ref o0), .val (.ref o1), .unset, .unset, .unset, .unset] [(.ref o0)])) rfl (hb hby d4_27) (by decide) (by decide)
  obtain ⟨b371, g371⟩ : ∃ z, z = h344.size := ⟨_, rfl⟩
  rw [← g371] at A371 D371 st371
  have ne372 : w_w_o1_value_value ≠ b371 := Nat.ne_of_lt (Nat.lt_of_lt_of_le f345.lt (Nat.le_of_eq g371.symm))
  have ne373 : o0 ≠ b371 := Nat.ne_of_lt (Nat.lt_of_lt_of_le f346.lt (Nat.le_of_eq g371.symm))
  have ne374 : o1 ≠ b371 := Nat.ne_of_lt (Nat.lt_of_lt_of_le f357.lt (Nat.le_of_eq g371.symm))
  have ne375 : w_o1_value ≠ b371 := Nat.ne_of_lt (Nat.lt_of_lt_of_le f359.lt (Nat.le_of_eq g371.symm))
  have ne376 : b196 ≠ b371 := Nat.ne_of_lt (Nat.lt_of_lt_of_le f364.lt (Nat.le_of_eq g371.symm))
  have ne377 : b283 ≠ b371 := Nat.ne_of_lt (Nat.lt_of_lt_of_le f366.lt (Nat.le_of_eq g371.symm))
  have g_b371 : n0 ≤ b371 := Nat.le_trans Z369 (Nat.le_of_eq g371.symm)
  have sz_b371 : h0.size ≤ b371 := Nat.le_trans K370.1 (Nat.le_of_eq g371.symm)
  have K378 : Keep h0 h371 [o0] := K370.ext E371
  have Z379 : n0 ≤ h371.size := Nat.le_trans Z369 E371.1
  have f380 : own_Arv Z h371 w_w_o1_value_value .byte (1 : Int32) [(.int (49 : Int32))] (.int (0 : Int32)) := f345.ext E371
  have f381 : Exa Z h371 o0 "com/example/perigo/perigo/engine/network/Node" := Exa.ext E371 f346
  have f382 : Fld Z h371 o0 "com/example/perigo/perigo/engine/network/Node" "frauds" "Lcom/example/perigo/perigo/engine/network/Timeline;" w_o0_frauds := Fld.ext E371 f347
  have f383 : Fld Z h371 o0 "com/example/perigo/perigo/engine/network/Node" "knownSeconds" "[J" w_o0_knownSeconds := Fld.ext E371 f348
  have f384 : Fld Z h371 o0 "com/example/perigo/perigo/engine/network/Node" "knownNanos" "[I" w_o0_knownNanos := Fld.ext E371 f349
  have f385 : Fld Z h371 o0 "com/example/perigo/perigo/engine/network/Node" "others" "[Lcom/example/perigo/perigo/engine/network/Node;" w_o0_others := Fld.ext E371 f350
  have f386 : Fld Z h371 o0 "com/example/perigo/perigo/engine/network/Node" "besideInTimeOrder" "Z" (.int w_o0_besideInTimeOrder) := Fld.ext E371 f351
  have f387 : Fld Z h371 o0 "com/example/perigo/perigo/engine/network/Node" "firstJoins" "Ljava/util/Map;" w_o0_firstJoins := Fld.ext E371 f352
  have f388 : Fld Z h371 o0 "com/example/perigo/perigo/engine/network/Node" "medium" "Lcom/example/perigo/perigo/engine/event/Medium;" w_o0_medium := Fld.ext E371 f353
  have f389 : Fld Z h371 o0 "com/example/perigo/perigo/engine/network/Node" "valueKey" "J" (.long w_o0_valueKey) := Fld.ext E371 f354
  have f390 : Fld Z h371 o0 "com/example/perigo/perigo/engine/network/Node" "reachedBy" "J" (.long w_o0_reachedBy) := Fld.ext E371 f355
  have f391 : Fld Z h371 o0 "com/example/perigo/perigo/engine/network/Node" "reachedWith" "I" (.int w_o0_reachedWith) := Fld.ext E371 f356
  have f392 : Fld Z h371 o1 "com/example/perigo/perigo/engine/event/Medium" "value" "Ljava/lang/String;" (.ref w_o1_value) := Fld.ext E371 f357
  have f393 : Exa Z h371 o1 "com/example/perigo/perigo/engine/event/Medium" := Exa.ext E371 f358
  have f394 : Fld Z h371 w_o1_value "java/lang/String" "value" "[B" (.ref w_w_o1_value_value) := Fld.ext E371 f359
  have f395 : Sta Z h371 "java/lang/String" "COMPACT_STRINGS" "Z" (.int w_s_COMPACT_STRINGS) := Sta.ext E371 f360
  have f396 : Fld Z h371 w_o1_value "java/lang/String" "coder" "B" (.int (0 : Int32)) := Fld.ext E371 f361
  have f397 : Exa Z h371 w_o1_value "java/lang/String" := Exa.ext E371 f362
  have f398 : Sta Z h371 "jdk/internal/util/Preconditions" "SIOOBE_FORMATTER" "Ljava/util/function/BiFunction;" w_s_SIOOBE_FORMATTER := Sta.ext E371 f363
  have f399 : Exa Z h371 b196 "com/example/perigo/perigo/engine/network/Timeline" := Exa.ext E371 f364
  have f400 : Fld Z h371 o0 "com/example/perigo/perigo/engine/network/Node" "events" "Lcom/example/perigo/perigo/engine/network/Timeline;" (.ref b196) := Fld.ext E371 f365
  have f401 : Exa Z h371 b283 "java/util/HashMap" := Exa.ext E371 f366
  have f402 : Fld Z h371 o0 "com/example/perigo/perigo/engine/network/Node" "eventsByType" "Ljava/util/Map;" (.ref b283) := Fld.ext E371 f367
  have f403 : Fld Z h371 b371 "com/example/perigo/perigo/engine/network/Timeline" "numbers" "[I" .null := D371 (Or.inl (hw _ (List.mem_of_getElem? (i := 46) rfl))) (ty := (.array .int)) (by decide)
  have f404 : Fld Z h371 b371 "com/example/perigo/perigo/engine/network/Timeline" "seconds" "[J" .null := D371 (Or.inl (hw _ (List.mem_of_getElem? (i := 49) rfl))) (ty := (.array .long)) (by decide)
  have f405 : Fld Z h371 b371 "com/example/perigo/perigo/engine/network/Timeline" "nanos" "[I" .null := D371 (Or.inl (hw _ (List.mem_of_getElem? (i := 51) rfl))) (ty := (.array .int)) (by decide)
  have f406 : Fld Z h371 b371 "com/example/perigo/perigo/engine/network/Timeline" "tags" "[I" .null := D371 (Or.inl (hw _ (List.mem_of_getElem? (i := 53) rfl))) (ty := (.array .int)) (by decide)
  refine own_go st371 ?_
  refine own_go (S' := T371.setTop (mkF m 31 #[.val (.ref o0), .val (.ref o1), .unset, .unset, .unset, .unset] [(.ref b371), (.ref b371), (.ref o0)])) (fun t k => ?_) ?_
  · show Steps p.tables e below (T371.setTop (mkF m 30 #[.val (.ref o0), .val (.ref o1), .unset, .unset, .unset, .unset] [(.ref b371), (.ref o0)])) t
    refine XS.dup X371.here hx rfl (hb hby d4_30) rfl rfl ?_
    exact k
  obtain ⟨_, _, ⟨T407, L407, kk407, nn407⟩, -, X407, ⟨Lc407, hQ407, l407, y407, z407⟩, st407⟩ := X371.specialBack hx (y := (⟨"com/example/perigo/perigo/engine/network/Timeline", "<init>", "()V"⟩ : MethodName)) rfl hown (mvT hZ (hw _ (List.mem_of_getElem? (i := 40) rfl))) (mvT hZ (hw _ (List.mem_of_getElem? (i := 41) rfl))) (mvT hZ (hw _ (List.mem_of_getElem? (i := 42) rfl))) (by decide) (backOf (W := 2) (tlInit l Z a0 hw [] b371 (.null) (.null) (.null) (.null) h371 n0 Z379 A371 f403 f404 f405 f406 g_b371) hZ (hw _ (List.mem_of_getElem? (i := 42) rfl)) (hw _ (List.mem_of_getElem? (i := 39) rfl)) (by decide) (by decide)) (g := (mkF m 31 #[.val (.ref o0), .val (.ref o1), .unset, .unset, .unset, .unset] [(.ref b371), (.ref b371), (.ref o0)])) rfl (by rw [hml]; rfl) (Steps.refl _) (a := b371) (argsL := []) (rest := [(.ref b371), (.ref o0)]) (lenOf pd_48 rfl) rfl (by show 2 * 0 + _ ≤ _; exact Nat.le_of_eq rfl) (hb hby d4_31) (fun _ _ => ⟨rfl, e371, (by decide : 7 + 4 ≤ _), (by decide : 24 + 4 ≤ _)⟩)
  dsimp only [Pt.U, Pt.locs, Pt.cells, Pt.slots] at X407 l407 y407 z407 st407 hQ407
  subst l407 y407 z407
  obtain ⟨rfl, N408, K409, p410⟩ := hQ407
  have N411 := Fr.app N368 N408
  have f412 : own_Arv Z T407.heap w_w_o1_value_value .byte (1 : Int32) [(.int (49 : Int32))] (.int (0 : Int32)) := f380.keep K409 (ninS ne372 nin0)
  have f413 : Exa Z T407.heap o0 "com/example/perigo/perigo/engine/network/Node" := f381.keep K409
  have f414 : Fld Z T407.heap o0 "com/example/perigo/perigo/engine/network/Node" "frauds" "Lcom/example/perigo/perigo/engine/network/Timeline;" w_o0_frauds := f382.keep K409 (ninS ne373 nin0)
  have f415 : Fld Z T407.heap o0 "com/example/perigo/perigo/engine/network/Node" "knownSeconds" "[J" w_o0_knownSeconds := f383.keep K409 (ninS ne373 nin0)
  have f416 : Fld Z T407.heap o0 "com/example/perigo/perigo/engine/network/Node" "knownNanos" "[I" w_o0_knownNanos := f384.keep K409 (ninS ne373 nin0)
  have f417 : Fld Z T407.heap o0 "com/example/perigo/perigo/engine/network/Node" "others" "[Lcom/example/perigo/perigo/engine/network/Node;" w_o0_others := f385.keep K409 (ninS ne373 nin0)
  have f418 : Fld Z T407.heap o0 "com/example/perigo/perigo/engine/network/Node" "besideInTimeOrder" "Z" (.int w_o0_besideInTimeOrder) := f386.keep K409 (ninS ne373 nin0)
  have f419 : Fld Z T407.heap o0 "com/example/perigo/perigo/engine/network/Node" "firstJoins" "Ljava/util/Map;" w_o0_firstJoins := f387.keep K409 (ninS ne373 nin0)
  have f420 : Fld Z T407.heap o0 "com/example/perigo/perigo/engine/network/Node" "medium" "Lcom/example/perigo/perigo/engine/event/Medium;" w_o0_medium := f388.keep K409 (ninS ne373 nin0)
  have f421 : Fld Z T407.heap o0 "com/example/perigo/perigo/engine/network/Node" "valueKey" "J" (.long w_o0_valueKey) := f389.keep K409 (ninS ne373 nin0)
  have f422 : Fld Z T407.heap o0 "com/example/perigo/perigo/engine/network/Node" "reachedBy" "J" (.long w_o0_reachedBy) := f390.keep K409 (ninS ne373 nin0)
  have f423 : Fld Z T407.heap o0 "com/example/perigo/perigo/engine/network/Node" "reachedWith" "I" (.int w_o0_reachedWith) := f391.keep K409 (ninS ne373 nin0)
  have f424 : Fld Z T407.heap o1 "com/example/perigo/perigo/engine/event/Medium" "value" "Ljava/lang/String;" (.ref w_o1_value) := f392.keep K409 (ninS ne374 nin0)
  have f425 : Exa Z T407.heap o1 "com/example/perigo/perigo/engine/event/Medium" := f393.keep K409
  have f426 : Fld Z T407.heap w_o1_value "java/lang/String" "value" "[B" (.ref w_w_o1_value_value) := f394.keep K409 (ninS ne375 nin0)
  have f427 : Sta Z T407.heap "java/lang/String" "COMPACT_STRINGS" "Z" (.int w_s_COMPACT_STRINGS) := own_sta_keep f395 K409 (allS (own_plain A371) all0)
  have f428 : Fld Z T407.heap w_o1_value "java/lang/String" "coder" "B" (.int (0 : Int32)) := f396.keep K409 (ninS ne375 nin0)
  have f429 : Exa Z T407.heap w_o1_value "java/lang/String" := f397.keep K409
  have f430 : Sta Z T407.heap "jdk/internal/util/Preconditions" "SIOOBE_FORMATTER" "Ljava/util/function/BiFunction;" w_s_SIOOBE_FORMATTER := own_sta_keep f398 K409 (allS (own_plain A371) all0)
  have f431 : Exa Z T407.heap b196 "com/example/perigo/perigo/engine/network/Timeline" := f399.keep K409
  have f432 : Fld Z T407.heap o0 "com/example/perigo/perigo/engine/network/Node" "events" "Lcom/example/perigo/perigo/engine/network/Timeline;" (.ref b196) := f400.keep K409 (ninS ne373 nin0)
  have f433 : Exa Z T407.heap b283 "java/util/HashMap" := f401.keep K409
  have f434 : Fld Z T407.heap o0 "com/example/perigo/perigo/engine/network/Node" "eventsByType" "Ljava/util/Map;" (.ref b283) := f402.keep K409 (ninS ne373 nin0)
  have f435 : Exa Z T407.heap b371 "com/example/perigo/perigo/engine/network/Timeline" := A371.keep K409
  have Z436 : n0 ≤ T407.heap.size := Nat.le_trans Z379 K409.1
  have K437 : Keep h0 T407.heap [o0] := K378.trans K409 (allS (Or.inr sz_b371) all0)
  refine own_goT st407 ?_
  obtain ⟨T438, h438, X438, e438, W438, st438⟩ := putF X407 hx hZ hown (host := "") (Or.inl (hw _ (List.mem_of_getElem? (i := 74) rfl))) Via.refl rfl f414 f413 (Or.inr ⟨(hw _ (List.mem_of_getElem? (i := 75) rfl)), rfl, hnm⟩) (hw _ (List.mem_of_getElem? (i := 1) rfl)) (ty := (.object "com/example/perigo/perigo/engine/network/Timeline")) (by decide) rfl rfl (g := (mkF m 34 #[.val (.ref o0), .val (.ref o1), .unset, .unset, .unset, .unset] [(.ref b371), (.ref o0)])) rfl rfl (hb hby d4_34)
  have f439 : own_Arv Z h438 w_w_o1_value_value .byte (1 : Int32) [(.int (49 : Int32))] (.int (0 : Int32)) := f412.other W438 (Ne.symm (own_neA f413 f412 (hw _ (List.mem_of_getElem? (i := 1) rfl))))
  have f440 : Exa Z h438 o0 "com/example/perigo/perigo/engine/network/Node" := f413.wr W438
  have f441 : Fld Z h438 o0 "com/example/perigo/perigo/engine/network/Node" "knownSeconds" "[J" w_o0_knownSeconds := f415.other W438 (Or.inr (slot_ne (Or.inl (hw _ (List.mem_of_getElem? (i := 77) rfl))) (Or.inr (hw _ (List.mem_of_getElem? (i := 75) rfl))) (by decide) (t := (.array .long)) (t' := (.object "com/example/perigo/perigo/engine/network/Timeline")) (by decide) (by decide)))
  have f442 : Fld Z h438 o0 "com/example/perigo/perigo/engine/network/Node" "knownNanos" "[I" w_o0_knownNanos := f416.other W438 (Or.inr (slot_ne (Or.inl (hw _ (List.mem_of_getElem? (i := 79) rfl))) (Or.inr (hw _ (List.mem_of_getElem? (i := 75) rfl))) (by decide) (t := (.array .int)) (t' := (.object "com/example/perigo/perigo/engine/network/Timeline")) (by decide) (by decide)))
  have f443 : Fld Z h438 o0 "com/example/perigo/perigo/engine/network/Node" "others" "[Lcom/example/perigo/perigo/engine/network/Node;" w_o0_others := f417.other W438 (Or.inr (slot_ne (Or.inl (hw _ (List.mem_of_getElem? (i := 83) rfl))) (Or.inr (hw _ (List.mem_of_getElem? (i := 75) rfl))) (by decide) (t := (.array (.object "com/example/perigo/perigo/engine/network/Node"))) (t' := (.object "com/example/perigo/perigo/engine/network/Timeline")) (by decide) (by decide)))
  have f444 : Fld Z h438 o0 "com/example/perigo/perigo/engine/network/Node" "besideInTimeOrder" "Z" (.int w_o0_besideInTimeOrder) := f418.other W438 (Or.inr (slot_ne (Or.inl (hw _ (List.mem_of_getElem? (i := 85) rfl))) (Or.inr (hw _ (List.mem_of_getElem? (i := 75) rfl))) (by decide) (t := .boolean) (t' := (.object "com/example/perigo/perigo/engine/network/Timeline")) (by decide) (by decide)))
  have f445 : Fld Z h438 o0 "com/example/perigo/perigo/engine/network/Node" "firstJoins" "Ljava/util/Map;" w_o0_firstJoins := f419.other W438 (Or.inr (slot_ne (Or.inr (hw _ (List.mem_of_getElem? (i := 87) rfl))) (Or.inr (hw _ (List.mem_of_getElem? (i := 75) rfl))) (by decide) (t := (.object "java/util/Map")) (t' := (.object "com/example/perigo/perigo/engine/network/Timeline")) (by decide) (by decide)))
  have f446 : Fld Z h438 o0 "com/example/perigo/perigo/engine/network/Node" "medium" "Lcom/example/perigo/perigo/engine/event/Medium;" w_o0_medium := f420.other W438 (Or.inr (slot_ne (Or.inr (hw _ (List.mem_of_getElem? (i := 89) rfl))) (Or.inr (hw _ (List.mem_of_getElem? (i := 75) rfl))) (by decide) (t := (.object "com/example/perigo/perigo/engine/event/Medium")) (t' := (.object "com/example/perigo/perigo/engine/network/Timeline")) (by decide) (by decide)))
  have f447 : Fld Z h438 o0 "com/example/perigo/perigo/engine/network/Node" "valueKey" "J" (.long w_o0_valueKey) := f421.other W438 (Or.inr (slot_ne (Or.inr (hw _ (List.mem_of_getElem? (i := 131) rfl))) (Or.inr (hw _ (List.mem_of_getElem? (i := 75) rfl))) (by decide) (t := .long) (t' := (.object "com/example/perigo/perigo/engine/network/Timeline")) (by decide) (by decide)))
  have f448 : Fld Z h438 o0 "com/example/perigo/perigo/engine/network/Node" "reachedBy" "J" (.long w_o0_reachedBy) := f422.other W438 (Or.inr (slot_ne (Or.inl (hw _ (List.mem_of_getElem? (i := 138) rfl))) (Or.inr (hw _ (List.mem_of_getElem? (i := 75) rfl))) (by decide) (t := .long) (t' := (.object "com/example/perigo/perigo/engine/network/Timeline")) (by decide) (by decide)))
  have f449 : Fld Z h438 o0 "com/example/perigo/perigo/engine/network/Node" "reachedWith" "I" (.int w_o0_reachedWith) := f423.other W438 (Or.inr (slot_ne (Or.inl (hw _ (List.mem_of_getElem? (i := 140) rfl))) (Or.inr (hw _ (List.mem_of_getElem? (i := 75) rfl))) (by decide) (t := .int) (t' := (.object "com/example/perigo/perigo/engine/network/Timeline")) (by decide) (by decide)))
  have f450 : Fld Z h438 o1 "com/example/perigo/perigo/engine/event/Medium" "value" "Ljava/lang/String;" (.ref w_o1_value) := f424.other W438 (Or.inl ne_o1_o0)
  have f451 : Exa Z h438 o1 "com/example/perigo/perigo/engine/event/Medium" := f425.wr W438
  have f452 : Fld Z h438 w_o1_value "java/lang/String" "value" "[B" (.ref w_w_o1_value_value) := f426.other W438 (Or.inl ne_w_o1_value_o0)
  have f453 : Sta Z h438 "java/lang/String" "COMPACT_STRINGS" "Z" (.int w_s_COMPACT_STRINGS) := f427.wr W438
  have f454 : Fld Z h438 w_o1_value "java/lang/String" "coder" "B" (.int (0 : Int32)) := f428.other W438 (Or.inl ne_w_o1_value_o0)
  have f455 : Exa Z h438 w_o1_value "java/lang/String" := f429.wr W438
  have f456 : Sta Z h438 "jdk/internal/util/Preconditions" "SIOOBE_FORMATTER" "Ljava/util/function/BiFunction;" w_s_SIOOBE_FORMATTER := f430.wr W438
  have f457 : Exa Z h438 b196 "com/example/perigo/perigo/engine/network/Timeline" := f431.wr W438
  have f458 : Fld Z h438 o0 "com/example/perigo/perigo/engine/network/Node" "events" "Lcom/example/perigo/perigo/engine/network/Timeline;" (.ref b196) := f432.other W438 (Or.inr (slot_ne (Or.inr (hw _ (List.mem_of_getElem? (i := 55) rfl))) (Or.inr (hw _ (List.mem_of_getElem? (i := 75) rfl))) (by decide) (t := (.object "com/example/perigo/perigo/engine/network/Timeline")) (t' := (.object "com/example/perigo/perigo/engine/network/Timeline")) (by decide) (by decide)))
  have f459 : Exa Z h438 b283 "java/util/HashMap" := f433.wr W438
  have f460 : Fld Z h438 o0 "com/example/perigo/perigo/engine/network/Node" "eventsByType" "Ljava/util/Map;" (.ref b283) := f434.other W438 (Or.inr (slot_ne (Or.inr (hw _ (List.mem_of_getElem? (i := 73) rfl))) (Or.inr (hw _ (List.mem_of_getElem? (i := 75) rfl))) (by decide) (t := (.object "java/util/Map")) (t' := (.object "com/example/perigo/perigo/engine/network/Timeline")) (by decide) (by decide)))
  have f461 : Exa Z h438 b371 "com/example/perigo/perigo/engine/network/Timeline" := p410.wr W438
  have f462 : Fld Z h438 o0 "com/example/perigo/perigo/engine/network/Node" "frauds" "Lcom/example/perigo/perigo/engine/network/Timeline;" (.ref b371) := f414.same W438
  have N463 := Fr.snoc X438 N411 g_o0
  have Z464 : n0 ≤ h438.size := Nat.le_trans Z436 (Keep.of_wr W438).1
  have K465 : Keep h0 h438 [o0] := K437.wr W438 (Or.inl (List.mem_of_getElem? (i := 0) rfl))
  refine own_go st438 ?_
  refine own_go (S' := T438.setTop (mkF m 39 #[.val (.ref o0), .val (.ref o1), .unset, .unset, .unset, .unset] [(.int (1 : Int32)), (.ref o0)])) (fun t k => ?_) ?_
  · show Steps p.tables e below (T438.setTop (mkF m 37 #[.val (.ref o0), .val (.ref o1), .unset, .unset, .unset, .unset] [])) t
    refine XS.aloadN X438.here hx rfl (hb hby d4_37) rfl rfl ?_
    show Steps p.tables e below (T438.setTop (mkF m 38 #[.val (.ref o0), .val (.ref o1), .unset, .unset, .unset, .unset] [(.ref o0)])) t
    refine XS.iconst X438.here hx rfl (hb hby d4_38) ?_
    exact k
  obtain ⟨T466, h466, k466, X466, e466, E466, A466, st466⟩ := newP X438 hx hZ (hw _ (List.mem_of_getElem? (i := 47) rfl)) e438 (g := (mkF m 39 #[.val (.ref o0), .val (.ref o1), .unset, .unset, .unset, .unset] [(.int (1 : Int32)), (.ref o0)])) rfl (hb hby d4_39) rfl (by decide) (cap := 1) (by decide) (by decide) (by decide) (by decide)
  obtain ⟨b466, g466⟩ : ∃ z, z = h438.size := ⟨_, rfl⟩
  rw [← g466] at A466 st466
  have ne467 : w_w_o1_value_value ≠ b466 := Nat.ne_of_lt (Nat.lt_of_lt_of_le f439.lt (Nat.le_of_eq g466.symm))
  have ne468 : o0 ≠ b466 := Nat.ne_of_lt (Nat.lt_of_lt_of_le f440.lt (Nat.le_of_eq g466.symm))
  have ne469 : o1 ≠ b466 := Nat.ne_of_lt (Nat.lt_of_lt_of_le f450.lt (Nat.le_of_eq g466.symm))
  have ne470 : w_o1_value ≠ b466 := Nat.ne_of_lt (Nat.lt_of_lt_of_le f452.lt (Nat.le_of_eq g466.symm))
  have ne471 : b196 ≠ b466 := Nat.ne_of_lt (Nat.lt_of_lt_of_le f457.lt (Nat.le_of_eq g466.symm))
  have ne472 : b283 ≠ b466 := Nat.ne_of_lt (Nat.lt_of_lt_of_le f459.lt (Nat.le_of_eq g466.symm))
  have ne473 : b371 ≠ b466 := Nat.ne_of_lt (Nat.lt_of_lt_of_le f461.lt (Nat.le_of_eq g466.symm))
  have g_b466 : n0 ≤ b466 := Nat.le_trans Z464 (Nat.le_of_eq g466.symm)
  have sz_b466 : h0.size ≤ b466 := Nat.le_trans K465.1 (Nat.le_of_eq g466.symm)
  have K474 : Keep h0 h466 [o0] := K465.ext E466
  have Z475 : n0 ≤ h466.size := Nat.le_trans Z464 E466.1
  have f476 : own_Arv Z h466 w_w_o1_value_value .byte (1 : Int32) [(.int (49 : Int32))] (.int (0 : Int32)) := f439.ext E466
  have f477 : Exa Z h466 o0 "com/example/perigo/perigo/engine/network/Node" := Exa.ext E466 f440
  have f478 : Fld Z h466 o0 "com/example/perigo/perigo/engine/network/Node" "knownSeconds" "[J" w_o0_knownSeconds := Fld.ext E466 f441
  have f479 : Fld Z h466 o0 "com/example/perigo/perigo/engine/network/Node" "knownNanos" "[I" w_o0_knownNanos := Fld.ext E466 f442
  have f480 : Fld Z h466 o0 "com/example/perigo/perigo/engine/network/Node" "others" "[Lcom/example/perigo/perigo/engine/network/Node;" w_o0_others := Fld.ext E466 f443
  have f481 : Fld Z h466 o0 "com/example/perigo/perigo/engine/network/Node" "besideInTimeOrder" "Z" (.int w_o0_besideInTimeOrder) := Fld.ext E466 f444
  have f482 : Fld Z h466 o0 "com/example/perigo/perigo/engine/network/Node" "firstJoins" "Ljava/util/Map;" w_o0_firstJoins := Fld.ext E466 f445
  have f483 : Fld Z h466 o0 "com/example/perigo/perigo/engine/network/Node" "medium" "Lcom/example/perigo/perigo/engine/event/Medium;" w_o0_medium := Fld.ext E466 f446
  have f484 : Fld Z h466 o0 "com/example/perigo/perigo/engine/network/Node" "valueKey" "J" (.long w_o0_valueKey) := Fld.ext E466 f447
  have f485 : Fld Z h466 o0 "com/example/perigo/perigo/engine/network/Node" "reachedBy" "J" (.long w_o0_reachedBy) := Fld.ext E466 f448
  have f486 : Fld Z h466 o0 "com/example/perigo/perigo/engine/network/Node" "reachedWith" "I" (.int w_o0_reachedWith) := Fld.ext E466 f449
  have f487 : Fld Z h466 o1 "com/example/perigo/perigo/engine/event/Medium" "value" "Ljava/lang/String;" (.ref w_o1_value) := Fld.ext E466 f450
  have f488 : Exa Z h466 o1 "com/example/perigo/perigo/engine/event/Medium" := Exa.ext E466 f451
  have f489 : Fld Z h466 w_o1_value "java/lang/String" "value" "[B" (.ref w_w_o1_value_value) := Fld.ext E466 f452
  have f490 : Sta Z h466 "java/lang/String" "COMPACT_STRINGS" "Z" (.int w_s_COMPACT_STRINGS) := Sta.ext E466 f453
  have f491 : Fld Z h466 w_o1_value "java/lang/String" "coder" "B" (.int (0 : Int32)) := Fld.ext E466 f454
  have f492 : Exa Z h466 w_o1_value "java/lang/String" := Exa.ext E466 f455
  have f493 : Sta Z h466 "jdk/internal/util/Preconditions" "SIOOBE_FORMATTER" "Ljava/util/function/BiFunction;" w_s_SIOOBE_FORMATTER := Sta.ext E466 f456
  have f494 : Exa Z h466 b196 "com/example/perigo/perigo/engine/network/Timeline" := Exa.ext E466 f457
  have f495 : Fld Z h466 o0 "com/example/perigo/perigo/engine/network/Node" "events" "Lcom/example/perigo/perigo/engine/network/Timeline;" (.ref b196) := Fld.ext E466 f458
  have f496 : Exa Z h466 b283 "java/util/HashMap" := Exa.ext E466 f459
  have f497 : Fld Z h466 o0 "com/example/perigo/perigo/engine/network/Node" "eventsByType" "Ljava/util/Map;" (.ref b283) := Fld.ext E466 f460
  have f498 : Exa Z h466 b371 "com/example/perigo/perigo/engine/network/Timeline" := Exa.ext E466 f461
  have f499 : Fld Z h466 o0 "com/example/perigo/perigo/engine/network/Node" "frauds" "Lcom/example/perigo/perigo/engine/network/Timeline;" (.ref b371) := Fld.ext E466 f462
  have v500 : own_Arv Z h466 b466 .long (1 : Int32) [(.long (0 : Int64))] (.long (0 : Int64)) := ⟨_, (Arv.new A466 (by decide)).pad (pad_rep [] (.long (0 : Int64)) 1)⟩
  refine own_go st466 ?_
  obtain ⟨T501, h501, X501, e501, W501, st501⟩ := putF X466 hx hZ hown (host := "") (Or.inl (hw _ (List.mem_of_getElem? (i := 76) rfl))) Via.refl e466 f478 f477 (Or.inl (hw _ (List.mem_of_getElem? (i := 77) rfl))) (hw _ (List.mem_of_getElem? (i := 1) rfl)) (ty := (.array .long)) (by decide) rfl rfl (g := (mkF m 41 #[.val (.ref o0), .val (.ref o1), .unset, .unset, .unset, .unset] [(.ref b466), (.ref o0)])) rfl rfl (hb hby d4_41)
  have f502 : own_Arv Z h501 w_w_o1_value_value .byte (1 : Int32) [(.int (49 : Int32))] (.int (0 : Int32)) := f476.other W501 (Ne.symm (own_neA f477 f476 (hw _ (List.mem_of_getElem? (i := 1) rfl))))
  have f503 : Exa Z h501 o0 "com/example/perigo/perigo/engine/network/Node" := f477.wr W501
  have f504 : Fld Z h501 o0 "com/example/perigo/perigo/engine/network/Node" "knownNanos" "[I" w_o0_knownNanos := f479.other W501 (Or.inr (slot_ne (Or.inl (hw _ (List.mem_of_getElem? (i := 79) rfl))) (Or.inl (hw _ (List.mem_of_getElem? (i := 77) rfl))) (by decide) (t := (.array .int)) (t' := (.array .long)) (by decide) (by decide)))
  have f505 : Fld Z h501 o0 "com/example/perigo/perigo/engine/network/Node" "others" "[Lcom/example/perigo/perigo/engine/network/Node;" w_o0_others := f480.other W501 (Or.inr (slot_ne (Or.inl (hw _ (List.mem_of_getElem? (i := 83) rfl))) (Or.inl (hw _ (List.mem_of_getElem? (i := 77) rfl))) (by decide) (t := (.array (.object "com/example/perigo/perigo/engine/network/Node"))) (t' := (.array .long)) (by decide) (by decide)))
  have f506 : Fld Z h501 o0 "com/example/perigo/perigo/engine/network/Node" "besideInTimeOrder" "Z" (.int w_o0_besideInTimeOrder) := f481.other W501 (Or.inr (slot_ne (Or.inl (hw _ (List.mem_of_getElem? (i := 85) rfl))) (Or.inl (hw _ (List.mem_of_getElem? (i := 77) rfl))) (by decide) (t := .boolean) (t' := (.array .long)) (by decide) (by decide)))
  have f507 : Fld Z h501 o0 "com/example/perigo/perigo/engine/network/Node" "firstJoins" "Ljava/util/Map;" w_o0_firstJoins := f482.other W501 (Or.inr (slot_ne (Or.inr (hw _ (List.mem_of_getElem? (i := 87) rfl))) (Or.inl (hw _ (List.mem_of_getElem? (i := 77) rfl))) (by decide) (t := (.object "java/util/Map")) (t' := (.array .long)) (by decide) (by decide)))
  have f508 : Fld Z h501 o0 "com/example/perigo/perigo/engine/network/Node" "medium" "Lcom/example/perigo/perigo/engine/event/Medium;" w_o0_medium := f483.other W501 (Or.inr (slot_ne (Or.inr (hw _ (List.mem_of_getElem? (i := 89) rfl))) (Or.inl (hw _ (List.mem_of_getElem? (i := 77) rfl))) (by decide) (t := (.object "com/example/perigo/perigo/engine/event/Medium")) (t' := (.array .long)) (by decide) (by decide)))
  have f509 : Fld Z h501 o0 "com/example/perigo/perigo/engine/network/Node" "valueKey" "J" (.long w_o0_valueKey) := f484.other W501 (Or.inr (slot_ne (Or.inr (hw _ (List.mem_of_getElem? (i := 131) rfl))) (Or.inl (hw _ (List.mem_of_getElem? (i := 77) rfl))) (by decide) (t := .long) (t' := (.array .long)) (by decide) (by decide)))
  have f510 : Fld Z h501 o0 "com/example/perigo/perigo/engine/network/Node" "reachedBy" "J" (.long w_o0_reachedBy) := f485.other W501 (Or.inr (slot_ne (Or.inl (hw _ (List.mem_of_getElem? (i := 138) rfl))) (Or.inl (hw _ (List.mem_of_getElem? (i := 77) rfl))) (by decide) (t := .long) (t' := (.array .long)) (by decide) (by decide)))
  have f511 : Fld Z h501 o0 "com/example/perigo/perigo/engine/network/Node" "reachedWith" "I" (.int w_o0_reachedWith) := f486.other W501 (Or.inr (slot_ne (Or.inl (hw _ (List.mem_of_getElem? (i := 140) rfl))) (Or.inl (hw _ (List.mem_of_getElem? (i := 77) rfl))) (by decide) (t := .int) (t' := (.array .long)) (by decide) (by decide)))
  have f512 : Fld Z h501 o1 "com/example/perigo/perigo/engine/event/Medium" "value" "Ljava/lang/String;" (.ref w_o1_value) := f487.other W501 (Or.inl ne_o1_o0)
  have f513 : Exa Z h501 o1 "com/example/perigo/perigo/engine/event/Medium" := f488.wr W501
  have f514 : Fld Z h501 w_o1_value "java/lang/String" "value" "[B" (.ref w_w_o1_value_value) := f489.other W501 (Or.inl ne_w_o1_value_o0)
  have f515 : Sta Z h501 "java/lang/String" "COMPACT_STRINGS" "Z" (.int w_s_COMPACT_STRINGS) := f490.wr W501
  have f516 : Fld Z h501 w_o1_value "java/lang/String" "coder" "B" (.int (0 : Int32)) := f491.other W501 (Or.inl ne_w_o1_value_o0)
  have f517 : Exa Z h501 w_o1_value "java/lang/String" := f492.wr W501
  have f518 : Sta Z h501 "jdk/internal/util/Preconditions" "SIOOBE_FORMATTER" "Ljava/util/function/BiFunction;" w_s_SIOOBE_FORMATTER := f493.wr W501
  have f519 : Exa Z h501 b196 "com/example/perigo/perigo/engine/network/Timeline" := f494.wr W501
  have f520 : Fld Z h501 o0 "com/example/perigo/perigo/engine/network/Node" "events" "Lcom/example/perigo/perigo/engine/network/Timeline;" (.ref b196) := f495.other W501 (Or.inr (slot_ne (Or.inr (hw _ (List.mem_of_getElem? (i := 55) rfl))) (Or.inl (hw _ (List.mem_of_getElem? (i := 77) rfl))) (by decide) (t := (.object "com/example/perigo/perigo/engine/network/Timeline")) (t' := (.array .long)) (by decide) (by decide)))
  have f521 : Exa Z h501 b283 "java/util/HashMap" := f496.wr W501
  have f522 : Fld Z h501 o0 "com/example/perigo/perigo/engine/network/Node" "eventsByType" "Ljava/util/Map;" (.ref b283) := f497.other W501 (Or.inr (slot_ne (Or.inr (hw _ (List.mem_of_getElem? (i := 73) rfl))) (Or.inl (hw _ (List.mem_of_getElem? (i := 77) rfl))) (by decide) (t := (.object "java/util/Map")) (t' := (.array .long)) (by decide) (by decide)))
  have f523 : Exa Z h501 b371 "com/example/perigo/perigo/engine/network/Timeline" := f498.wr W501
  have f524 : Fld Z h501 o0 "com/example/perigo/perigo/engine/network/Node" "frauds" "Lcom/example/perigo/perigo/engine/network/Timeline;" (.ref b371) := f499.other W501 (Or.inr (slot_ne (Or.inr (hw _ (List.mem_of_getElem? (i := 75) rfl))) (Or.inl (hw _ (List.mem_of_getElem? (i := 77) rfl))) (by decide) (t := (.object "com/example/perigo/perigo/engine/network/Timeline")) (t' := (.array .long)) (by decide) (by decide)))
  have f525 : own_Arv Z h501 b466 .long (1 : Int32) [(.long (0 : Int64))] (.long (0 : Int64)) := v500.other W501 (Ne.symm ne468)
  have f526 : Fld Z h501 o0 "com/example/perigo/perigo/engine/network/Node" "knownSeconds" "[J" (.ref b466) := f478.same W501
  have N527 := Fr.snoc X501 N463 g_o0
  have Z528 : n0 ≤ h501.size := Nat.le_trans Z475 (Keep.of_wr W501).1
  have K529 : Keep h0 h501 [o0] := K474.wr W501 (Or.inl (List.mem_of_getElem? (i := 0) rfl))
  refine own_go st501 ?_
  refine own_go (S' := T501.setTop (mkF m 46 #[.val (.ref o0), .val (.ref o1), .unset, .unset, .unset, .unset] [(.int (1 : Int32)), (.ref o0)])) (fun t k => ?_) ?_
  · show Steps p.tables e below (T501.setTop (mkF m 44 #[.val (.ref o0), .val (.ref o1), .unset, .unset, .unset, .unset] [])) t
    refine XS.aloadN X501.here hx rfl (hb hby d4_44) rfl rfl ?_
    show Steps p.tables e below (T501.setTop (mkF m 45 #[.val (.ref o0), .val (.ref o1), .unset, .unset, .unset, .unset] [(.ref o0)])) t
    refine XS.iconst X501.here hx rfl (hb hby d4_45) ?_
    exact k
  obtain ⟨T530, h530, k530, X530, e530, E530, A530, st530⟩ := newP X501 hx hZ (hw _ (List.mem_of_getElem? (i := 44) rfl)) e501 (g := (mkF m 46 #[.val (.ref o0), .val (.ref o1), .unset, .unset, .unset, .unset] [(.int (1 : Int32)), (.ref o0)])) rfl (hb hby d4_46) rfl (by decide) (cap := 1) (by decide) (by decide) (by decide) (by decide)
  obtain ⟨b530, g530⟩ : ∃ z, z = h501.size := ⟨_, rfl⟩
  rw [← g530] at A530 st530
  have ne531 : w_w_o1_value_value ≠ b530 := Nat.ne_of_lt (Nat.lt_of_lt_of_le f502.lt (Nat.le_of_eq g530.symm))
  have ne532 : o0 ≠ b530 := Nat.ne_of_lt (Nat.lt_of_lt_of_le f503.lt (Nat.le_of_eq g530.symm))
  have ne533 : o1 ≠ b530 := Nat.ne_of_lt (Nat.lt_of_lt_of_le f512.lt (Nat.le_of_eq g530.symm))
  have ne534 : w_o1_value ≠ b530 := Nat.ne_of_lt (Nat.lt_of_lt_of_le f514.lt (Nat.le_of_eq g530.symm))
  have ne535 : b196 ≠ b530 := Nat.ne_of_lt (Nat.lt_of_lt_of_le f519.lt (Nat.le_of_eq g530.symm))
  have ne536 : b283 ≠ b530 := Nat.ne_of_lt (Nat.lt_of_lt_of_le f521.lt (Nat.le_of_eq g530.symm))
  have ne537 : b371 ≠ b530 := Nat.ne_of_lt (Nat.lt_of_lt_of_le f523.lt (Nat.le_of_eq g530.symm))
  have ne538 : b466 ≠ b530 := Nat.ne_of_lt (Nat.lt_of_lt_of_le f525.lt (Nat.le_of_eq g530.symm))
  have g_b530 : n0 ≤ b530 := Nat.le_trans Z528 (Nat.le_of_eq g530.symm)
  have sz_b530 : h0.size ≤ b530 := Nat.le_trans K529.1 (Nat.le_of_eq g530.symm)
  have K539 : Keep h0 h530 [o0] := K529.ext E530
  have Z540 : n0 ≤ h530.size := Nat.le_trans Z528 E530.1
  have f541 : own_Arv Z h530 w_w_o1_value_value .byte (1 : Int32) [(.int (49 : Int32))] (.int (0 : Int32)) := f502.ext E530
  have f542 : Exa Z h530 o0 "com/example/perigo/perigo/engine/network/Node" := Exa.ext E530 f503
  have f543 : Fld Z h530 o0 "com/example/perigo/perigo/engine/network/Node" "knownNanos" "[I" w_o0_knownNanos := Fld.ext E530 f504
  have f544 : Fld Z h530 o0 "com/example/perigo/perigo/engine/network/Node" "others" "[Lcom/example/perigo/perigo/engine/network/Node;" w_o0_others := Fld.ext E530 f505
  have f545 : Fld Z h530 o0 "com/example/perigo/perigo/engine/network/Node" "besideInTimeOrder" "Z" (.int w_o0_besideInTimeOrder) := Fld.ext E530 f506
  have f546 : Fld Z h530 o0 "com/example/perigo/perigo/engine/network/Node" "firstJoins" "Ljava/util/Map;" w_o0_firstJoins := Fld.ext E530 f507
  have f547 : Fld Z h530 o0 "com/example/perigo/perigo/engine/network/Node" "medium" "Lcom/example/perigo/perigo/engine/event/Medium;" w_o0_medium := Fld.ext E530 f508
  have f548 : Fld Z h530 o0 "com/example/perigo/perigo/engine/network/Node" "valueKey" "J" (.long w_o0_valueKey) := Fld.ext E530 f509
  have f549 : Fld Z h530 o0 "com/example/perigo/perigo/engine/network/Node" "reachedBy" "J" (.long w_o0_reachedBy) := Fld.ext E530 f510
  have f550 : Fld Z h530 o0 "com/example/perigo/perigo/engine/network/Node" "reachedWith" "I" (.int w_o0_reachedWith) := Fld.ext E530 f511
  have f551 : Fld Z h530 o1 "com/example/perigo/perigo/engine/event/Medium" "value" "Ljava/lang/String;" (.ref w_o1_value) := Fld.ext E530 f512
  have f552 : Exa Z h530 o1 "com/example/perigo/perigo/engine/event/Medium" := Exa.ext E530 f513
  have f553 : Fld Z h530 w_o1_value "java/lang/String" "value" "[B" (.ref w_w_o1_value_value) := Fld.ext E530 f514
  have f554 : Sta Z h530 "java/lang/String" "COMPACT_STRINGS" "Z" (.int w_s_COMPACT_STRINGS) := Sta.ext E530 f515
  have f555 : Fld Z h530 w_o1_value "java/lang/String" "coder" "B" (.int (0 : Int32)) := Fld.ext E530 f516
  have f556 : Exa Z h530 w_o1_value "java/lang/String" := Exa.ext E530 f517
  have f557 : Sta Z h530 "jdk/internal/util/Preconditions" "SIOOBE_FORMATTER" "Ljava/util/function/BiFunction;" w_s_SIOOBE_FORMATTER := Sta.ext E530 f518
  have f558 : Exa Z h530 b196 "com/example/perigo/perigo/engine/network/Timeline" := Exa.ext E530 f519
  have f559 : Fld Z h530 o0 "com/example/perigo/perigo/engine/network/Node" "events" "Lcom/example/perigo/perigo/engine/network/Timeline;" (.ref b196) := Fld.ext E530 f520
  have f560 : Exa Z h530 b283 "java/util/HashMap" := Exa.ext E530 f521
  have f561 : Fld Z h530 o0 "com/example/perigo/perigo/engine/network/Node" "eventsByType" "Ljava/util/Map;" (.ref b283) := Fld.ext E530 f522
  have f562 : Exa Z h530 b371 "com/example/perigo/perigo/engine/network/Timeline" := Exa.ext E530 f523
  have f563 : Fld Z h530 o0 "com/example/perigo/perigo/engine/network/Node" "frauds" "Lcom/example/perigo/perigo/engine/network/Timeline;" (.ref b371) := Fld.ext E530 f524
  have f564 : own_Arv Z h530 b466 .long (1 : Int32) [(.long (0 : Int64))] (.long (0 : Int64)) := f525.ext E530
  have f565 : Fld Z h530 o0 "com/example/perigo/perigo/engine/network/Node" "knownSeconds" "[J" (.ref b466) := Fld.ext E530 f526
  have v566 : own_Arv Z h530 b530 .int (1 : Int32) [(.int (0 : Int32))] (.int (0 : Int32)) := ⟨_, (Arv.new A530 (by decide)).pad (pad_rep [] (.int (0 : Int32)) 1)⟩
  refine own_go st530 ?_
  obtain ⟨T567, h567, X567, e567, W567, st567⟩ := putF X530 hx hZ hown (host := "") (Or.inl (hw _ (List.mem_of_getElem? (i := 78) rfl))) Via.refl e530 f543 f542 (Or.inl (hw _ (List.mem_of_getElem? (i := 79) rfl))) (hw _ (List.mem_of_getElem? (i := 1) rfl)) (ty := (.array .int)) (by decide) rfl rfl (g := (mkF m 48 #[.val (.ref o0), .val (.ref o1), .unset, .unset, .unset, .unset] [(.ref b530), (.ref o0)])) rfl rfl (hb hby d4_48)
  have f568 : own_Arv Z h567 w_w_o1_value_value .byte (1 : Int32) [(.int (49 : Int32))] (.int (0 : Int32)) := f541.other W567 (Ne.symm (own_neA f542 f541 (hw _ (List.mem_of_getElem? (i := 1) rfl))))
  have f569 : Exa Z h567 o0 "com/example/perigo/perigo/engine/network/Node" := f542.wr W567
  have f570 : Fld Z h567 o0 "com/example/perigo/perigo/engine/network/Node" "others" "[Lcom/example/perigo/perigo/engine/network/Node;" w_o0_others := f544.other W567 (Or.inr (slot_ne (Or.inl (hw _ (List.mem_of_getElem? (i := 83) rfl))) (Or.inl (hw _ (List.mem_of_getElem? (i := 79) rfl))) (by decide) (t := (.array (.object "com/example/perigo/perigo/engine/network/Node"))) (t' := (.array .int)) (by decide) (by decide)))
  have f571 : Fld Z h567 o0 "com/example/perigo/perigo/engine/network/Node" "besideInTimeOrder" "Z" (.int w_o0_besideInTimeOrder) := f545.other W567 (Or.inr (slot_ne (Or.inl (hw _ (List.mem_of_getElem? (i := 85) rfl))) (Or.inl (hw _ (List.mem_of_getElem? (i := 79) rfl))) (by decide) (t := .boolean) (t' := (.array .int)) (by decide) (by decide)))
  have f572 : Fld Z h567 o0 "com/example/perigo/perigo/engine/network/Node" "firstJoins" "Ljava/util/Map;" w_o0_firstJoins := f546.other W567 (Or.inr (slot_ne (Or.inr (hw _ (List.mem_of_getElem? (i := 87) rfl))) (Or.inl (hw _ (List.mem_of_getElem? (i := 79) rfl))) (by decide) (t := (.object "java/util/Map")) (t' := (.array .int)) (by decide) (by decide)))
  have f573 : Fld Z h567 o0 "com/example/perigo/perigo/engine/network/Node" "medium" "Lcom/example/perigo/perigo/engine/event/Medium;" w_o0_medium := f547.other W567 (Or.inr (slot_ne (Or.inr (hw _ (List.mem_of_getElem? (i := 89) rfl))) (Or.inl (hw _ (List.mem_of_getElem? (i := 79) rfl))) (by decide) (t := (.object "com/example/perigo/perigo/engine/event/Medium")) (t' := (.array .int)) (by decide) (by decide)))
  have f574 : Fld Z h567 o0 "com/example/perigo/perigo/engine/network/Node" "valueKey" "J" (.long w_o0_valueKey) := f548.other W567 (Or.inr (slot_ne (Or.inr (hw _ (List.mem_of_getElem? (i := 131) rfl))) (Or.inl (hw _ (List.mem_of_getElem? (i := 79) rfl))) (by decide) (t := .long) (t' := (.array .int)) (by decide) (by decide)))
  have f575 : Fld Z h567 o0 "com/example/perigo/perigo/engine/network/Node" "reachedBy" "J" (.long w_o0_reachedBy) := f549.other W567 (Or.inr (slot_ne (Or.inl (hw _ (List.mem_of_getElem? (i := 138) rfl))) (Or.inl (hw _ (List.mem_of_getElem? (i := 79) rfl))) (by decide) (t := .long) (t' := (.array .int)) (by decide) (by decide)))
  have f576 : Fld Z h567 o0 "com/example/perigo/perigo/engine/network/Node" "reachedWith" "I" (.int w_o0_reachedWith) := f550.other W567 (Or.inr (slot_ne (Or.inl (hw _ (List.mem_of_getElem? (i := 140) rfl))) (Or.inl (hw _ (List.mem_of_getElem? (i := 79) rfl))) (by decide) (t := .int) (t' := (.array .int)) (by decide) (by decide)))
  have f577 : Fld Z h567 o1 "com/example/perigo/perigo/engine/event/Medium" "value" "Ljava/lang/String;" (.ref w_o1_value) := f551.other W567 (Or.inl ne_o1_o0)
  have f578 : Exa Z h567 o1 "com/example/perigo/perigo/engine/event/Medium" := f552.wr W567
  have f579 : Fld Z h567 w_o1_value "java/lang/String" "value" "[B" (.ref w_w_o1_value_value) := f553.other W567 (Or.inl ne_w_o1_value_o0)
  have f580 : Sta Z h567 "java/lang/String" "COMPACT_STRINGS" "Z" (.int w_s_COMPACT_STRINGS) := f554.wr W567
  have f581 : Fld Z h567 w_o1_value "java/lang/String" "coder" "B" (.int (0 : Int32)) := f555.other W567 (Or.inl ne_w_o1_value_o0)
  have f582 : Exa Z h567 w_o1_value "java/lang/String" := f556.wr W567
  have f583 : Sta Z h567 "jdk/internal/util/Preconditions" "SIOOBE_FORMATTER" "Ljava/util/function/BiFunction;" w_s_SIOOBE_FORMATTER := f557.wr W567
  have f584 : Exa Z h567 b196 "com/example/perigo/perigo/engine/network/Timeline" := f558.wr W567
  have f585 : Fld Z h567 o0 "com/example/perigo/perigo/engine/network/Node" "events" "Lcom/example/perigo/perigo/engine/network/Timeline;" (.ref b196) := f559.other W567 (Or.inr (slot_ne (Or.inr (hw _ (List.mem_of_getElem? (i := 55) rfl))) (Or.inl (hw _ (List.mem_of_getElem? (i := 79) rfl))) (by decide) (t := (.object "com/example/perigo/perigo/engine/network/Timeline")) (t' := (.array .int)) (by decide) (by decide)))
  have f586 : Exa Z h567 b283 "java/util/HashMap" := f560.wr W567
  have f587 : Fld Z h567 o0 "com/example/perigo/perigo/engine/network/Node" "eventsByType" "Ljava/util/Map;" (.ref b283) := f561.other W567 (Or.inr (slot_ne (Or.inr (hw _ (List.mem_of_getElem? (i := 73) rfl))) (Or.inl (hw _ (List.mem_of_getElem? (i := 79) rfl))) (by decide) (t := (.object "java/util/Map")) (t' := (.array .int)) (by decide) (by decide)))
  have f588 : Exa Z h567 b371 "com/example/perigo/perigo/engine/network/Timeline" := f562.wr W567
  have f589 : Fld Z h567 o0 "com/example/perigo/perigo/engine/network/Node" "frauds" "Lcom/example/perigo/perigo/engine/network/Timeline;" (.ref b371) := f563.other W567 (Or.inr (slot_ne (Or.inr (hw _ (List.mem_of_getElem? (i := 75) rfl))) (Or.inl (hw _ (List.mem_of_getElem? (i := 79) rfl))) (by decide) (t := (.object "com/example/perigo/perigo/engine/network/Timeline")) (t' := (.array .int)) (by decide) (by decide)))
  have f590 : own_Arv Z h567 b466 .long (1 : Int32) [(.long (0 : Int64))] (.long (0 : Int64)) := f564.other W567 (Ne.symm ne468)
  have f591 : Fld Z h567 o0 "com/example/perigo/perigo/engine/network/Node" "knownSeconds" "[J" (.ref b466) := f565.other W567 (Or.inr (slot_ne (Or.inl (hw _ (List.mem_of_getElem? (i := 77) rfl))) (Or.inl (hw _ (List.mem_of_getElem? (i := 79) rfl))) (by decide) (t := (.array .long)) (t' := (.array .int)) (by decide) (by decide)))
  have f592 : own_Arv Z h567 b530 .int (1 : Int32) [(.int (0 : Int32))] (.int (0 : Int32)) := v566.other W567 (Ne.symm ne532)
  have f593 : Fld Z h567 o0 "com/example/perigo/perigo/engine/network/Node" "knownNanos" "[I" (.ref b530) := f543.same W567
  have N594 := Fr.snoc X567 N527 g_o0
  have Z595 : n0 ≤ h567.size := Nat.le_trans Z540 (Keep.of_wr W567).1
  have K596 : Keep h0 h567 [o0] := K539.wr W567 (Or.inl (List.mem_of_getElem? (i := 0) rfl))
  refine own_go st567 ?_
  refine own_go (S' := T567.setTop (mkF m 53 #[.val (.ref o0), .val (.ref o1), .unset, .unset, .unset, .unset] [(.int (2 : Int32)), (.ref o0)])) (fun t k => ?_) ?_
  · show Steps p.tables e below (T567.setTop (mkF m 51 #[.val (.ref o0), .val (.ref o1), .unset, .unset, .unset, .unset] [])) t
    refine XS.aloadN X567.here hx rfl (hb hby d4_51) rfl rfl ?_
    show Steps p.tables e below (T567.setTop (mkF m 52 #[.val (.ref o0), .val (.ref o1), .unset, .unset, .unset, .unset] [(.ref o0)])) t
    refine XS.iconst X567.here hx rfl (hb hby d4_52) ?_
    exact k
  obtain ⟨T597, h597, k597, X597, e597, E597, A597, O597, st597⟩ := newR X567 hx hZ hown (hw _ (List.mem_of_getElem? (i := 80) rfl)) (hw _ (List.mem_of_getElem? (i := 81) rfl)) e567 (g := (mkF m 53 #[.val (.ref o0), .val (.ref o1), .unset, .unset, .unset, .unset] [(.int (2 : Int32)), (.ref o0)])) rfl (hb hby d4_53) rfl (by decide) (cap := 2) (by decide) (by decide) (by decide) (by decide)
  obtain ⟨b597, g597⟩ : ∃ z, z = h567.size := ⟨_, rfl⟩
  rw [← g597] at A597 st597
  have ne598 : w_w_o1_value_value ≠ b597 := Nat.ne_of_lt (Nat.lt_of_lt_of_le f568.lt (Nat.le_of_eq g597.symm))
  have ne599 : o0 ≠ b597 := Nat.ne_of_lt (Nat.lt_of_lt_of_le f569.lt (Nat.le_of_eq g597.symm))
  have ne600 : o1 ≠ b597 := Nat.ne_of_lt (Nat.lt_of_lt_of_le f577.lt (Nat.le_of_eq g597.symm))
  have ne601 : w_o1_value ≠ b597 := Nat.ne_of_lt (Nat.lt_of_lt_of_le f579.lt (Nat.le_of_eq g597.symm))
  have ne602 : b196 ≠ b597 := Nat.ne_of_lt (Nat.lt_of_lt_of_le f584.lt (Nat.le_of_eq g597.symm))
  have ne603 : b283 ≠ b597 := Nat.ne_of_lt (Nat.lt_of_lt_of_le f586.lt (Nat.le_of_eq g597.symm))
  have ne604 : b371 ≠ b597 := Nat.ne_of_lt (Nat.lt_of_lt_of_le f588.lt (Nat.le_of_eq g597.symm))
  have ne605 : b466 ≠ b597 := Nat.ne_of_lt (Nat.lt_of_lt_of_le f590.lt (Nat.le_of_eq g597.symm))
  have ne606 : b530 ≠ b597 := Nat.ne_of_lt (Nat.lt_of_lt_of_le f592.lt (Nat.le_of_eq g597.symm))
  have g_b597 : n0 ≤ b597 := Nat.le_trans Z595 (Nat.le_of_eq g597.symm)
  have sz_b597 : h0.size ≤ b597 := Nat.le_trans K596.1 (Nat.le_of_eq g597.symm)
  have K607 : Keep h0 h597 [o0] := K596.ext E597
  have Z608 : n0 ≤ h597.size := Nat.le_trans Z595 E597.1
  have f609 : own_Arv Z h597 w_w_o1_value_value .byte (1 : Int32) [(.int (49 : Int32))] (.int (0 : Int32)) := f568.ext E597
  have f610 : Exa Z h597 o0 "com/example/perigo/perigo/engine/network/Node" := Exa.ext E597 f569
  have f611 : Fld Z h597 o0 "com/example/perigo/perigo/engine/network/Node" "others" "[Lcom/example/perigo/perigo/engine/network/Node;" w_o0_others := Fld.ext E597 f570
  have f612 : Fld Z h597 o0 "com/example/perigo/perigo/engine/network/Node" "besideInTimeOrder" "Z" (.int w_o0_besideInTimeOrder) := Fld.ext E597 f571
  have f613 : Fld Z h597 o0 "com/example/perigo/perigo/engine/network/Node" "firstJoins" "Ljava/util/Map;" w_o0_firstJoins := Fld.ext E597 f572
  have f614 : Fld Z h597 o0 "com/example/perigo/perigo/engine/network/Node" "medium" "Lcom/example/perigo/perigo/engine/event/Medium;" w_o0_medium := Fld.ext E597 f573
  have f615 : Fld Z h597 o0 "com/example/perigo/perigo/engine/network/Node" "valueKey" "J" (.long w_o0_valueKey) := Fld.ext E597 f574
  have f616 : Fld Z h597 o0 "com/example/perigo/perigo/engine/network/Node" "reachedBy" "J" (.long w_o0_reachedBy) := Fld.ext E597 f575
  have f617 : Fld Z h597 o0 "com/example/perigo/perigo/engine/network/Node" "reachedWith" "I" (.int w_o0_reachedWith) := Fld.ext E597 f576
  have f618 : Fld Z h597 o1 "com/example/perigo/perigo/engine/event/Medium" "value" "Ljava/lang/String;" (.ref w_o1_value) := Fld.ext E597 f577
  have f619 : Exa Z h597 o1 "com/example/perigo/perigo/engine/event/Medium" := Exa.ext E597 f578
  have f620 : Fld Z h597 w_o1_value "java/lang/String" "value" "[B" (.ref w_w_o1_value_value) := Fld.ext E597 f579
  have f621 : Sta Z h597 "java/lang/String" "COMPACT_STRINGS" "Z" (.int w_s_COMPACT_STRINGS) := Sta.ext E597 f580
  have f622 : Fld Z h597 w_o1_value "java/lang/String" "coder" "B" (.int (0 : Int32)) := Fld.ext E597 f581
  have f623 : Exa Z h597 w_o1_value "java/lang/String" := Exa.ext E597 f582
  have f624 : Sta Z h597 "jdk/internal/util/Preconditions" "SIOOBE_FORMATTER" "Ljava/util/function/BiFunction;" w_s_SIOOBE_FORMATTER := Sta.ext E597 f583
  have f625 : Exa Z h597 b196 "com/example/perigo/perigo/engine/network/Timeline" := Exa.ext E597 f584
  have f626 : Fld Z h597 o0 "com/example/perigo/perigo/engine/network/Node" "events" "Lcom/example/perigo/perigo/engine/network/Timeline;" (.ref b196) := Fld.ext E597 f585
  have f627 : Exa Z h597 b283 "java/util/HashMap" := Exa.ext E597 f586
  have f628 : Fld Z h597 o0 "com/example/perigo/perigo/engine/network/Node" "eventsByType" "Ljava/util/Map;" (.ref b283) := Fld.ext E597 f587
  have f629 : Exa Z h597 b371 "com/example/perigo/perigo/engine/network/Timeline" := Exa.ext E597 f588
  have f630 : Fld Z h597 o0 "com/example/perigo/perigo/engine/network/Node" "frauds" "Lcom/example/perigo/perigo/engine/network/Timeline;" (.ref b371) := Fld.ext E597 f589
  have f631 : own_Arv Z h597 b466 .long (1 : Int32) [(.long (0 : Int64))] (.long (0 : Int64)) := f590.ext E597
  have f632 : Fld Z h597 o0 "com/example/perigo/perigo/engine/network/Node" "knownSeconds" "[J" (.ref b466) := Fld.ext E597 f591
  have f633 : own_Arv Z h597 b530 .int (1 : Int32) [(.int (0 : Int32))] (.int (0 : Int32)) := f592.ext E597
  have f634 : Fld Z h597 o0 "com/example/perigo/perigo/engine/network/Node" "knownNanos" "[I" (.ref b530) := Fld.ext E597 f593
  have v635 : own_ArvR Z h597 b597 "com/example/perigo/perigo/engine/network/Node" (2 : Int32) [.null, .null] := ⟨_, (Arv.new A597 (by decide)).pad (pad_rep [] .null 2), O597⟩
  refine own_go st597 ?_
  obtain ⟨T636, h636, X636, e636, W636, st636⟩ := putF X597 hx hZ hown (host := "") (Or.inl (hw _ (List.mem_of_getElem? (i := 82) rfl))) Via.refl e597 f611 f610 (Or.inl (hw _ (List.mem_of_getElem? (i := 83) rfl))) (hw _ (List.mem_of_getElem? (i := 1) rfl)) (ty := (.array (.object "com/example/perigo/perigo/engine/network/Node"))) (by decide) rfl rfl (g := (mkF m 56 #[.val (.ref o0), .val (.ref o1), .unset, .unset, .unset, .unset] [(.ref b597), (.ref o0)])) rfl rfl (hb hby d4_56)
  have f637 : own_Arv Z h636 w_w_o1_value_value .byte (1 : Int32) [(.int (49 : Int32))] (.int (0 : Int32)) := f609.other W636 (Ne.symm (own_neA f610 f609 (hw _ (List.mem_of_getElem? (i := 1) rfl))))
  have f638 : Exa Z h636 o0 "com/example/perigo/perigo/engine/network/Node" := f610.wr W636
  have f639 : Fld Z h636 o0 "com/example/perigo/perigo/engine/network/Node" "besideInTimeOrder" "Z" (.int w_o0_besideInTimeOrder) := f612.other W636 (Or.inr (slot_ne (Or.inl (hw _ (List.mem_of_getElem? (i := 85) rfl))) (Or.inl (hw _ (List.mem_of_getElem? (i := 83) rfl))) (by decide) (t := .boolean) (t' := (.array (.object "com/example/perigo/perigo/engine/network/Node"))) (by decide) (by decide)))
  have f640 : Fld Z h636 o0 "com/example/perigo/perigo/engine/network/Node" "firstJoins" "Ljava/util/Map;" w_o0_firstJoins := f613.other W636 (Or.inr (slot_ne (Or.inr (hw _ (List.mem_of_getElem? (i := 87) rfl))) (Or.inl (hw _ (List.mem_of_getElem? (i := 83) rfl))) (by decide) (t := (.object "java/util/Map")) (t' := (.array (.object "com/example/perigo/perigo/engine/network/Node"))) (by decide) (by decide)))
  have f641 : Fld Z h636 o0 "com/example/perigo/perigo/engine/network/Node" "medium" "Lcom/example/perigo/perigo/engine/event/Medium;" w_o0_medium := f614.other W636 (Or.inr (slot_ne (Or.inr (hw _ (List.mem_of_getElem? (i := 89) rfl))) (Or.inl (hw _ (List.mem_of_getElem? (i := 83) rfl))) (by decide) (t := (.object "com/example/perigo/perigo/engine/event/Medium")) (t' := (.array (.object "com/example/perigo/perigo/engine/network/Node"))) (by decide) (by decide)))
  have f642 : Fld Z h636 o0 "com/example/perigo/perigo/engine/network/Node" "valueKey" "J" (.long w_o0_valueKey) := f615.other W636 (Or.inr (slot_ne (Or.inr (hw _ (List.mem_of_getElem? (i := 131) rfl))) (Or.inl (hw _ (List.mem_of_getElem? (i := 83) rfl))) (by decide) (t := .long) (t' := (.array (.object "com/example/perigo/perigo/engine/network/Node"))) (by decide) (by decide)))
  have f643 : Fld Z h636 o0 "com/example/perigo/perigo/engine/network/Node" "reachedBy" "J" (.long w_o0_reachedBy) := f616.other W636 (Or.inr (slot_ne (Or.inl (hw _ (List.mem_of_getElem? (i := 138) rfl))) (Or.inl (hw _ (List.mem_of_getElem? (i := 83) rfl))) (by decide) (t := .long) (t' := (.array (.object "com/example/perigo/perigo/engine/network/Node"))) (by decide) (by decide)))
  have f644 : Fld Z h636 o0 "com/example/perigo/perigo/engine/network/Node" "reachedWith" "I" (.int w_o0_reachedWith) := f617.other W636 (Or.inr (slot_ne (Or.inl (hw _ (List.mem_of_getElem? (i := 140) rfl))) (Or.inl (hw _ (List.mem_of_getElem? (i := 83) rfl))) (by decide) (t := .int) (t' := (.array (.object "com/example/perigo/perigo/engine/network/Node"))) (by decide) (by decide)))
  have f645 : Fld Z h636 o1 "com/example/perigo/perigo/engine/event/Medium" "value" "Ljava/lang/String;" (.ref w_o1_value) := f618.other W636 (Or.inl ne_o1_o0)
  have f646 : Exa Z h636 o1 "com/example/perigo/perigo/engine/event/Medium" := f619.wr W636
  have f647 : Fld Z h636 w_o1_value "java/lang/String" "value" "[B" (.ref w_w_o1_value_value) := f620.other W636 (Or.inl ne_w_o1_value_o0)
  have f648 : Sta Z h636 "java/lang/String" "COMPACT_STRINGS" "Z" (.int w_s_COMPACT_STRINGS) := f621.wr W636
  have f649 : Fld Z h636 w_o1_value "java/lang/String" "coder" "B" (.int (0 : Int32)) := f622.other W636 (Or.inl ne_w_o1_value_o0)
  have f650 : Exa Z h636 w_o1_value "java/lang/String" := f623.wr W636
  have f651 : Sta Z h636 "jdk/internal/util/Preconditions" "SIOOBE_FORMATTER" "Ljava/util/function/BiFunction;" w_s_SIOOBE_FORMATTER := f624.wr W636
  have f652 : Exa Z h636 b196 "com/example/perigo/perigo/engine/network/Timeline" := f625.wr W636
  have f653 : Fld Z h636 o0 "com/example/perigo/perigo/engine/network/Node" "events" "Lcom/example/perigo/perigo/engine/network/Timeline;" (.ref b196) := f626.other W636 (Or.inr (slot_ne (Or.inr (hw _ (List.mem_of_getElem? (i := 55) rfl))) (Or.inl (hw _ (List.mem_of_getElem? (i := 83) rfl))) (by decide) (t := (.object "com/example/perigo/perigo/engine/network/Timeline")) (t' := (.array (.object "com/example/perigo/perigo/engine/network/Node"))) (by decide) (by decide)))
  have f654 : Exa Z h636 b283 "java/util/HashMap" := f627.wr W636
  have f655 : Fld Z h636 o0 "com/example/perigo/perigo/engine/network/Node" "eventsByType" "Ljava/util/Map;" (.ref b283) := f628.other W636 (Or.inr (slot_ne (Or.inr (hw _ (List.mem_of_getElem? (i := 73) rfl))) (Or.inl (hw _ (List.mem_of_getElem? (i := 83) rfl))) (by decide) (t := (.object "java/util/Map")) (t' := (.array (.object "com/example/perigo/perigo/engine/network/Node"))) (by decide) (by decide)))
  have f656 : Exa Z h636 b371 "com/example/perigo/perigo/engine/network/Timeline" := f629.wr W636
  have f657 : Fld Z h636 o0 "com/example/perigo/perigo/engine/network/Node" "frauds" "Lcom/example/perigo/perigo/engine/network/Timeline;" (.ref b371) := f630.other W636 (Or.inr (slot_ne (Or.inr (hw _ (List.mem_of_getElem? (i := 75) rfl))) (Or.inl (hw _ (List.mem_of_getElem? (i := 83) rfl))) (by decide) (t := (.object "com/example/perigo/perigo/engine/network/Timeline")) (t' := (.array (.object "com/example/perigo/perigo/engine/network/Node"))) (by decide) (by decide)))
  have f658 : own_Arv Z h636 b466 .long (1 : Int32) [(.long (0 : Int64))] (.long (0 : Int64)) := f631.other W636 (Ne.symm ne468)
  have f659 : Fld Z h636 o0 "com/example/perigo/perigo/engine/network/Node" "knownSeconds" "[J" (.ref b466) := f632.other W636 (Or.inr (slot_ne (Or.inl (hw _ (List.mem_of_getElem? (i := 77) rfl))) (Or.inl (hw _ (List.mem_of_getElem? (i := 83) rfl))) (by decide) (t := (.array .long)) (t' := (.array (.object "com/example/perigo/perigo/engine/network/Node"))) (by decide) (by decide)))
  have f660 : own_Arv Z h636 b530 .int (1 : Int32) [(.int (0 : Int32))] (.int (0 : Int32)) := f633.other W636 (Ne.symm ne532)
  have f661 : Fld Z h636 o0 "com/example/perigo/perigo/engine/network/Node" "knownNanos" "[I" (.ref b530) := f634.other W636 (Or.inr (slot_ne (Or.inl (hw _ (List.mem_of_getElem? (i := 79) rfl))) (Or.inl (hw _ (List.mem_of_getElem? (i := 83) rfl))) (by decide) (t := (.array .int)) (t' := (.array (.object "com/example/perigo/perigo/engine/network/Node"))) (by decide) (by decide)))
  have f662 : own_ArvR Z h636 b597 "com/example/perigo/perigo/engine/network/Node" (2 : Int32) [.null, .null] := v635.other W636 (Ne.symm ne599)
  have f663 : Fld Z h636 o0 "com/example/perigo/perigo/engine/network/Node" "others" "[Lcom/example/perigo/perigo/engine/network/Node;" (.ref b597) := f611.same W636
  have N664 := Fr.snoc X636 N594 g_o0
  have Z665 : n0 ≤ h636.size := Nat.le_trans Z608 (Keep.of_wr W636).1
  have K666 : Keep h0 h636 [o0] := K607.wr W636 (Or.inl (List.mem_of_getElem? (i := 0) rfl))
  refine own_go st636 ?_
  refine own_go (S' := T636.setTop (mkF m 61 #[.val (.ref o0), .val (.ref o1), .unset, .unset, .unset, .unset] [(.int (1 : Int32)), (.ref o0)])) (fun t k => ?_) ?_
  · show Steps p.tables e below (T636.setTop (mkF m 59 #[.val (.ref o0), .val (.ref o1), .unset, .unset, .unset, .unset] [])) t
    refine XS.aloadN X636.here hx rfl (hb hby d4_59) rfl rfl ?_
    show Steps p.tables e below (T636.setTop (mkF m 60 #[.val (.ref o0), .val (.ref o1), .unset, .unset, .unset, .unset] [(.ref o0)])) t
    refine XS.iconst X636.here hx rfl (hb hby d4_60) ?_
    exact k
  obtain ⟨T667, h667, X667, e667, W667, st667⟩ := putFN X636 hx hZ hown (hw _ (List.mem_of_getElem? (i := 84) rfl)) Via.refl e636 f639 f638 (Or.inl (hw _ (List.mem_of_getElem? (i := 85) rfl))) (hw _ (List.mem_of_getElem? (i := 1) rfl)) (ty := .boolean) (v' := (.int (1 : Int32))) (by decide) rfl rfl (g := (mkF m 61 #[.val (.ref o0), .val (.ref o1), .unset, .unset, .unset, .unset] [(.int (1 : Int32)), (.ref o0)])) rfl rfl (hb hby d4_61)
  have f668 : own_Arv Z h667 w_w_o1_value_value .byte (1 : Int32) [(.int (49 : Int32))] (.int (0 : Int32)) := f637.other W667 (Ne.symm (own_neA f638 f637 (hw _ (List.mem_of_getElem? (i := 1) rfl))))
  have f669 : Exa Z h667 o0 "com/example/perigo/perigo/engine/network/Node" := f638.wr W667
  have f670 : Fld Z h667 o0 "com/example/perigo/perigo/engine/network/Node" "firstJoins" "Ljava/util/Map;" w_o0_firstJoins := f640.other W667 (Or.inr (slot_ne (Or.inr (hw _ (List.mem_of_getElem? (i := 87) rfl))) (Or.inl (hw _ (List.mem_of_getElem? (i := 85) rfl))) (by decide) (t := (.object "java/util/Map")) (t' := .boolean) (by decide) (by decide)))
  have f671 : Fld Z h667 o0 "com/example/perigo/perigo/engine/network/Node" "medium" "Lcom/example/perigo/perigo/engine/event/Medium;" w_o0_medium := f641.other W667 (Or.inr (slot_ne (Or.inr (hw _ (List.mem_of_getElem? (i := 89) rfl))) (Or.inl (hw _ (List.mem_of_getElem? (i := 85) rfl))) (by decide) (t := (.object "com/example/perigo/perigo/engine/event/Medium")) (t' := .boolean) (by decide) (by decide)))
  have f672 : Fld Z h667 o0 "com/example/perigo/perigo/engine/network/Node" "valueKey" "J" (.long w_o0_valueKey) := f642.other W667 (Or.inr (slot_ne (Or.inr (hw _ (List.mem_of_getElem? (i := 131) rfl))) (Or.inl (hw _ (List.mem_of_getElem? (i := 85) rfl))) (by decide) (t := .long) (t' := .boolean) (by decide) (by decide)))
  have f673 : Fld Z h667 o0 "com/example/perigo/perigo/engine/network/Node" "reachedBy" "J" (.long w_o0_reachedBy) := f643.other W667 (Or.inr (slot_ne (Or.inl (hw _ (List.mem_of_getElem? (i := 138) rfl))) (Or.inl (hw _ (List.mem_of_getElem? (i := 85) rfl))) (by decide) (t := .long) (t' := .boolean) (by decide) (by decide)))
  have f674 : Fld Z h667 o0 "com/example/perigo/perigo/engine/network/Node" "reachedWith" "I" (.int w_o0_reachedWith) := f644.other W667 (Or.inr (slot_ne (Or.inl (hw _ (List.mem_of_getElem? (i := 140) rfl))) (Or.inl (hw _ (List.mem_of_getElem? (i := 85) rfl))) (by decide) (t := .int) (t' := .boolean) (by decide) (by decide)))
  have f675 : Fld Z h667 o1 "com/example/perigo/perigo/engine/event/Medium" "value" "Ljava/lang/String;" (.ref w_o1_value) := f645.other W667 (Or.inl ne_o1_o0)
  have f676 : Exa Z h667 o1 "com/example/perigo/perigo/engine/event/Medium" := f646.wr W667
  have f677 : Fld Z h667 w_o1_value "java/lang/String" "value" "[B" (.ref w_w_o1_value_value) := f647.other W667 (Or.inl ne_w_o1_value_o0)
  have f678 : Sta Z h667 "java/lang/String" "COMPACT_STRINGS" "Z" (.int w_s_COMPACT_STRINGS) := f648.wr W667
  have f679 : Fld Z h667 w_o1_value "java/lang/String" "coder" "B" (.int (0 : Int32)) := f649.other W667 (Or.inl ne_w_o1_value_o0)
  have f680 : Exa Z h667 w_o1_value "java/lang/String" := f650.wr W667
  have f681 : Sta Z h667 "jdk/internal/util/Preconditions" "SIOOBE_FORMATTER" "Ljava/util/function/BiFunction;" w_s_SIOOBE_FORMATTER := f651.wr W667
  have f682 : Exa Z h667 b196 "com/example/perigo/perigo/engine/network/Timeline" := f652.wr W667
  have f683 : Fld Z h667 o0 "com/example/perigo/perigo/engine/network/Node" "events" "Lcom/example/perigo/perigo/engine/network/Timeline;" (.ref b196) := f653.other W667 (Or.inr (slot_ne (Or.inr (hw _ (List.mem_of_getElem? (i := 55) rfl))) (Or.inl (hw _ (List.mem_of_getElem? (i := 85) rfl))) (by decide) (t := (.object "com/example/perigo/perigo/engine/network/Timeline")) (t' := .boolean) (by decide) (by decide)))
  have f684 : Exa Z h667 b283 "java/util/HashMap" := f654.wr W667
  have f685 : Fld Z h667 o0 "com/example/perigo/perigo/engine/network/Node" "eventsByType" "Ljava/util/Map;" (.ref b283) := f655.other W667 (Or.inr (slot_ne (Or.inr (hw _ (List.mem_of_getElem? (i := 73) rfl))) (Or.inl (hw _ (List.mem_of_getElem? (i := 85) rfl))) (by decide) (t := (.object "java/util/Map")) (t' := .boolean) (by decide) (by decide)))
  have f686 : Exa Z h667 b371 "com/example/perigo/perigo/engine/network/Timeline" := f656.wr W667
  have f687 : Fld Z h667 o0 "com/example/perigo/perigo/engine/network/Node" "frauds" "Lcom/example/perigo/perigo/engine/network/Timeline;" (.ref b371) := f657.other W667 (Or.inr (slot_ne (Or.inr (hw _ (List.mem_of_getElem? (i := 75) rfl))) (Or.inl (hw _ (List.mem_of_getElem? (i := 85) rfl))) (by decide) (t := (.object "com/example/perigo/perigo/engine/network/Timeline")) (t' := .boolean) (by decide) (by decide)))
  have f688 : own_Arv Z h667 b466 .long (1 : Int32) [(.long (0 : Int64))] (.long (0 : Int64)) := f658.other W667 (Ne.symm ne468)
  have f689 : Fld Z h667 o0 "com/example/perigo/perigo/engine/network/Node" "knownSeconds" "[J" (.ref b466) := f659.other W667 (Or.inr (slot_ne (Or.inl (hw _ (List.mem_of_getElem? (i := 77) rfl))) (Or.inl (hw _ (List.mem_of_getElem? (i := 85) rfl))) (by decide) (t := (.array .long)) (t' := .boolean) (by decide) (by decide)))
  have f690 : own_Arv Z h667 b530 .int (1 : Int32) [(.int (0 : Int32))] (.int (0 : Int32)) := f660.other W667 (Ne.symm ne532)
  have f691 : Fld Z h667 o0 "com/example/perigo/perigo/engine/network/Node" "knownNanos" "[I" (.ref b530) := f661.other W667 (Or.inr (slot_ne (Or.inl (hw _ (List.mem_of_getElem? (i := 79) rfl))) (Or.inl (hw _ (List.mem_of_getElem? (i := 85) rfl))) (by decide) (t := (.array .int)) (t' := .boolean) (by decide) (by decide)))
  have f692 : own_ArvR Z h667 b597 "com/example/perigo/perigo/engine/network/Node" (2 : Int32) [.null, .null] := f662.other W667 (Ne.symm ne599)
  have f693 : Fld Z h667 o0 "com/example/perigo/perigo/engine/network/Node" "others" "[Lcom/example/perigo/perigo/engine/network/Node;" (.ref b597) := f663.other W667 (Or.inr (slot_ne (Or.inl (hw _ (List.mem_of_getElem? (i := 83) rfl))) (Or.inl (hw _ (List.mem_of_getElem? (i := 85) rfl))) (by decide) (t := (.array (.object "com/example/perigo/perigo/engine/network/Node"))) (t' := .boolean) (by decide) (by decide)))
  have f694 : Fld Z h667 o0 "com/example/perigo/perigo/engine/network/Node" "besideInTimeOrder" "Z" (.int (1 : Int32)) := f639.same W667
  have N695 := Fr.snoc X667 N664 g_o0
  have Z696 : n0 ≤ h667.size := Nat.le_trans Z665 (Keep.of_wr W667).1
  have K697 : Keep h0 h667 [o0] := K666.wr W667 (Or.inl (List.mem_of_getElem? (i := 0) rfl))
  refine own_go st667 ?_
  refine own_go (S' := T667.setTop (mkF m 65 #[.val (.ref o0), .val (.ref o1), .unset, .unset, .unset, .unset] [(.ref o0)])) (fun t k => ?_) ?_
  · show Steps p.tables e below (T667.setTop (mkF m 64 #[.val (.ref o0), .val (.ref o1), .unset, .unset, .unset, .unset] [])) t
    refine XS.aloadN X667.here hx rfl (hb hby d4_64) rfl rfl ?_
    exact k
  obtain ⟨T698, h698, X698, e698, E698, A698, D698, -, st698⟩ := newO X667 hx hZ hown (hw _ (List.mem_of_getElem? (i := 56) rfl)) (hw _ (List.mem_of_getElem? (i := 57) rfl)) (hw _ (List.mem_of_getElem? (i := 58) rfl)) e667 (g := (mkF m 65 #[.val (.ref o0), .val (.ref o1), .unset, .unset, .unset, .unset] [(.ref o0)])) rfl (hb hby d4_65) (by decide) (by decide)
  obtain ⟨b698, g698⟩ : ∃ z, z = h667.size := ⟨_, rfl⟩
  rw [← g698] at A698 D698 st698
  have ne699 : w_w_o1_value_value ≠ b698 := Nat.ne_of_lt (Nat.lt_of_lt_of_le f668.lt (Nat.le_of_eq g698.symm))
  have ne700 : o0 ≠ b698 := Nat.ne_of_lt (Nat.lt_of_lt_of_le f669.lt (Nat.le_of_eq g698.symm))
  have ne701 : o1 ≠ b698 := Nat.ne_of_lt (Nat.lt_of_lt_of_le f675.lt (Nat.le_of_eq g698.symm))
  have ne702 : w_o1_value ≠ b698 := Nat.ne_of_lt (Nat.lt_of_lt_of_le f677.lt (Nat.le_of_eq g698.symm))
  have ne703 : b196 ≠ b698 := Nat.ne_of_lt (Nat.lt_of_lt_of_le f682.lt (Nat.le_of_eq g698.symm))
  have ne704 : b283 ≠ b698 := Nat.ne_of_lt (Nat.lt_of_lt_of_le f684.lt (Nat.le_of_eq g698.symm))
  have ne705 : b371 ≠ b698 := Nat.ne_of_lt (Nat.lt_of_lt_of_le f686.lt (Nat.le_of_eq g698.symm))
  have ne706 : b466 ≠ b698 := Nat.ne_of_lt (Nat.lt_of_lt_of_le f688.lt (Nat.le_of_eq g698.symm))
  have ne707 : b530 ≠ b698 := Nat.ne_of_lt (Nat.lt_of_lt_of_le f690.lt (Nat.le_of_eq g698.symm))
  have ne708 : b597 ≠ b698 := Nat.ne_of_lt (Nat.lt_of_lt_of_le f692.lt (Nat.le_of_eq g698.symm))
  have g_b698 : n0 ≤ b698 := Nat.le_trans Z696 (Nat.le_of_eq g698.symm)
  have sz_b698 : h0.size ≤ b698 := Nat.le_trans K697.1 (Nat.le_of_eq g698.symm)
  have K709 : Keep h0 h698 [o0] := K697.ext E698
  have Z710 : n0 ≤ h698.size := Nat.le_trans Z696 E698.1
  have f711 : own_Arv Z h698 w_w_o1_value_value .byte (1 : Int32) [(.int (49 : Int32))] (.int (0 : Int32)) := f668.ext E698
  have f712 : Exa Z h698 o0 "com/example/perigo/perigo/engine/network/Node" := Exa.ext E698 f669
  have f713 : Fld Z h698 o0 "com/example/perigo/perigo/engine/network/Node" "firstJoins" "Ljava/util/Map;" w_o0_firstJoins := Fld.ext E698 f670
  have f714 : Fld Z h698 o0 "com/example/perigo/perigo/engine/network/Node" "medium" "Lcom/example/perigo/perigo/engine/event/Medium;" w_o0_medium := Fld.ext E698 f671
  have f715 : Fld Z h698 o0 "com/example/perigo/perigo/engine/network/Node" "valueKey" "J" (.long w_o0_valueKey) := Fld.ext E698 f672
  have f716 : Fld Z h698 o0 "com/example/perigo/perigo/engine/network/Node" "reachedBy" "J" (.long w_o0_reachedBy) := Fld.ext E698 f673
  have f717 : Fld Z h698 o0 "com/example/perigo/perigo/engine/network/Node" "reachedWith" "I" (.int w_o0_reachedWith) := Fld.ext E698 f674
  have f718 : Fld Z h698 o1 "com/example/perigo/perigo/engine/event/Medium" "value" "Ljava/lang/String;" (.ref w_o1_value) := Fld.ext E698 f675
  have f719 : Exa Z h698 o1 "com/example/perigo/perigo/engine/event/Medium" := Exa.ext E698 f676
  have f720 : Fld Z h698 w_o1_value "java/lang/String" "value" "[B" (.ref w_w_o1_value_value) := Fld.ext E698 f677
  have f721 : Sta Z h698 "java/lang/String" "COMPACT_STRINGS" "Z" (.int w_s_COMPACT_STRINGS) := Sta.ext E698 f678
  have f722 : Fld Z h698 w_o1_value "java/lang/String" "coder" "B" (.int (0 : Int32)) := Fld.ext E698 f679
  have f723 : Exa Z h698 w_o1_value "java/lang/String" := Exa.ext E698 f680
  have f724 : Sta Z h698 "jdk/internal/util/Preconditions" "SIOOBE_FORMATTER" "Ljava/util/function/BiFunction;" w_s_SIOOBE_FORMATTER := Sta.ext E698 f681
  have f725 : Exa Z h698 b196 "com/example/perigo/perigo/engine/network/Timeline" := Exa.ext E698 f682
  have f726 : Fld Z h698 o0 "com/example/perigo/perigo/engine/network/Node" "events" "Lcom/example/perigo/perigo/engine/network/Timeline;" (.ref b196) := Fld.ext E698 f683
  have f727 : Exa Z h698 b283 "java/util/HashMap" := Exa.ext E698 f684
  have f728 : Fld Z h698 o0 "com/example/perigo/perigo/engine/network/Node" "eventsByType" "Ljava/util/Map;" (.ref b283) := Fld.ext E698 f685
  have f729 : Exa Z h698 b371 "com/example/perigo/perigo/engine/network/Timeline" := Exa.ext E698 f686
  have f730 : Fld Z h698 o0 "com/example/perigo/perigo/engine/network/Node" "frauds" "Lcom/example/perigo/perigo/engine/network/Timeline;" (.ref b371) := Fld.ext E698 f687
  have f731 : own_Arv Z h698 b466 .long (1 : Int32) [(.long (0 : Int64))] (.long (0 : Int64)) := f688.ext E698
  have f732 : Fld Z h698 o0 "com/example/perigo/perigo/engine/network/Node" "knownSeconds" "[J" (.ref b466) := Fld.ext E698 f689
  have f733 : own_Arv Z h698 b530 .int (1 : Int32) [(.int (0 : Int32))] (.int (0 : Int32)) := f690.ext E698
  have f734 : Fld Z h698 o0 "com/example/perigo/perigo/engine/network/Node" "knownNanos" "[I" (.ref b530) := Fld.ext E698 f691
  have f735 : own_ArvR Z h698 b597 "com/example/perigo/perigo/engine/network/Node" (2 : Int32) [.null, .null] := f692.ext E698
  have f736 : Fld Z h698 o0 "com/example/perigo/perigo/engine/network/Node" "others" "[Lcom/example/perigo/perigo/engine/network/Node;" (.ref b597) := Fld.ext E698 f693
  have f737 : Fld Z h698 o0 "com/example/perigo/perigo/engine/network/Node" "besideInTimeOrder" "Z" (.int (1 : Int32)) := Fld.ext E698 f694
  have f738 : Fld Z h698 b698 "java/util/HashMap" "loadFactor" "F" (.float (0 : UInt32)) := D698 (Or.inr (hw _ (List.mem_of_getElem? (i := 71) rfl))) (ty := .float) (by decide)
  refine own_go st698 ?_
  refine own_go (S' := T698.setTop (mkF m 69 #[.val (.ref o0), .val (.ref o1), .unset, .unset, .unset, .unset] [(.ref b698), (.ref b698), (.ref o0)])) (fun t k => ?_) ?_
  · show Steps p.tables e below (T698.setTop (mkF m 68 #[.val (.ref o0), .val (.ref o1), .unset, .unset, .unset, .unset] [(.ref b698), (.ref o0)])) t
    refine XS.dup X698.here hx rfl (hb hby d4_68) rfl rfl ?_
    exact k
  obtain ⟨_, _, ⟨T739, L739, kk739, nn739⟩, -, X739, ⟨Lc739, hQ739, l739, y739, z739⟩, st739⟩ := X698.specialBack hx (y := (⟨"java/util/HashMap", "<init>", "()V"⟩ : MethodName)) rfl hown (mvT hZ (hw _ (List.mem_of_getElem? (i := 59) rfl))) (mvT hZ (hw _ (List.mem_of_getElem? (i := 60) rfl))) (mvT hZ (hw _ (List.mem_of_getElem? (i := 61) rfl))) (by decide) (backOf (W := 2) (hmInit l Z a0 hw [] b698 (0 : UInt32) h698 n0 Z710 A698 f738 g_b698) hZ (hw _ (List.mem_of_getElem? (i := 61) rfl)) (hw _ (List.mem_of_getElem? (i := 58) rfl)) (by decide) (by decide)) (g := (mkF m 69 #[.val (.ref o0), .val (.ref o1), .unset, .unset, .unset, .unset] [(.ref b698), (.ref b698), (.ref o0)])) rfl (by rw [hml]; rfl) (Steps.refl _) (a := b698) (argsL := []) (rest := [(.ref b698), (.ref o0)]) (lenOf pd_48 rfl) rfl (by show 2 * 0 + _ ≤ _; exact Nat.le_of_eq rfl) (hb hby d4_69) (fun _ _ => ⟨rfl, e698, (by decide : 15 + 0 ≤ _), (by decide : 40 + 0 ≤ _)⟩)
  dsimp only [Pt.U, Pt.locs, Pt.cells, Pt.slots] at X739 l739 y739 z739 st739 hQ739
  subst l739 y739 z739
  obtain ⟨rfl, N740, K741, p742⟩ := hQ739
  have N743 := Fr.app N695 N740
  have f744 : own_Arv Z T739.heap w_w_o1_value_value .byte (1 : Int32) [(.int (49 : Int32))] (.int (0 : Int32)) := f711.keep K741 (ninS ne699 nin0)
  have f745 : Exa Z T739.heap o0 "com/example/perigo/perigo/engine/network/Node" := f712.keep K741
  have f746 : Fld Z T739.heap o0 "com/example/perigo/perigo/engine/network/Node" "firstJoins" "Ljava/util/Map;" w_o0_firstJoins := f713.keep K741 (ninS ne700 nin0)
  have f747 : Fld Z T739.heap o0 "com/example/perigo/perigo/engine/network/Node" "medium" "Lcom/example/perigo/perigo/engine/event/Medium;" w_o0_medium := f714.keep K741 (ninS ne700 nin0)
  have f748 : Fld Z T739.heap o0 "com/example/perigo/perigo/engine/network/Node" "valueKey" "J" (.long w_o0_valueKey) := f715.keep K741 (ninS ne700 nin0)
  have f749 : Fld Z T739.heap o0 "com/example/perigo/perigo/engine/network/Node" "reachedBy" "J" (.long w_o0_reachedBy) := f716.keep K741 (ninS ne700 nin0)
  have f750 : Fld Z T739.heap o0 "com/example/perigo/perigo/engine/network/Node" "reachedWith" "I" (.int w_o0_reachedWith) := f717.keep K741 (ninS ne700 nin0)
  have f751 : Fld Z T739.heap o1 "com/example/perigo/perigo/engine/event/Medium" "value" "Ljava/lang/String;" (.ref w_o1_value) := f718.keep K741 (ninS ne701 nin0)
  have f752 : Exa Z T739.heap o1 "com/example/perigo/perigo/engine/event/Medium" := f719.keep K741
  have f753 : Fld Z T739.heap w_o1_value "java/lang/String" "value" "[B" (.ref w_w_o1_value_value) := f720.keep K741 (ninS ne702 nin0)
  have f754 : Sta Z T739.heap "java/lang/String" "COMPACT_STRINGS" "Z" (.int w_s_COMPACT_STRINGS) := own_sta_keep f721 K741 (allS (own_plain A698) all0)
  have f755 : Fld Z T739.heap w_o1_value "java/lang/String" "coder" "B" (.int (0 : Int32)) := f722.keep K741 (ninS ne702 nin0)
  have f756 : Exa Z T739.heap w_o1_value "java/lang/String" := f723.keep K741
  have f757 : Sta Z T739.heap "jdk/internal/util/Preconditions" "SIOOBE_FORMATTER" "Ljava/util/function/BiFunction;" w_s_SIOOBE_FORMATTER := own_sta_keep f724 K741 (allS (own_plain A698) all0)
  have f758 : Exa Z T739.heap b196 "com/example/perigo/perigo/engine/network/Timeline" := f725.keep K741
  have f759 : Fld Z T739.heap o0 "com/example/perigo/perigo/engine/network/Node" "events" "Lcom/example/perigo/perigo/engine/network/Timeline;" (.ref b196) := f726.keep K741 (ninS ne700 nin0)
  have f760 : Exa Z T739.heap b283 "java/util/HashMap" := f727.keep K741
  have f761 : Fld Z T739.heap o0 "com/example/perigo/perigo/engine/network/Node" "eventsByType" "Ljava/util/Map;" (.ref b283) := f728.keep K741 (ninS ne700 nin0)
  have f762 : Exa Z T739.heap b371 "com/example/perigo/perigo/engine/network/Timeline" := f729.keep K741
  have f763 : Fld Z T739.heap o0 "com/example/perigo/perigo/engine/network/Node" "frauds" "Lcom/example/perigo/perigo/engine/network/Timeline;" (.ref b371) := f730.keep K741 (ninS ne700 nin0)
  have f764 : own_Arv Z T739.heap b466 .long (1 : Int32) [(.long (0 : Int64))] (.long (0 : Int64)) := f731.keep K741 (ninS ne706 nin0)
  have f765 : Fld Z T739.heap o0 "com/example/perigo/perigo/engine/network/Node" "knownSeconds" "[J" (.ref b466) := f732.keep K741 (ninS ne700 nin0)
  have f766 : own_Arv Z T739.heap b530 .int (1 : Int32) [(.int (0 : Int32))] (.int (0 : Int32)) := f733.keep K741 (ninS ne707 nin0)
  have f767 : Fld Z T739.heap o0 "com/example/perigo/perigo/engine/network/Node" "knownNanos" "[I" (.ref b530) := f734.keep K741 (ninS ne700 nin0)
  have f768 : own_ArvR Z T739.heap b597 "com/example/perigo/perigo/engine/network/Node" (2 : Int32) [.null, .null] := f735.keep K741 (ninS ne708 nin0)
  have f769 : Fld Z T739.heap o0 "com/example/perigo/perigo/engine/network/Node" "others" "[Lcom/example/perigo/perigo/engine/network/Node;" (.ref b597) := f736.keep K741 (ninS ne700 nin0)
  have f770 : Fld Z T739.heap o0 "com/example/perigo/perigo/engine/network/Node" "besideInTimeOrder" "Z" (.int (1 : Int32)) := f737.keep K741 (ninS ne700 nin0)
  have f771 : Exa Z T739.heap b698 "java/util/HashMap" := A698.keep K741
  have Z772 : n0 ≤ T739.heap.size := Nat.le_trans Z710 K741.1
  have K773 : Keep h0 T739.heap [o0] := K709.trans K741 (allS (Or.inr sz_b698) all0)
  refine own_goT st739 ?_
  obtain ⟨T774, h774, X774, e774, W774, st774⟩ := putF X739 hx hZ hown (host := "") (Or.inl (hw _ (List.mem_of_getElem? (i := 86) rfl))) Via.refl rfl f746 f745 (Or.inr ⟨(hw _ (List.mem_of_getElem? (i := 87) rfl)), rfl, hnm⟩) (hw _ (List.mem_of_getElem? (i := 1) rfl)) (ty := (.object "java/util/Map")) (by decide) rfl rfl (g := (mkF m 72 #[.val (.ref o0), .val (.ref o1), .unset, .unset, .unset, .unset] [(.ref b698), (.ref o0)])) rfl rfl (hb hby d4_72)
  have f775 : own_Arv Z h774 w_w_o1_value_value .byte (1 : Int32) [(.int (49 : Int32))] (.int (0 : Int32)) := f744.other W774 (Ne.symm (own_neA f745 f744 (hw _ (List.mem_of_getElem? (i := 1) rfl))))
  have f776 : Exa Z h774 o0 "com/example/perigo/perigo/engine/network/Node" := f745.wr W774
  have f777 : Fld Z h774 o0 "com/example/perigo/perigo/engine/network/Node" "medium" "Lcom/example/perigo/perigo/engine/event/Medium;" w_o0_medium := f747.other W774 (Or.inr (slot_ne (Or.inr (hw _ (List.mem_of_getElem? (i := 89) rfl))) (Or.inr (hw _ (List.mem_of_getElem? (i := 87) rfl))) (by decide) (t := (.object "com/example/perigo/perigo/engine/event/Medium")) (t' := (.object "java/util/Map")) (by decide) (by decide)))
  have f778 : Fld Z h774 o0 "com/example/perigo/perigo/engine/network/Node" "valueKey" "J" (.long w_o0_valueKey) := f748.other W774 (Or.inr (slot_ne (Or.inr (hw _ (List.mem_of_getElem? (i := 131) rfl))) (Or.inr (hw _ (List.mem_of_getElem? (i := 87) rfl))) (by decide) (t := .long) (t' := (.object "java/util/Map")) (by decide) (by decide)))
  have f779 : Fld Z h774 o0 "com/example/perigo/perigo/engine/network/Node" "reachedBy" "J" (.long w_o0_reachedBy) := f749.other W774 (Or.inr (slot_ne (Or.inl (hw _ (List.mem_of_getElem? (i := 138) rfl))) (Or.inr (hw _ (List.mem_of_getElem? (i := 87) rfl))) (by decide) (t := .long) (t' := (.object "java/util/Map")) (by decide) (by decide)))
  have f780 : Fld Z h774 o0 "com/example/perigo/perigo/engine/network/Node" "reachedWith" "I" (.int w_o0_reachedWith) := f750.other W774 (Or.inr (slot_ne (Or.inl (hw _ (List.mem_of_getElem? (i := 140) rfl))) (Or.inr (hw _ (List.mem_of_getElem? (i := 87) rfl))) (by decide) (t := .int) (t' := (.object "java/util/Map")) (by decide) (by decide)))
  have f781 : Fld Z h774 o1 "com/example/perigo/perigo/engine/event/Medium" "value" "Ljava/lang/String;" (.ref w_o1_value) := f751.other W774 (Or.inl ne_o1_o0)
  have f782 : Exa Z h774 o1 "com/example/perigo/perigo/engine/event/Medium" := f752.wr W774
  have f783 : Fld Z h774 w_o1_value "java/lang/String" "value" "[B" (.ref w_w_o1_value_value) := f753.other W774 (Or.inl ne_w_o1_value_o0)
  have f784 : Sta Z h774 "java/lang/String" "COMPACT_STRINGS" "Z" (.int w_s_COMPACT_STRINGS) := f754.wr W774
  have f785 : Fld Z h774 w_o1_value "java/lang/String" "coder" "B" (.int (0 : Int32)) := f755.other W774 (Or.inl ne_w_o1_value_o0)
  have f786 : Exa Z h774 w_o1_value "java/lang/String" := f756.wr W774
  have f787 : Sta Z h774 "jdk/internal/util/Preconditions" "SIOOBE_FORMATTER" "Ljava/util/function/BiFunction;" w_s_SIOOBE_FORMATTER := f757.wr W774
  have f788 : Exa Z h774 b196 "com/example/perigo/perigo/engine/network/Timeline" := f758.wr W774
  have f789 : Fld Z h774 o0 "com/example/perigo/perigo/engine/network/Node" "events" "Lcom/example/perigo/perigo/engine/network/Timeline;" (.ref b196) := f759.other W774 (Or.inr (slot_ne (Or.inr (hw _ (List.mem_of_getElem? (i := 55) rfl))) (Or.inr (hw _ (List.mem_of_getElem? (i := 87) rfl))) (by decide) (t := (.object "com/example/perigo/perigo/engine/network/Timeline")) (t' := (.object "java/util/Map")) (by decide) (by decide)))
  have f790 : Exa Z h774 b283 "java/util/HashMap" := f760.wr W774
  have f791 : Fld Z h774 o0 "com/example/perigo/perigo/engine/network/Node" "eventsByType" "Ljava/util/Map;" (.ref b283) := f761.other W774 (Or.inr (slot_ne (Or.inr (hw _ (List.mem_of_getElem? (i := 73) rfl))) (Or.inr (hw _ (List.mem_of_getElem? (i := 87) rfl))) (by decide) (t := (.object "java/util/Map")) (t' := (.object "java/util/Map")) (by decide) (by decide)))
  have f792 : Exa Z h774 b371 "com/example/perigo/perigo/engine/network/Timeline" := f762.wr W774
  have f793 : Fld Z h774 o0 "com/example/perigo/perigo/engine/network/Node" "frauds" "Lcom/example/perigo/perigo/engine/network/Timeline;" (.ref b371) := f763.other W774 (Or.inr (slot_ne (Or.inr (hw _ (List.mem_of_getElem? (i := 75) rfl))) (Or.inr (hw _ (List.mem_of_getElem? (i := 87) rfl))) (by decide) (t := (.object "com/example/perigo/perigo/engine/network/Timeline")) (t' := (.object "java/util/Map")) (by decide) (by decide)))
  have f794 : own_Arv Z h774 b466 .long (1 : Int32) [(.long (0 : Int64))] (.long (0 : Int64)) := f764.other W774 (Ne.symm ne468)
  have f795 : Fld Z h774 o0 "com/example/perigo/perigo/engine/network/Node" "knownSeconds" "[J" (.ref b466) := f765.other W774 (Or.inr (slot_ne (Or.inl (hw _ (List.mem_of_getElem? (i := 77) rfl))) (Or.inr (hw _ (List.mem_of_getElem? (i := 87) rfl))) (by decide) (t := (.array .long)) (t' := (.object "java/util/Map")) (by decide) (by decide)))
  have f796 : own_Arv Z h774 b530 .int (1 : Int32) [(.int (0 : Int32))] (.int (0 : Int32)) := f766.other W774 (Ne.symm ne532)
  have f797 : Fld Z h774 o0 "com/example/perigo/perigo/engine/network/Node" "knownNanos" "[I" (.ref b530) := f767.other W774 (Or.inr (slot_ne (Or.inl (hw _ (List.mem_of_getElem? (i := 79) rfl))) (Or.inr (hw _ (List.mem_of_getElem? (i := 87) rfl))) (by decide) (t := (.array .int)) (t' := (.object "java/util/Map")) (by decide) (by decide)))
  have f798 : own_ArvR Z h774 b597 "com/example/perigo/perigo/engine/network/Node" (2 : Int32) [.null, .null] := f768.other W774 (Ne.symm ne599)
  have f799 : Fld Z h774 o0 "com/example/perigo/perigo/engine/network/Node" "others" "[Lcom/example/perigo/perigo/engine/network/Node;" (.ref b597) := f769.other W774 (Or.inr (slot_ne (Or.inl (hw _ (List.mem_of_getElem? (i := 83) rfl))) (Or.inr (hw _ (List.mem_of_getElem? (i := 87) rfl))) (by decide) (t := (.array (.object "com/example/perigo/perigo/engine/network/Node"))) (t' := (.object "java/util/Map")) (by decide) (by decide)))
  have f800 : Fld Z h774 o0 "com/example/perigo/perigo/engine/network/Node" "besideInTimeOrder" "Z" (.int (1 : Int32)) := f770.other W774 (Or.inr (slot_ne (Or.inl (hw _ (List.mem_of_getElem? (i := 85) rfl))) (Or.inr (hw _ (List.mem_of_getElem? (i := 87) rfl))) (by decide) (t := .boolean) (t' := (.object "java/util/Map")) (by decide) (by decide)))
  have f801 : Exa Z h774 b698 "java/util/HashMap" := p742.wr W774
  have f802 : Fld Z h774 o0 "com/example/perigo/perigo/engine/network/Node" "firstJoins" "Ljava/util/Map;" (.ref b698) := f746.same W774
  have N803 := Fr.snoc X774 N743 g_o0
  have Z804 : n0 ≤ h774.size := Nat.le_trans Z772 (Keep.of_wr W774).1
  have K805 : Keep h0 h774 [o0] := K773.wr W774 (Or.inl (List.mem_of_getElem? (i := 0) rfl))
  refine own_go st774 ?_
  refine own_go (S' := T774.setTop (mkF m 77 #[.val (.ref o0), .val (.ref o1), .unset, .unset, .unset, .unset] [(.ref o1), (.ref o0)])) (fun t k => ?_) ?_
  · show Steps p.tables e below (T774.setTop (mkF m 75 #[.val (.ref o0), .val (.ref o1), .unset, .unset, .unset, .unset] [])) t
    refine XS.aloadN X774.here hx rfl (hb hby d4_75) rfl rfl ?_
    show Steps p.tables e below (T774.setTop (mkF m 76 #[.val (.ref o0), .val (.ref o1), .unset, .unset, .unset, .unset] [(.ref o0)])) t
    refine XS.aloadN X774.here hx rfl (hb hby d4_76) rfl rfl ?_
    exact k
  obtain ⟨T806, h806, X806, e806, W806, st806⟩ := putF X774 hx hZ hown (host := "") (Or.inl (hw _ (List.mem_of_getElem? (i := 88) rfl))) Via.refl e774 f777 f776 (Or.inr ⟨(hw _ (List.mem_of_getElem? (i := 89) rfl)), rfl, hnm⟩) (hw _ (List.mem_of_getElem? (i := 1) rfl)) (ty := (.object "com/example/perigo/perigo/engine/event/Medium")) (by decide) rfl rfl (g := (mkF m 77 #[.val (.ref o0), .val (.ref o1), .unset, .unset, .unset, .unset] [(.ref o1), (.ref o0)])) rfl rfl (hb hby d4_77)
  have f807 : own_Arv Z h806 w_w_o1_value_value .byte (1 : Int32) [(.int (49 : Int32))] (.int (0 : Int32)) := f775.other W806 (Ne.symm (own_neA f776 f775 (hw _ (List.mem_of_getElem? (i := 1) rfl))))
  have f808 : Exa Z h806 o0 "com/example/perigo/perigo/engine/network/Node" := f776.wr W806
  have f809 : Fld Z h806 o0 "com/example/perigo/perigo/engine/network/Node" "valueKey" "J" (.long w_o0_valueKey) := f778.other W806 (Or.inr (slot_ne (Or.inr (hw _ (List.mem_of_getElem? (i := 131) rfl))) (Or.inr (hw _ (List.mem_of_getElem? (i := 89) rfl))) (by decide) (t := .long) (t' := (.object "com/example/perigo/perigo/engine/event/Medium")) (by decide) (by decide)))
  have f810 : Fld Z h806 o0 "com/example/perigo/perigo/engine/network/Node" "reachedBy" "J" (.long w_o0_reachedBy) := f779.other W806 (Or.inr (slot_ne (Or.inl (hw _ (List.mem_of_getElem? (i := 138) rfl))) (Or.inr (hw _ (List.mem_of_getElem? (i := 89) rfl))) (by decide) (t := .long) (t' := (.object "com/example/perigo/perigo/engine/event/Medium")) (by decide) (by decide)))
  have f811 : Fld Z h806 o0 "com/example/perigo/perigo/engine/network/Node" "reachedWith" "I" (.int w_o0_reachedWith) := f780.other W806 (Or.inr (slot_ne (Or.inl (hw _ (List.mem_of_getElem? (i := 140) rfl))) (Or.inr (hw _ (List.mem_of_getElem? (i := 89) rfl))) (by decide) (t := .int) (t' := (.object "com/example/perigo/perigo/engine/event/Medium")) (by decide) (by decide)))
  have f812 : Fld Z h806 o1 "com/example/perigo/perigo/engine/event/Medium" "value" "Ljava/lang/String;" (.ref w_o1_value) := f781.other W806 (Or.inl ne_o1_o0)
  have f813 : Exa Z h806 o1 "com/example/perigo/perigo/engine/event/Medium" := f782.wr W806
  have f814 : Fld Z h806 w_o1_value "java/lang/String" "value" "[B" (.ref w_w_o1_value_value) := f783.other W806 (Or.inl ne_w_o1_value_o0)
  have f815 : Sta Z h806 "java/lang/String" "COMPACT_STRINGS" "Z" (.int w_s_COMPACT_STRINGS) := f784.wr W806
  have f816 : Fld Z h806 w_o1_value "java/lang/String" "coder" "B" (.int (0 : Int32)) := f785.other W806 (Or.inl ne_w_o1_value_o0)
  have f817 : Exa Z h806 w_o1_value "java/lang/String" := f786.wr W806
  have f818 : Sta Z h806 "jdk/internal/util/Preconditions" "SIOOBE_FORMATTER" "Ljava/util/function/BiFunction;" w_s_SIOOBE_FORMATTER := f787.wr W806
  have f819 : Exa Z h806 b196 "com/example/perigo/perigo/engine/network/Timeline" := f788.wr W806
  have f820 : Fld Z h806 o0 "com/example/perigo/perigo/engine/network/Node" "events" "Lcom/example/perigo/perigo/engine/network/Timeline;" (.ref b196) := f789.other W806 (Or.inr (slot_ne (Or.inr (hw _ (List.mem_of_getElem? (i := 55) rfl))) (Or.inr (hw _ (List.mem_of_getElem? (i := 89) rfl))) (by decide) (t := (.object "com/example/perigo/perigo/engine/network/Timeline")) (t' := (.object "com/example/perigo/perigo/engine/event/Medium")) (by decide) (by decide)))
  have f821 : Exa Z h806 b283 "java/util/HashMap" := f790.wr W806
  have f822 : Fld Z h806 o0 "com/example/perigo/perigo/engine/network/Node" "eventsByType" "Ljava/util/Map;" (.ref b283) := f791.other W806 (Or.inr (slot_ne (Or.inr (hw _ (List.mem_of_getElem? (i := 73) rfl))) (Or.inr (hw _ (List.mem_of_getElem? (i := 89) rfl))) (by decide) (t := (.object "java/util/Map")) (t' := (.object "com/example/perigo/perigo/engine/event/Medium")) (by decide) (by decide)))
  have f823 : Exa Z h806 b371 "com/example/perigo/perigo/engine/network/Timeline" := f792.wr W806
  have f824 : Fld Z h806 o0 "com/example/perigo/perigo/engine/network/Node" "frauds" "Lcom/example/perigo/perigo/engine/network/Timeline;" (.ref b371) := f793.other W806 (Or.inr (slot_ne (Or.inr (hw _ (List.mem_of_getElem? (i := 75) rfl))) (Or.inr (hw _ (List.mem_of_getElem? (i := 89) rfl))) (by decide) (t := (.object "com/example/perigo/perigo/engine/network/Timeline")) (t' := (.object "com/example/perigo/perigo/engine/event/Medium")) (by decide) (by decide)))
  have f825 : own_Arv Z h806 b466 .long (1 : Int32) [(.long (0 : Int64))] (.long (0 : Int64)) := f794.other W806 (Ne.symm ne468)
  have f826 : Fld Z h806 o0 "com/example/perigo/perigo/engine/network/Node" "knownSeconds" "[J" (.ref b466) := f795.other W806 (Or.inr (slot_ne (Or.inl (hw _ (List.mem_of_getElem? (i := 77) rfl))) (Or.inr (hw _ (List.mem_of_getElem? (i := 89) rfl))) (by decide) (t := (.array .long)) (t' := (.object "com/example/perigo/perigo/engine/event/Medium")) (by decide) (by decide)))
  have f827 : own_Arv Z h806 b530 .int (1 : Int32) [(.int (0 : Int32))] (.int (0 : Int32)) := f796.other W806 (Ne.symm ne532)
  have f828 : Fld Z h806 o0 "com/example/perigo/perigo/engine/network/Node" "knownNanos" "[I" (.ref b530) := f797.other W806 (Or.inr (slot_ne (Or.inl (hw _ (List.mem_of_getElem? (i := 79) rfl))) (Or.inr (hw _ (List.mem_of_getElem? (i := 89) rfl))) (by decide) (t := (.array .int)) (t' := (.object "com/example/perigo/perigo/engine/event/Medium")) (by decide) (by decide)))
  have f829 : own_ArvR Z h806 b597 "com/example/perigo/perigo/engine/network/Node" (2 : Int32) [.null, .null] := f798.other W806 (Ne.symm ne599)
  have f830 : Fld Z h806 o0 "com/example/perigo/perigo/engine/network/Node" "others" "[Lcom/example/perigo/perigo/engine/network/Node;" (.ref b597) := f799.other W806 (Or.inr (slot_ne (Or.inl (hw _ (List.mem_of_getElem? (i := 83) rfl))) (Or.inr (hw _ (List.mem_of_getElem? (i := 89) rfl))) (by decide) (t := (.array (.object "com/example/perigo/perigo/engine/network/Node"))) (t' := (.object "com/example/perigo/perigo/engine/event/Medium")) (by decide) (by decide)))
  have f831 : Fld Z h806 o0 "com/example/perigo/perigo/engine/network/Node" "besideInTimeOrder" "Z" (.int (1 : Int32)) := f800.other W806 (Or.inr (slot_ne (Or.inl (hw _ (List.mem_of_getElem? (i := 85) rfl))) (Or.inr (hw _ (List.mem_of_getElem? (i := 89) rfl))) (by decide) (t := .boolean) (t' := (.object "com/example/perigo/perigo/engine/event/Medium")) (by decide) (by decide)))
  have f832 : Exa Z h806 b698 "java/util/HashMap" := f801.wr W806
  have f833 : Fld Z h806 o0 "com/example/perigo/perigo/engine/network/Node" "firstJoins" "Ljava/util/Map;" (.ref b698) := f802.other W806 (Or.inr (slot_ne (Or.inr (hw _ (List.mem_of_getElem? (i := 87) rfl))) (Or.inr (hw _ (List.mem_of_getElem? (i := 89) rfl))) (by decide) (t := (.object "java/util/Map")) (t' := (.object "com/example/perigo/perigo/engine/event/Medium")) (by decide) (by decide)))
  have f834 : Fld Z h806 o0 "com/example/perigo/perigo/engine/network/Node" "medium" "Lcom/example/perigo/perigo/engine/event/Medium;" (.ref o1) := f777.same W806
  have N835 := Fr.snoc X806 N803 g_o0
  have Z836 : n0 ≤ h806.size := Nat.le_trans Z804 (Keep.of_wr W806).1
  have K837 : Keep h0 h806 [o0] := K805.wr W806 (Or.inl (List.mem_of_getElem? (i := 0) rfl))
  refine own_go st806 ?_
  refine own_go (S' := T806.setTop (mkF m 94 #[.val (.ref o0), .val (.ref o1), .val (.long (0 : Int64)), .second, .val (.int (0 : Int32)), .unset] [(.ref o1), (.int (0 : Int32))])) (fun t k => ?_) ?_
  · show Steps p.tables e below (T806.setTop (mkF m 80 #[.val (.ref o0), .val (.ref o1), .unset, .unset, .unset, .unset] [])) t
    refine XS.lconst X806.here hx rfl (hb hby d4_80) ?_
    show Steps p.tables e below (T806.setTop (mkF m 81 #[.val (.ref o0), .val (.ref o1), .unset, .unset, .unset, .unset] [(.long (0 : Int64))])) t
    refine XS.lstoreN X806.here hx rfl (hb hby d4_81) rfl (l' := #[.val (.ref o0), .val (.ref o1), .val (.long (0 : Int64)), .second, .unset, .unset]) rfl ?_
    show Steps p.tables e below (T806.setTop (mkF m 82 #[.val (.ref o0), .val (.ref o1), .val (.long (0 : Int64)), .second, .unset, .unset] [])) t
    refine XS.iconst X806.here hx rfl (hb hby d4_82) ?_
    show Steps p.tables e below (T806.setTop (mkF m 83 #[.val (.ref o0), .val (.ref o1), .val (.long (0 : Int64)), .second, .unset, .unset] [(.int (0 : Int32))])) t
    refine XS.istore X806.here hx rfl (hb hby d4_83) rfl (l' := #[.val (.ref o0), .val (.ref o1), .val (.long (0 : Int64)), .second, .val (.int (0 : Int32)), .unset]) rfl ?_
    show Steps p.tables e below (T806.setTop (mkF m 85 #[.val (.ref o0), .val (.ref o1), .val (.long (0 : Int64)), .second, .val (.int (0 : Int32)), .unset] [])) t
    refine XS.iload X806.here hx rfl (hb hby d4_85) rfl ?_
    show Steps p.tables e below (T806.setTop (mkF m 87 #[.val (.ref o0), .val (.ref o1), .val (.long (0 : Int64)), .second, .val (.int (0 : Int32)), .unset] [(.int (0 : Int32))])) t
    refine XS.iconst X806.here hx rfl (hb hby d4_87) ?_
    show Steps p.tables e below (T806.setTop (mkF m 88 #[.val (.ref o0), .val (.ref o1), .val (.long (0 : Int64)), .second, .val (.int (0 : Int32)), .unset] [(.int (4 : Int32)), (.int (0 : Int32))])) t
    refine XS.icmpNo X806.here hx rfl (hb hby d4_88) rfl (tlt (by decide)).2.1 ?_
    show Steps p.tables e below (T806.setTop (mkF m 91 #[.val (.ref o0), .val (.ref o1), .val (.long (0 : Int64)), .second, .val (.int (0 : Int32)), .unset] [])) t
    refine XS.iload X806.here hx rfl (hb hby d4_91) rfl ?_
    show Steps p.tables e below (T806.setTop (mkF m 93 #[.val (.ref o0), .val (.ref o1), .val (.long (0 : Int64)), .second, .val (.int (0 : Int32)), .unset] [(.int (0 : Int32))])) t
    refine XS.aloadN X806.here hx rfl (hb hby d4_93) rfl rfl ?_
    exact k
  obtain ⟨cq838, kq838, qa838, qb838, qc838⟩ := isOf hZ e806 f813
  obtain ⟨_, _, ⟨T838, L838, kk838, nn838⟩, -, X838, ⟨Lc838, hQ838, l838, y838, z838⟩, st838⟩ := X806.virtualBack hx (y := (⟨"com/example/perigo/perigo/engine/event/Medium", "value", "()Ljava/lang/String;"⟩ : MethodName)) (z := (⟨"com/example/perigo/perigo/engine/event/Medium", "value", "()Ljava/lang/String;"⟩ : MethodName)) hown (mvT hZ (hw _ (List.mem_of_getElem? (i := 90) rfl))) (mvT hZ (hw _ (List.mem_of_getElem? (i := 91) rfl))) (notFace_of_selects (args := #[]) (mvT hZ (hw _ (List.mem_of_getElem? (i := 93) rfl)))) (mvT hZ (hw _ (List.mem_of_getElem? (i := 93) rfl))) (mvT hZ (hw _ (List.mem_of_getElem? (i := 92) rfl))) (by decide) (backOf (W := 1) (meVal l Z a0 hw [] o1 w_o1_value h806 n0 Z836 f812) hZ (hw _ (List.mem_of_getElem? (i := 94) rfl)) (hw _ (List.mem_of_getElem? (i := 5) rfl)) (by decide) (by decide)) qa838 qc838 (g := (mkF m 94 #[.val (.ref o0), .val (.ref o1), .val (.long (0 : Int64)), .second, .val (.int (0 : Int32)), .unset] [(.ref o1), (.int (0 : Int32))])) rfl (by rw [hml]; rfl) (Steps.refl _) (argsL := []) (rest := [(.int (0 : Int32))]) (lenOf pd_168 rfl) rfl (by show 2 * 0 + _ ≤ _; exact Nat.le_of_eq rfl) (hb hby d4_94) (fun _ _ => ⟨rfl, e806, (by decide : 15 + 0 ≤ _), (by decide : 40 + 0 ≤ _)⟩)
  dsimp only [Pt.U, Pt.locs, Pt.cells, Pt.slots] at X838 l838 y838 z838 st838 hQ838
  subst l838 y838 z838
  obtain ⟨rfl, N839, e838⟩ := hQ838
  have N841 := Fr.app N835 N839
  refine own_goT st838 ?_
  obtain ⟨cq842, kq842, qa842, qb842, qc842⟩ := isOf hZ e838 f817
  obtain ⟨_, _, ⟨T842, L842, kk842, nn842⟩, -, X842, ⟨Lc842, hQ842, l842, y842, z842⟩, st842⟩ := X838.virtualBack hx (y := (⟨"java/lang/String", "length", "()I"⟩ : MethodName)) (z := (⟨"java/lang/String", "length", "()I"⟩ : MethodName)) hown (mvT hZ (hw _ (List.mem_of_getElem? (i := 95) rfl))) (mvT hZ (hw _ (List.mem_of_getElem? (i := 96) rfl))) (notFace_of_selects (args := #[]) (mvT hZ (hw _ (List.mem_of_getElem? (i := 98) rfl)))) (mvT hZ (hw _ (List.mem_of_getElem? (i := 98) rfl))) (mvT hZ (hw _ (List.mem_of_getElem? (i := 97) rfl))) (by decide) (backOf (W := 1) (len l Z a0 hw [] w_o1_value w_s_COMPACT_STRINGS w_w_o1_value_value h806 n0 Z836 (hcs : ¬ (w_s_COMPACT_STRINGS = (0 : Int32))) f807 f814 f815 f816 f817) hZ (hw _ (List.mem_of_getElem? (i := 99) rfl)) (hw _ (List.mem_of_getElem? (i := 7) rfl)) (by decide) (by decide)) qa842 qc842 (g := (mkF m 97 #[.val (.ref o0), .val (.ref o1), .val (.long (0 : Int64)), .second, .val (.int (0 : Int32)), .unset] [(.ref w_o1_value), (.int (0 : Int32))])) rfl (by rw [hml]; rfl) (Steps.refl _) (argsL := []) (rest := [(.int (0 : Int32))]) (lenOf pd_170 rfl) rfl (by show 2 * 0 + _ ≤ _; exact Nat.le_of_eq rfl) (hb hby d4_97) (fun _ _ => ⟨rfl, e838, (by decide : 15 + 0 ≤ _), (by decide : 40 + 0 ≤ _)⟩)
  dsimp only [Pt.U, Pt.locs, Pt.cells, Pt.slots] at X842 l842 y842 z842 st842 hQ842
  subst l842 y842 z842
  obtain ⟨rfl, N843, e842⟩ := hQ842
  have N845 := Fr.app N841 N843
  refine own_goT st842 ?_
  have hf846 : ((1 : Int32) >>> ((0 : Int32) &&& 31)) = (1 : Int32) := by decide
  rw [hf846]
  refine own_go (S' := T842.setTop (mkF m 104 #[.val (.ref o0), .val (.ref o1), .val (.long (0 : Int64)), .second, .val (.int (0 : Int32)), .unset] [(.ref o1)])) (fun t k => ?_) ?_
  · show Steps p.tables e below (T842.setTop (mkF m 100 #[.val (.ref o0), .val (.ref o1), .val (.long (0 : Int64)), .second, .val (.int (0 : Int32)), .unset] [(.int (1 : Int32)), (.int (0 : Int32))])) t
    refine XS.icmpNo X842.here hx rfl (hb hby d4_100) rfl (tlt (by decide)).2.1 ?_
    show Steps p.tables e below (T842.setTop (mkF m 103 #[.val (.ref o0), .val (.ref o1), .val (.long (0 : Int64)), .second, .val (.int (0 : Int32)), .unset] [])) t
    refine XS.aloadN X842.here hx rfl (hb hby d4_103) rfl rfl ?_
    exact k
  obtain ⟨cq847, kq847, qa847, qb847, qc847⟩ := isOf hZ e842 f813
  obtain ⟨_, _, ⟨T847, L847, kk847, nn847⟩, -, X847, ⟨Lc847, hQ847, l847, y847, z847⟩, st847⟩ := X842.virtualBack hx (y := (⟨"com/example/perigo/perigo/engine/event/Medium", "value", "()Ljava/lang/String;"⟩ : MethodName)) (z := (⟨"com/example/perigo/perigo/engine/event/Medium", "value", "()Ljava/lang/String;"⟩ : MethodName)) hown (mvT hZ (hw _ (List.mem_of_getElem? (i := 90) rfl))) (mvT hZ (hw _ (List.mem_of_getElem? (i := 91) rfl))) (notFace_of_selects (args := #[]) (mvT hZ (hw _ (List.mem_of_getElem? (i := 93) rfl)))) (mvT hZ (hw _ (List.mem_of_getElem? (i := 93) rfl))) (mvT hZ (hw _ (List.mem_of_getElem? (i := 92) rfl))) (by decide) (backOf (W := 0) (meVal l Z a0 hw [] o1 w_o1_value h806 n0 Z836 f812) hZ (hw _ (List.mem_of_getElem? (i := 94) rfl)) (hw _ (List.mem_of_getElem? (i := 5) rfl)) (by decide) (by decide)) qa847 qc847 (g := (mkF m 104 #[.val (.ref o0), .val (.ref o1), .val (.long (0 : Int64)), .second, .val (.int (0 : Int32)), .unset] [(.ref o1)])) rfl (by rw [hml]; rfl) (Steps.refl _) (argsL := []) (rest := []) (lenOf pd_168 rfl) rfl (by show 2 * 0 + _ ≤ _; exact Nat.le_of_eq rfl) (hb hby d4_104) (fun _ _ => ⟨rfl, e842, (by decide : 15 + 0 ≤ _), (by decide : 40 + 0 ≤ _)⟩)
  dsimp only [Pt.U, Pt.locs, Pt.cells, Pt.slots] at X847 l847 y847 z847 st847 hQ847
  subst l847 y847 z847
  obtain ⟨rfl, N848, e847⟩ := hQ847
  have N850 := Fr.app N845 N848
  refine own_goT st847 ?_
  refine own_go (S' := T847.setTop (mkF m 109 #[.val (.ref o0), .val (.ref o1), .val (.long (0 : Int64)), .second, .val (.int (0 : Int32)), .unset] [(.int (0 : Int32)), (.ref w_o1_value)])) (fun t k => ?_) ?_
  · show Steps p.tables e below (T847.setTop (mkF m 107 #[.val (.ref o0), .val (.ref o1), .val (.long (0 : Int64)), .second, .val (.int (0 : Int32)), .unset] [(.ref w_o1_value)])) t
    refine XS.iload X847.here hx rfl (hb hby d4_107) rfl ?_
    exact k
  obtain ⟨cq851, kq851, qa851, qb851, qc851⟩ := isOf hZ e847 f817
  obtain ⟨_, _, ⟨T851, L851, kk851, nn851⟩, -, X851, ⟨Lc851, hQ851, l851, y851, z851⟩, st851⟩ := X847.virtualBack hx (y := (⟨"java/lang/String", "charAt", "(I)C"⟩ : MethodName)) (z := (⟨"java/lang/String", "charAt", "(I)C"⟩ : MethodName)) hown (mvT hZ (hw _ (List.mem_of_getElem? (i := 108) rfl))) (mvT hZ (hw _ (List.mem_of_getElem? (i := 109) rfl))) (notFace_of_selects (args := #[]) (mvT hZ (hw _ (List.mem_of_getElem? (i := 111) rfl)))) (mvT hZ (hw _ (List.mem_of_getElem? (i := 111) rfl))) (mvT hZ (hw _ (List.mem_of_getElem? (i := 110) rfl))) (by decide) (backOf (W := 0) (charAt l Z a0 hw [] w_o1_value w_s_COMPACT_STRINGS w_w_o1_value_value w_s_SIOOBE_FORMATTER h806 n0 Z836 (hcs : ¬ (w_s_COMPACT_STRINGS = (0 : Int32))) f807 f815 f816 f817 f814 (by first | rfl | assumption | decide | omega : w_s_SIOOBE_FORMATTER.isRef = true) f818) hZ (hw _ (List.mem_of_getElem? (i := 112) rfl)) (hw _ (List.mem_of_getElem? (i := 7) rfl)) (by decide) (by decide)) qa851 qc851 (g := (mkF m 109 #[.val (.ref o0), .val (.ref o1), .val (.long (0 : Int64)), .second, .val (.int (0 : Int32)), .unset] [(.int (0 : Int32)), (.ref w_o1_value)])) rfl (by rw [hml]; rfl) (Steps.refl _) (argsL := [(.int (0 : Int32))]) (rest := []) (lenOf pd_176 rfl) rfl (by show 2 * 0 + _ ≤ _; exact Nat.le_of_eq rfl) (hb hby d4_109) (fun _ _ => ⟨rfl, e847, (by decide : 15 + 0 ≤ _), (by decide : 40 + 0 ≤ _)⟩)
  dsimp only [Pt.U, Pt.locs, Pt.cells, Pt.slots] at X851 l851 y851 z851 st851 hQ851
  subst l851 y851 z851
  obtain ⟨rfl, N852, e851⟩ := hQ851
  have N854 := Fr.app N850 N852
  refine own_goT st851 ?_
  refine own_go (S' := T851.setTop (mkF m 94 #[.val (.ref o0), .val (.ref o1), .val (.long (((0 : Int64) <<< ((16 : Int32) &&& 0x3f).toInt64) ||| ((nar .char (nar .char (((49 : Int32) &&& (255 : Int32)).toUInt32.toUInt16.toUInt32.toInt32))).toInt64))), .second, .val (.int (1 : Int32)), .val (.int (nar .char (nar .char (((49 : Int32) &&& (255 : Int32)).toUInt32.toUInt16.toUInt32.toInt32))))] [(.ref o1), (.int (1 : Int32))])) (fun t k => ?_) ?_
  · show Steps p.tables e below (T851.setTop (mkF m 112 #[.val (.ref o0), .val (.ref o1), .val (.long (0 : Int64)), .second, .val (.int (0 : Int32)), .unset] [(.int (nar .char (nar .char (((49 : Int32) &&& (255 : Int32)).toUInt32.toUInt16.toUInt32.toInt32))))])) t
    refine XS.goto X851.here hx rfl (pc0 := 112) (pc' := 116) rfl (hb hby d4_112) (by decide) (by decide) ?_
    show Steps p.tables e below (T851.setTop (mkF m 116 #[.val (.ref o0), .val (.ref o1), .val (.long (0 : Int64)), .second, .val (.int (0 : Int32)), .unset] [(.int (nar .char (nar .char (((49 : Int32) &&& (255 : Int32)).toUInt32.toUInt16.toUInt32.toInt32))))])) t
    refine XS.istore X851.here hx rfl (hb hby d4_116) rfl (l' := #[.val (.ref o0), .val (.ref o1), .val (.long (0 : Int64)), .second, .val (.int (0 : Int32)), .val (.int (nar .char (nar .char (((49 : Int32) &&& (255 : Int32)).toUInt32.toUInt16.toUInt32.toInt32))))]) rfl ?_
    show Steps p.tables e below (T851.setTop (mkF m 118 #[.val (.ref o0), .val (.ref o1), .val (.long (0 : Int64)), .second, .val (.int (0 : Int32)), .val (.int (nar .char (nar .char (((49 : Int32) &&& (255 : Int32)).toUInt32.toUInt16.toUInt32.toInt32))))] [])) t
    refine XS.lloadN X851.here hx rfl (hb hby d4_118) rfl ?_
    show Steps p.tables e below (T851.setTop (mkF m 119 #[.val (.ref o0), .val (.ref o1), .val (.long (0 : Int64)), .second, .val (.int (0 : Int32)), .val (.int (nar .char (nar .char (((49 : Int32) &&& (255 : Int32)).toUInt32.toUInt16.toUInt32.toInt32))))] [(.long (0 : Int64))])) t
    refine XS.bipush X851.here hx rfl (hb hby d4_119) ?_
    show Steps p.tables e below (T851.setTop (mkF m 121 #[.val (.ref o0), .val (.ref o1), .val (.long (0 : Int64)), .second, .val (.int (0 : Int32)), .val (.int (nar .char (nar .char (((49 : Int32) &&& (255 : Int32)).toUInt32.toUInt16.toUInt32.toInt32))))] [(.int (16 : Int32)), (.long (0 : Int64))])) t
    refine XS.lshl X851.here hx rfl (hb hby d4_121) rfl ?_
    show Steps p.tables e below (T851.setTop (mkF m 122 #[.val (.ref o0), .val (.ref o1), .val (.long (0 : Int64)), .second, .val (.int (0 : Int32)), .val (.int (nar .char (nar .char (((49 : Int32) &&& (255 : Int32)).toUInt32.toUInt16.toUInt32.toInt32))))] [(.long ((0 : Int64) <<< ((16 : Int32) &&& 0x3f).toInt64))])) t
    refine XS.iload X851.here hx rfl (hb hby d4_122) rfl ?_
    show Steps p.tables e below (T851.setTop (mkF m 124 #[.val (.ref o0), .val (.ref o1), .val (.long (0 : Int64)), .second, .val (.int (0 : Int32)), .val (.int (nar .char (nar .char (((49 : Int32) &&& (255 : Int32)).toUInt32.toUInt16.toUInt32.toInt32))))] [(.int (nar .char (nar .char (((49 : Int32) &&& (255 : Int32)).toUInt32.toUInt16.toUInt32.toInt32)))), (.long ((0 : Int64) <<< ((16 : Int32) &&& 0x3f).toInt64))])) t
    refine XS.i2l X851.here hx rfl (hb hby d4_124) rfl ?_
    show Steps p.tables e below (T851.setTop (mkF m 125 #[.val (.ref o0), .val (.ref o1), .val (.long (0 : Int64)), .second, .val (.int (0 : Int32)), .val (.int (nar .char (nar .char (((49 : Int32) &&& (255 : Int32)).toUInt32.toUInt16.toUInt32.toInt32))))] [(.long ((nar .char (nar .char (((49 : Int32) &&& (255 : Int32)).toUInt32.toUInt16.toUInt32.toInt32))).toInt64)), (.long ((0 : Int64) <<< ((16 : Int32) &&& 0x3f).toInt64))])) t
    refine XS.lor X851.here hx rfl (hb hby d4_125) rfl ?_
    show Steps p.tables e below (T851.setTop (mkF m 126 #[.val (.ref o0), .val (.ref o1), .val (.long (0 : Int64)), .second, .val (.int (0 : Int32)), .val (.int (nar .char (nar .char (((49 : Int32) &&& (255 : Int32)).toUInt32.toUInt16.toUInt32.toInt32))))] [(.long (((0 : Int64) <<< ((16 : Int32) &&& 0x3f).toInt64) ||| ((nar .char (nar .char (((49 : Int32) &&& (255 : Int32)).toUInt32.toUInt16.toUInt32.toInt32))).toInt64)))])) t
    refine XS.lstoreN X851.here hx rfl (hb hby d4_126) rfl (l' := #[.val (.ref o0), .val (.ref o1), .val (.long (((0 : Int64) <<< ((16 : Int32) &&& 0x3f).toInt64) ||| ((nar .char (nar .char (((49 : Int32) &&& (255 : Int32)).toUInt32.toUInt16.toUInt32.toInt32))).toInt64))), .second, .val (.int (0 : Int32)), .val (.int (nar .char (nar .char (((49 : Int32) &&& (255 : Int32)).toUInt32.toUInt16.toUInt32.toInt32))))]) rfl ?_
    show Steps p.tables e below (T851.setTop (mkF m 127 #[.val (.ref o0), .val (.ref o1), .val (.long (((0 : Int64) <<< ((16 : Int32) &&& 0x3f).toInt64) ||| ((nar .char (nar .char (((49 : Int32) &&& (255 : Int32)).toUInt32.toUInt16.toUInt32.toInt32))).toInt64))), .second, .val (.int (0 : Int32)), .val (.int (nar .char (nar .char (((49 : Int32) &&& (255 : Int32)).toUInt32.toUInt16.toUInt32.toInt32))))] [])) t
    refine XS.iinc X851.here hx rfl (hb hby d4_127) rfl (l' := #[.val (.ref o0), .val (.ref o1), .val (.long (((0 : Int64) <<< ((16 : Int32) &&& 0x3f).toInt64) ||| ((nar .char (nar .char (((49 : Int32) &&& (255 : Int32)).toUInt32.toUInt16.toUInt32.toInt32))).toInt64))), .second, .val (.int (1 : Int32)), .val (.int (nar .char (nar .char (((49 : Int32) &&& (255 : Int32)).toUInt32.toUInt16.toUInt32.toInt32))))]) rfl ?_
    show Steps p.tables e below (T851.setTop (mkF m 130 #[.val (.ref o0), .val (.ref o1), .val (.long (((0 : Int64) <<< ((16 : Int32) &&& 0x3f).toInt64) ||| ((nar .char (nar .char (((49 : Int32) &&& (255 : Int32)).toUInt32.toUInt16.toUInt32.toInt32))).toInt64))), .second, .val (.int (1 : Int32)), .val (.int (nar .char (nar .char (((49 : Int32) &&& (255 : Int32)).toUInt32.toUInt16.toUInt32.toInt32))))] [])) t
    refine XS.goto X851.here hx rfl (pc0 := 130) (pc' := 85) rfl (hb hby d4_130) (by decide) (by decide) ?_
    show Steps p.tables e below (T851.setTop (mkF m 85 #[.val (.ref o0), .val (.ref o1), .val (.long (((0 : Int64) <<< ((16 : Int32) &&& 0x3f).toInt64) ||| ((nar .char (nar .char (((49 : Int32) &&& (255 : Int32)).toUInt32.toUInt16.toUInt32.toInt32))).toInt64))), .second, .val (.int (1 : Int32)), .val (.int (nar .char (nar .char (((49 : Int32) &&& (255 : Int32)).toUInt32.toUInt16.toUInt32.toInt32))))] [])) t
    refine XS.iload X851.here hx rfl (hb hby d4_85) rfl ?_
    show Steps p.tables e below (T851.setTop (mkF m 87 #[.val (.ref o0), .val (.ref o1), .val (.long (((0 : Int64) <<< ((16 : Int32) &&& 0x3f).toInt64) ||| ((nar .char (nar .char (((49 : Int32) &&& (255 : Int32)).toUInt32.toUInt16.toUInt32.toInt32))).toInt64))), .second, .val (.int (1 : Int32)), .val (.int (nar .char (nar .char (((49 : Int32) &&& (255 : Int32)).toUInt32.toUInt16.toUInt32.toInt32))))] [(.int (1 : Int32))])) t
    refine XS.iconst X851.here hx rfl (hb hby d4_87) ?_
    show Steps p.tables e below (T851.setTop (mkF m 88 #[.val (.ref o0), .val (.ref o1), .val (.long (((0 : Int64) <<< ((16 : Int32) &&& 0x3f).toInt64) ||| ((nar .char (nar .char (((49 : Int32) &&& (255 : Int32)).toUInt32.toUInt16.toUInt32.toInt32))).toInt64))), .second, .val (.int (1 : Int32)), .val (.int (nar .char (nar .char (((49 : Int32) &&& (255 : Int32)).toUInt32.toUInt16.toUInt32.toInt32))))] [(.int (4 : Int32)), (.int (1 : Int32))])) t
    refine XS.icmpNo X851.here hx rfl (hb hby d4_88) rfl (tlt (by decide)).2.1 ?_
    show Steps p.tables e below (T851.setTop (mkF m 91 #[.val (.ref o0), .val (.ref o1), .val (.long (((0 : Int64) <<< ((16 : Int32) &&& 0x3f).toInt64) ||| ((nar .char (nar .char (((49 : Int32) &&& (255 : Int32)).toUInt32.toUInt16.toUInt32.toInt32))).toInt64))), .second, .val (.int (1 : Int32)), .val (.int (nar .char (nar .char (((49 : Int32) &&& (255 : Int32)).toUInt32.toUInt16.toUInt32.toInt32))))] [])) t
    refine XS.iload X851.here hx rfl (hb hby d4_91) rfl ?_
    show Steps p.tables e below (T851.setTop (mkF m 93 #[.val (.ref o0), .val (.ref o1), .val (.long (((0 : Int64) <<< ((16 : Int32) &&& 0x3f).toInt64) ||| ((nar .char (nar .char (((49 : Int32) &&& (255 : Int32)).toUInt32.toUInt16.toUInt32.toInt32))).toInt64))), .second, .val (.int (1 : Int32)), .val (.int (nar .char (nar .char (((49 : Int32) &&& (255 : Int32)).toUInt32.toUInt16.toUInt32.toInt32))))] [(.int (1 : Int32))])) t
    refine XS.aloadN X851.here hx rfl (hb hby d4_93) rfl rfl ?_
    exact k
  obtain ⟨cq855, kq855, qa855, qb855, qc855⟩ := isOf hZ e851 f813
  obtain ⟨_, _, ⟨T855, L855, kk855, nn855⟩, -, X855, ⟨Lc855, hQ855, l855, y855, z855⟩, st855⟩ := X851.virtualBack hx (y := (⟨"com/example/perigo/perigo/engine/event/Medium", "value", "()Ljava/lang/String;"⟩ : MethodName)) (z := (⟨"com/example/perigo/perigo/engine/event/Medium", "value", "()Ljava/lang/String;"⟩ : MethodName)) hown (mvT hZ (hw _ (List.mem_of_getElem? (i := 90) rfl))) (mvT hZ (hw _ (List.mem_of_getElem? (i := 91) rfl))) (notFace_of_selects (args := #[]) (mvT hZ (hw _ (List.mem_of_getElem? (i := 93) rfl)))) (mvT hZ (hw _ (List.mem_of_getElem? (i := 93) rfl))) (mvT hZ (hw _ (List.mem_of_getElem? (i := 92) rfl))) (by decide) (backOf (W := 1) (meVal l Z a0 hw [] o1 w_o1_value h806 n0 Z836 f812) hZ (hw _ (List.mem_of_getElem? (i := 94) rfl)) (hw _ (List.mem_of_getElem? (i := 5) rfl)) (by decide) (by decide)) qa855 qc855 (g := (mkF m 94 #[.val (.ref o0), .val (.ref o1), .val (.long (((0 : Int64) <<< ((16 : Int32) &&& 0x3f).toInt64) ||| ((nar .char (nar .char (((49 : Int32) &&& (255 : Int32)).toUInt32.toUInt16.toUInt32.toInt32))).toInt64))), .second, .val (.int (1 : Int32)), .val (.int (nar .char (nar .char (((49 : Int32) &&& (255 : Int32)).toUInt32.toUInt16.toUInt32.toInt32))))] [(.ref o1), (.int (1 : Int32))])) rfl (by rw [hml]; rfl) (Steps.refl _) (argsL := []) (rest := [(.int (1 : Int32))]) (lenOf pd_168 rfl) rfl (by show 2 * 0 + _ ≤ _; exact Nat.le_of_eq rfl) (hb hby d4_94) (fun _ _ => ⟨rfl, e851, (by decide : 15 + 0 ≤ _), (by decide : 40 + 0 ≤ _)⟩)
  dsimp only [Pt.U, Pt.locs, Pt.cells, Pt.slots] at X855 l855 y855 z855 st855 hQ855
  subst l855 y855 z855
  obtain ⟨rfl, N856, e855⟩ := hQ855
  have N858 := Fr.app N854 N856
  refine own_goT st855 ?_
  obtain ⟨cq859, kq859, qa859, qb859, qc859⟩ := isOf hZ e855 f817
  obtain ⟨_, _, ⟨T859, L859, kk859, nn859⟩, -, X859, ⟨Lc859, hQ859, l859, y859, z859⟩, st859⟩ := X855.virtualBack hx (y := (⟨"java/lang/String", "length", "()I"⟩ : MethodName)) (z := (⟨"java/lang/String", "length", "()I"⟩ : MethodName)) hown (mvT hZ (hw _ (List.mem_of_getElem? (i := 95) rfl))) (mvT hZ (hw _ (List.mem_of_getElem? (i := 96) rfl))) (notFace_of_selects (args := #[]) (mvT hZ (hw _ (List.mem_of_getElem? (i := 98) rfl)))) (mvT hZ (hw _ (List.mem_of_getElem? (i := 98) rfl))) (mvT hZ (hw _ (List.mem_of_getElem? (i := 97) rfl))) (by decide) (backOf (W := 1) (len l Z a0 hw [] w_o1_value w_s_COMPACT_STRINGS w_w_o1_value_value h806 n0 Z836 (hcs : ¬ (w_s_COMPACT_STRINGS = (0 : Int32))) f807 f814 f815 f816 f817) hZ (hw _ (List.mem_of_getElem? (i := 99) rfl)) (hw _ (List.mem_of_getElem? (i := 7) rfl)) (by decide) (by decide)) qa859 qc859 (g := (mkF m 97 #[.val (.ref o0), .val (.ref o1), .val (.long (((0 : Int64) <<< ((16 : Int32) &&& 0x3f).toInt64) ||| ((nar .char (nar .char (((49 : Int32) &&& (255 : Int32)).toUInt32.toUInt16.toUInt32.toInt32))).toInt64))), .second, .val (.int (1 : Int32)), .val (.int (nar .char (nar .char (((49 : Int32) &&& (255 : Int32)).toUInt32.toUInt16.toUInt32.toInt32))))] [(.ref w_o1_value), (.int (1 : Int32))])) rfl (by rw [hml]; rfl) (Steps.refl _) (argsL := []) (rest := [(.int (1 : Int32))]) (lenOf pd_170 rfl) rfl (by show 2 * 0 + _ ≤ _; exact Nat.le_of_eq rfl) (hb hby d4_97) (fun _ _ => ⟨rfl, e855, (by decide : 15 + 0 ≤ _), (by decide : 40 + 0 ≤ _)⟩)
  dsimp only [Pt.U, Pt.locs, Pt.cells, Pt.slots] at X859 l859 y859 z859 st859 hQ859
  subst l859 y859 z859
  obtain ⟨rfl, N860, e859⟩ := hQ859
  have N862 := Fr.app N858 N860
  refine own_goT st859 ?_
  have hf863 : ((1 : Int32) >>> ((0 : Int32) &&& 31)) = (1 : Int32) := by decide
  rw [hf863]
  refine own_go (S' := T859.setTop (mkF m 94 #[.val (.ref o0), .val (.ref o1), .val (.long (((((0 : Int64) <<< ((16 : Int32) &&& 0x3f).toInt64) ||| ((nar .char (nar .char (((49 : Int32) &&& (255 : Int32)).toUInt32.toUInt16.toUInt32.toInt32))).toInt64)) <<< ((16 : Int32) &&& 0x3f).toInt64) ||| ((0 : Int32).toInt64))), .second, .val (.int (2 : Int32)), .val (.int (0 : Int32))] [(.ref o1), (.int (2 : Int32))])) (fun t k => ?_) ?_
  · show Steps p.tables e below (T859.setTop (mkF m 100 #[.val (.ref o0), .val (.ref o1), .val (.long (((0 : Int64) <<< ((16 : Int32) &&& 0x3f).toInt64) ||| ((nar .char (nar .char (((49 : Int32) &&& (255 : Int32)).toUInt32.toUInt16.toUInt32.toInt32))).toInt64))), .second, .val (.int (1 : Int32)), .val (.int (nar .char (nar .char (((49 : Int32) &&& (255 : Int32)).toUInt32.toUInt16.toUInt32.toInt32))))] [(.int (1 : Int32)), (.int (1 : Int32))])) t
    refine XS.icmpYes X859.here hx rfl (pc0 := 100) (pc' := 115) rfl (hb hby d4_100) rfl (flt (by decide)).2.1 (by decide) (by decide) ?_
    show Steps p.tables e below (T859.setTop (mkF m 115 #[.val (.ref o0), .val (.ref o1), .val (.long (((0 : Int64) <<< ((16 : Int32) &&& 0x3f).toInt64) ||| ((nar .char (nar .char (((49 : Int32) &&& (255 : Int32)).toUInt32.toUInt16.toUInt32.toInt32))).toInt64))), .second, .val (.int (1 : Int32)), .val (.int (nar .char (nar .char (((49 : Int32) &&& (255 : Int32)).toUInt32.toUInt16.toUInt32.toInt32))))] [])) t
    refine XS.iconst X859.here hx rfl (hb hby d4_115) ?_
    show Steps p.tables e below (T859.setTop (mkF m 116 #[.val (.ref o0), .val (.ref o1), .val (.long (((0 : Int64) <<< ((16 : Int32) &&& 0x3f).toInt64) ||| ((nar .char (nar .char (((49 : Int32) &&& (255 : Int32)).toUInt32.toUInt16.toUInt32.toInt32))).toInt64))), .second, .val (.int (1 : Int32)), .val (.int (nar .char (nar .char (((49 : Int32) &&& (255 : Int32)).toUInt32.toUInt16.toUInt32.toInt32))))] [(.int (0 : Int32))])) t
    refine XS.istore X859.here hx rfl (hb hby d4_116) rfl (l' := #[.val (.ref o0), .val (.ref o1), .val (.long (((0 : Int64) <<< ((16 : Int32) &&& 0x3f).toInt64) ||| ((nar .char (nar .char (((49 : Int32) &&& (255 : Int32)).toUInt32.toUInt16.toUInt32.toInt32))).toInt64))), .second, .val (.int (1 : Int32)), .val (.int (0 : Int32))]) rfl ?_
    show Steps p.tables e below (T859.setTop (mkF m 118 #[.val (.ref o0), .val (.ref o1), .val (.long (((0 : Int64) <<< ((16 : Int32) &&& 0x3f).toInt64) ||| ((nar .char (nar .char (((49 : Int32) &&& (255 : Int32)).toUInt32.toUInt16.toUInt32.toInt32))).toInt64))), .second, .val (.int (1 : Int32)), .val (.int (0 : Int32))] [])) t
    refine XS.lloadN X859.here hx rfl (hb hby d4_118) rfl ?_
    show Steps p.tables e below (T859.setTop (mkF m 119 #[.val (.ref o0), .val (.ref o1), .val (.long (((0 : Int64) <<< ((16 : Int32) &&& 0x3f).toInt64) ||| ((nar .char (nar .char (((49 : Int32) &&& (255 : Int32)).toUInt32.toUInt16.toUInt32.toInt32))).toInt64))), .second, .val (.int (1 : Int32)), .val (.int (0 : Int32))] [(.long (((0 : Int64) <<< ((16 : Int32) &&& 0x3f).toInt64) ||| ((nar .char (nar .char (((49 : Int32) &&& (255 : Int32)).toUInt32.toUInt16.toUInt32.toInt32))).toInt64)))])) t
    refine XS.bipush X859.here hx rfl (hb hby d4_119) ?_
    show Steps p.tables e below (T859.setTop (mkF m 121 #[.val (.ref o0), .val (.ref o1), .val (.long (((0 : Int64) <<< ((16 : Int32) &&& 0x3f).toInt64) ||| ((nar .char (nar .char (((49 : Int32) &&& (255 : Int32)).toUInt32.toUInt16.toUInt32.toInt32))).toInt64))), .second, .val (.int (1 : Int32)), .val (.int (0 : Int32))] [(.int (16 : Int32)), (.long (((0 : Int64) <<< ((16 : Int32) &&& 0x3f).toInt64) ||| ((nar .char (nar .char (((49 : Int32) &&& (255 : Int32)).toUInt32.toUInt16.toUInt32.toInt32))).toInt64)))])) t
    refine XS.lshl X859.here hx rfl (hb hby d4_121) rfl ?_
    show Steps p.tables e below (T859.setTop (mkF m 122 #[.val (.ref o0), .val (.ref o1), .val (.long (((0 : Int64) <<< ((16 : Int32) &&& 0x3f).toInt64) ||| ((nar .char (nar .char (((49 : Int32) &&& (255 : Int32)).toUInt32.toUInt16.toUInt32.toInt32))).toInt64))), .second, .val (.int (1 : Int32)), .val (.int (0 : Int32))] [(.long ((((0 : Int64) <<< ((16 : Int32) &&& 0x3f).toInt64) ||| ((nar .char (nar .char (((49 : Int32) &&& (255 : Int32)).toUInt32.toUInt16.toUInt32.toInt32))).toInt64)) <<< ((16 : Int32) &&& 0x3f).toInt64))])) t
    refine XS.iload X859.here hx rfl (hb hby d4_122) rfl ?_
    show Steps p.tables e below (T859.setTop (mkF m 124 #[.val (.ref o0), .val (.ref o1), .val (.long (((0 : Int64) <<< ((16 : Int32) &&& 0x3f).toInt64) ||| ((nar .char (nar .char (((49 : Int32) &&& (255 : Int32)).toUInt32.toUInt16.toUInt32.toInt32))).toInt64))), .second, .val (.int (1 : Int32)), .val (.int (0 : Int32))] [(.int (0 : Int32)), (.long ((((0 : Int64) <<< ((16 : Int32) &&& 0x3f).toInt64) ||| ((nar .char (nar .char (((49 : Int32) &&& (255 : Int32)).toUInt32.toUInt16.toUInt32.toInt32))).toInt64)) <<< ((16 : Int32) &&& 0x3f).toInt64))])) t
    refine XS.i2l X859.here hx rfl (hb hby d4_124) rfl ?_
    show Steps p.tables e below (T859.setTop (mkF m 125 #[.val (.ref o0), .val (.ref o1), .val (.long (((0 : Int64) <<< ((16 : Int32) &&& 0x3f).toInt64) ||| ((nar .char (nar .char (((49 : Int32) &&& (255 : Int32)).toUInt32.toUInt16.toUInt32.toInt32))).toInt64))), .second, .val (.int (1 : Int32)), .val (.int (0 : Int32))] [(.long ((0 : Int32).toInt64)), (.long ((((0 : Int64) <<< ((16 : Int32) &&& 0x3f).toInt64) ||| ((nar .char (nar .char (((49 : Int32) &&& (255 : Int32)).toUInt32.toUInt16.toUInt32.toInt32))).toInt64)) <<< ((16 : Int32) &&& 0x3f).toInt64))])) t
    refine XS.lor X859.here hx rfl (hb hby d4_125) rfl ?_
    show Steps p.tables e below (T859.setTop (mkF m 126 #[.val (.ref o0), .val (.ref o1), .val (.long (((0 : Int64) <<< ((16 : Int32) &&& 0x3f).toInt64) ||| ((nar .char (nar .char (((49 : Int32) &&& (255 : Int32)).toUInt32.toUInt16.toUInt32.toInt32))).toInt64))), .second, .val (.int (1 : Int32)), .val (.int (0 : Int32))] [(.long (((((0 : Int64) <<< ((16 : Int32) &&& 0x3f).toInt64) ||| ((nar .char (nar .char (((49 : Int32) &&& (255 : Int32)).toUInt32.toUInt16.toUInt32.toInt32))).toInt64)) <<< ((16 : Int32) &&& 0x3f).toInt64) ||| ((0 : Int32).toInt64)))])) t
    refine XS.lstoreN X859.here hx rfl (hb hby d4_126) rfl (l' := #[.val (.ref o0), .val (.ref o1), .val (.long (((((0 : Int64) <<< ((16 : Int32) &&& 0x3f).toInt64) ||| ((nar .char (nar .char (((49 : Int32) &&& (255 : Int32)).toUInt32.toUInt16.toUInt32.toInt32))).toInt64)) <<< ((16 : Int32) &&& 0x3f).toInt64) ||| ((0 : Int32).toInt64))), .second, .val (.int (1 : Int32)), .val (.int (0 : Int32))]) rfl ?_
    show Steps p.tables e below (T859.setTop (mkF m 127 #[.val (.ref o0), .val (.ref o1), .val (.long (((((0 : Int64) <<< ((16 : Int32) &&& 0x3f).toInt64) ||| ((nar .char (nar .char (((49 : Int32) &&& (255 : Int32)).toUInt32.toUInt16.toUInt32.toInt32))).toInt64)) <<< ((16 : Int32) &&& 0x3f).toInt64) ||| ((0 : Int32).toInt64))), .second, .val (.int (1 : Int32)), .val (.int (0 : Int32))] [])) t
    refine XS.iinc X859.here hx rfl (hb hby d4_127) rfl (l' := #[.val (.ref o0), .val (.ref o1), .val (.long (((((0 : Int64) <<< ((16 : Int32) &&& 0x3f).toInt64) ||| ((nar .char (nar .char (((49 : Int32) &&& (255 : Int32)).toUInt32.toUInt16.toUInt32.toInt32))).toInt64)) <<< ((16 : Int32) &&& 0x3f).toInt64) ||| ((0 : Int32).toInt64))), .second, .val (.int (2 : Int32)), .val (.int (0 : Int32))]) rfl ?_
    show Steps p.tables e below (T859.setTop (mkF m 130 #[.val (.ref o0), .val (.ref o1), .val (.long (((((0 : Int64) <<< ((16 : Int32) &&& 0x3f).toInt64) ||| ((nar .char (nar .char (((49 : Int32) &&& (255 : Int32)).toUInt32.toUInt16.toUInt32.toInt32))).toInt64)) <<< ((16 : Int32) &&& 0x3f).toInt64) ||| ((0 : Int32).toInt64))), .second, .val (.int (2 : Int32)), .val (.int (0 : Int32))] [])) t
    refine XS.goto X859.here hx rfl (pc0 := 130) (pc' := 85) rfl (hb hby d4_130) (by decide) (by decide) ?_
    show Steps p.tables e below (T859.setTop (mkF m 85 #[.val (.ref o0), .val (.ref o1), .val (.long (((((0 : Int64) <<< ((16 : Int32) &&& 0x3f).toInt64) ||| ((nar .char (nar .char (((49 : Int32) &&& (255 : Int32)).toUInt32.toUInt16.toUInt32.toInt32))).toInt64)) <<< ((16 : Int32) &&& 0x3f).toInt64) ||| ((0 : Int32).toInt64))), .second, .val (.int (2 : Int32)), .val (.int (0 : Int32))] [])) t
    refine XS.iload X859.here hx rfl (hb hby d4_85) rfl ?_
    show Steps p.tables e below (T859.setTop (mkF m 87 #[.val (.ref o0), .val (.ref o1), .val (.long (((((0 : Int64) <<< ((16 : Int32) &&& 0x3f).toInt64) ||| ((nar .char (nar .char (((49 : Int32) &&& (255 : Int32)).toUInt32.toUInt16.toUInt32.toInt32))).toInt64)) <<< ((16 : Int32) &&& 0x3f).toInt64) ||| ((0 : Int32).toInt64))), .second, .val (.int (2 : Int32)), .val (.int (0 : Int32))] [(.int (2 : Int32))])) t
    refine XS.iconst X859.here hx rfl (hb hby d4_87) ?_
    show Steps p.tables e below (T859.setTop (mkF m 88 #[.val (.ref o0), .val (.ref o1), .val (.long (((((0 : Int64) <<< ((16 : Int32) &&& 0x3f).toInt64) ||| ((nar .char (nar .char (((49 : Int32) &&& (255 : Int32)).toUInt32.toUInt16.toUInt32.toInt32))).toInt64)) <<< ((16 : Int32) &&& 0x3f).toInt64) ||| ((0 : Int32).toInt64))), .second, .val (.int (2 : Int32)), .val (.int (0 : Int32))] [(.int (4 : Int32)), (.int (2 : Int32))])) t
    refine XS.icmpNo X859.here hx rfl (hb hby d4_88) rfl (tlt (by decide)).2.1 ?_
    show Steps p.tables e below (T859.setTop (mkF m 91 #[.val (.ref o0), .val (.ref o1), .val (.long (((((0 : Int64) <<< ((16 : Int32) &&& 0x3f).toInt64) ||| ((nar .char (nar .char (((49 : Int32) &&& (255 : Int32)).toUInt32.toUInt16.toUInt32.toInt32))).toInt64)) <<< ((16 : Int32) &&& 0x3f).toInt64) ||| ((0 : Int32).toInt64))), .second, .val (.int (2 : Int32)), .val (.int (0 : Int32))] [])) t
    refine XS.iload X859.here hx rfl (hb hby d4_91) rfl ?_
    show Steps p.tables e below (T859.setTop (mkF m 93 #[.val (.ref o0), .val (.ref o1), .val (.long (((((0 : Int64) <<< ((16 : Int32) &&& 0x3f).toInt64) ||| ((nar .char (nar .char (((49 : Int32) &&& (255 : Int32)).toUInt32.toUInt16.toUInt32.toInt32))).toInt64)) <<< ((16 : Int32) &&& 0x3f).toInt64) ||| ((0 : Int32).toInt64))), .second, .val (.int (2 : Int32)), .val (.int (0 : Int32))] [(.int (2 : Int32))])) t
    refine XS.aloadN X859.here hx rfl (hb hby d4_93) rfl rfl ?_
    exact k
  obtain ⟨cq864, kq864, qa864, qb864, qc864⟩ := isOf hZ e859 f813
  obtain ⟨_, _, ⟨T864, L864, kk864, nn864⟩, -, X864, ⟨Lc864, hQ864, l864, y864, z864⟩, st864⟩ := X859.virtualBack hx (y := (⟨"com/example/perigo/perigo/engine/event/Medium", "value", "()Ljava/lang/String;"⟩ : MethodName)) (z := (⟨"com/example/perigo/perigo/engine/event/Medium", "value", "()Ljava/lang/String;"⟩ : MethodName)) hown (mvT hZ (hw _ (List.mem_of_getElem? (i := 90) rfl))) (mvT hZ (hw _ (List.mem_of_getElem? (i := 91) rfl))) (notFace_of_selects (args := #[]) (mvT hZ (hw _ (List.mem_of_getElem? (i := 93) rfl)))) (mvT hZ (hw _ (List.mem_of_getElem? (i := 93) rfl))) (mvT hZ (hw _ (List.mem_of_getElem? (i := 92) rfl))) (by decide) (backOf (W := 1) (meVal l Z a0 hw [] o1 w_o1_value h806 n0 Z836 f812) hZ (hw _ (List.mem_of_getElem? (i := 94) rfl)) (hw _ (List.mem_of_getElem? (i := 5) rfl)) (by decide) (by decide)) qa864 qc864 (g := (mkF m 94 #[.val (.ref o0), .val (.ref o1), .val (.long (((((0 : Int64) <<< ((16 : Int32) &&& 0x3f).toInt64) ||| ((nar .char (nar .char (((49 : Int32) &&& (255 : Int32)).toUInt32.toUInt16.toUInt32.toInt32))).toInt64)) <<< ((16 : Int32) &&& 0x3f).toInt64) ||| ((0 : Int32).toInt64))), .second, .val (.int (2 : Int32)), .val (.int (0 : Int32))] [(.ref o1), (.int (2 : Int32))])) rfl (by rw [hml]; rfl) (Steps.refl _) (argsL := []) (rest := [(.int (2 : Int32))]) (lenOf pd_168 rfl) rfl (by show 2 * 0 + _ ≤ _; exact Nat.le_of_eq rfl) (hb hby d4_94) (fun _ _ => ⟨rfl, e859, (by decide : 15 + 0 ≤ _), (by decide : 40 + 0 ≤ _)⟩)
  dsimp only [Pt.U, Pt.locs, Pt.cells, Pt.slots] at X864 l864 y864 z864 st864 hQ864
  subst l864 y864 z864
  obtain ⟨rfl, N865, e864⟩ := hQ864
  have N867 := Fr.app N862 N865
  refine own_goT st864 ?_
  obtain ⟨cq868, kq868, qa868, qb868, qc868⟩ := isOf hZ e864 f817
  obtain ⟨_, _, ⟨T868, L868, kk868, nn868⟩, -, X868, ⟨Lc868, hQ868, l868, y868, z868⟩, st868⟩ := X864.virtualBack hx (y := (⟨"java/lang/String", "length", "()I"⟩ : MethodName)) (z := (⟨"java/lang/String", "length", "()I"⟩ : MethodName)) hown (mvT hZ (hw _ (List.mem_of_getElem? (i := 95) rfl))) (mvT hZ (hw _ (List.mem_of_getElem? (i := 96) rfl))) (notFace_of_selects (args := #[]) (mvT hZ (hw _ (List.mem_of_getElem? (i := 98) rfl)))) (mvT hZ (hw _ (List.mem_of_getElem? (i := 98) rfl))) (mvT hZ (hw _ (List.mem_of_getElem? (i := 97) rfl))) (by decide) (backOf (W := 1) (len l Z a0 hw [] w_o1_value w_s_COMPACT_STRINGS w_w_o1_value_value h806 n0 Z836 (hcs : ¬ (w_s_COMPACT_STRINGS = (0 : Int32))) f807 f814 f815 f816 f817) hZ (hw _ (List.mem_of_getElem? (i := 99) rfl)) (hw _ (List.mem_of_getElem? (i := 7) rfl)) (by decide) (by decide)) qa868 qc868 (g := (mkF m 97 #[.val (.ref o0), .val (.ref o1), .val (.long (((((0 : Int64) <<< ((16 : Int32) &&& 0x3f).toInt64) ||| ((nar .char (nar .char (((49 : Int32) &&& (255 : Int32)).toUInt32.toUInt16.toUInt32.toInt32))).toInt64)) <<< ((16 : Int32) &&& 0x3f).toInt64) ||| ((0 : Int32).toInt64))), .second, .val (.int (2 : Int32)), .val (.int (0 : Int32))] [(.ref w_o1_value), (.int (2 : Int32))])) rfl (by rw [hml]; rfl) (Steps.refl _) (argsL := []) (rest := [(.int (2 : Int32))]) (lenOf pd_170 rfl) rfl (by show 2 * 0 + _ ≤ _; exact Nat.le_of_eq rfl) (hb hby d4_97) (fun _ _ => ⟨rfl, e864, (by decide : 15 + 0 ≤ _), (by decide : 40 + 0 ≤ _)⟩)
  dsimp only [Pt.U, Pt.locs, Pt.cells, Pt.slots] at X868 l868 y868 z868 st868 hQ868
  subst l868 y868 z868
  obtain ⟨rfl, N869, e868⟩ := hQ868
  have N871 := Fr.app N867 N869
  refine own_goT st868 ?_
  have hf872 : ((1 : Int32) >>> ((0 : Int32) &&& 31)) = (1 : Int32) := by decide
  rw [hf872]
  refine own_go (S' := T868.setTop (mkF m 94 #[.val (.ref o0), .val (.ref o1), .val (.long (((((((0 : Int64) <<< ((16 : Int32) &&& 0x3f).toInt64) ||| ((nar .char (nar .char (((49 : Int32) &&& (255 : Int32)).toUInt32.toUInt16.toUInt32.toInt32))).toInt64)) <<< ((16 : Int32) &&& 0x3f).toInt64) ||| ((0 : Int32).toInt64)) <<< ((16 : Int32) &&& 0x3f).toInt64) ||| ((0 : Int32).toInt64))), .second, .val (.int (3 : Int32)), .val (.int (0 : Int32))] [(.ref o1), (.int (3 : Int32))])) (fun t k => ?_) ?_
  · show Steps p.tables e below (T868.setTop (mkF m 100 #[.val (.ref o0), .val (.ref o1), .val (.long (((((0 : Int64) <<< ((16 : Int32) &&& 0x3f).toInt64) ||| ((nar .char (nar .char (((49 : Int32) &&& (255 : Int32)).toUInt32.toUInt16.toUInt32.toInt32))).toInt64)) <<< ((16 : Int32) &&& 0x3f).toInt64) ||| ((0 : Int32).toInt64))), .second, .val (.int (2 : Int32)), .val (.int (0 : Int32))] [(.int (1 : Int32)), (.int (2 : Int32))])) t
    refine XS.icmpYes X868.here hx rfl (pc0 := 100) (pc' := 115) rfl (hb hby d4_100) rfl (flt (by decide)).2.1 (by decide) (by decide) ?_
    show Steps p.tables e below (T868.setTop (mkF m 115 #[.val (.ref o0), .val (.ref o1), .val (.long (((((0 : Int64) <<< ((16 : Int32) &&& 0x3f).toInt64) ||| ((nar .char (nar .char (((49 : Int32) &&& (255 : Int32)).toUInt32.toUInt16.toUInt32.toInt32))).toInt64)) <<< ((16 : Int32) &&& 0x3f).toInt64) ||| ((0 : Int32).toInt64))), .second, .val (.int (2 : Int32)), .val (.int (0 : Int32))] [])) t
    refine XS.iconst X868.here hx rfl (hb hby d4_115) ?_
    show Steps p.tables e below (T868.setTop (mkF m 116 #[.val (.ref o0), .val (.ref o1), .val (.long (((((0 : Int64) <<< ((16 : Int32) &&& 0x3f).toInt64) ||| ((nar .char (nar .char (((49 : Int32) &&& (255 : Int32)).toUInt32.toUInt16.toUInt32.toInt32))).toInt64)) <<< ((16 : Int32) &&& 0x3f).toInt64) ||| ((0 : Int32).toInt64))), .second, .val (.int (2 : Int32)), .val (.int (0 : Int32))] [(.int (0 : Int32))])) t
    refine XS.istore X868.here hx rfl (hb hby d4_116) rfl (l' := #[.val (.ref o0), .val (.ref o1), .val (.long (((((0 : Int64) <<< ((16 : Int32) &&& 0x3f).toInt64) ||| ((nar .char (nar .char (((49 : Int32) &&& (255 : Int32)).toUInt32.toUInt16.toUInt32.toInt32))).toInt64)) <<< ((16 : Int32) &&& 0x3f).toInt64) ||| ((0 : Int32).toInt64))), .second, .val (.int (2 : Int32)), .val (.int (0 : Int32))]) rfl ?_
    show Steps p.tables e below (T868.setTop (mkF m 118 #[.val (.ref o0), .val (.ref o1), .val (.long (((((0 : Int64) <<< ((16 : Int32) &&& 0x3f).toInt64) ||| ((nar .char (nar .char (((49 : Int32) &&& (255 : Int32)).toUInt32.toUInt16.toUInt32.toInt32))).toInt64)) <<< ((16 : Int32) &&& 0x3f).toInt64) ||| ((0 : Int32).toInt64))), .second, .val (.int (2 : Int32)), .val (.int (0 : Int32))] [])) t
    refine XS.lloadN X868.here hx rfl (hb hby d4_118) rfl ?_
    show Steps p.tables e below (T868.setTop (mkF m 119 #[.val (.ref o0), .val (.ref o1), .val (.long (((((0 : Int64) <<< ((16 : Int32) &&& 0x3f).toInt64) ||| ((nar .char (nar .char (((49 : Int32) &&& (255 : Int32)).toUInt32.toUInt16.toUInt32.toInt32))).toInt64)) <<< ((16 : Int32) &&& 0x3f).toInt64) ||| ((0 : Int32).toInt64))), .second, .val (.int (2 : Int32)), .val (.int (0 : Int32))] [(.long (((((0 : Int64) <<< ((16 : Int32) &&& 0x3f).toInt64) ||| ((nar .char (nar .char (((49 : Int32) &&& (255 : Int32)).toUInt32.toUInt16.toUInt32.toInt32))).toInt64)) <<< ((16 : Int32) &&& 0x3f).toInt64) ||| ((0 : Int32).toInt64)))])) t
    refine XS.bipush X868.here hx rfl (hb hby d4_119) ?_
    show Steps p.tables e below (T868.setTop (mkF m 121 #[.val (.ref o0), .val (.ref o1), .val (.long (((((0 : Int64) <<< ((16 : Int32) &&& 0x3f).toInt64) ||| ((nar .char (nar .char (((49 : Int32) &&& (255 : Int32)).toUInt32.toUInt16.toUInt32.toInt32))).toInt64)) <<< ((16 : Int32) &&& 0x3f).toInt64) ||| ((0 : Int32).toInt64))), .second, .val (.int (2 : Int32)), .val (.int (0 : Int32))] [(.int (16 : Int32)), (.long (((((0 : Int64) <<< ((16 : Int32) &&& 0x3f).toInt64) ||| ((nar .char (nar .char (((49 : Int32) &&& (255 : Int32)).toUInt32.toUInt16.toUInt32.toInt32))).toInt64)) <<< ((16 : Int32) &&& 0x3f).toInt64) ||| ((0 : Int32).toInt64)))])) t
    refine XS.lshl X868.here hx rfl (hb hby d4_121) rfl ?_
    show Steps p.tables e below (T868.setTop (mkF m 122 #[.val (.ref o0), .val (.ref o1), .val (.long (((((0 : Int64) <<< ((16 : Int32) &&& 0x3f).toInt64) ||| ((nar .char (nar .char (((49 : Int32) &&& (255 : Int32)).toUInt32.toUInt16.toUInt32.toInt32))).toInt64)) <<< ((16 : Int32) &&& 0x3f).toInt64) ||| ((0 : Int32).toInt64))), .second, .val (.int (2 : Int32)), .val (.int (0 : Int32))] [(.long ((((((0 : Int64) <<< ((16 : Int32) &&& 0x3f).toInt64) ||| ((nar .char (nar .char (((49 : Int32) &&& (255 : Int32)).toUInt32.toUInt16.toUInt32.toInt32))).toInt64)) <<< ((16 : Int32) &&& 0x3f).toInt64) ||| ((0 : Int32).toInt64)) <<< ((16 : Int32) &&& 0x3f).toInt64))])) t
    refine XS.iload X868.here hx rfl (hb hby d4_122) rfl ?_
    show Steps p.tables e below (T868.setTop (mkF m 124 #[.val (.ref o0), .val (.ref o1), .val (.long (((((0 : Int64) <<< ((16 : Int32) &&& 0x3f).toInt64) ||| ((nar .char (nar .char (((49 : Int32) &&& (255 : Int32)).toUInt32.toUInt16.toUInt32.toInt32))).toInt64)) <<< ((16 : Int32) &&& 0x3f).toInt64) ||| ((0 : Int32).toInt64))), .second, .val (.int (2 : Int32)), .val (.int (0 : Int32))] [(.int (0 : Int32)), (.long ((((((0 : Int64) <<< ((16 : Int32) &&& 0x3f).toInt64) ||| ((nar .char (nar .char (((49 : Int32) &&& (255 : Int32)).toUInt32.toUInt16.toUInt32.toInt32))).toInt64)) <<< ((16 : Int32) &&& 0x3f).toInt64) ||| ((0 : Int32).toInt64)) <<< ((16 : Int32) &&& 0x3f).toInt64))])) t
    refine XS.i2l X868.here hx rfl (hb hby d4_124) rfl ?_
    show Steps p.tables e below (T868.setTop (mkF m 125 #[.val (.ref o0), .val (.ref o1), .val (.long (((((0 : Int64) <<< ((16 : Int32) &&& 0x3f).toInt64) ||| ((nar .char (nar .char (((49 : Int32) &&& (255 : Int32)).toUInt32.toUInt16.toUInt32.toInt32))).toInt64)) <<< ((16 : Int32) &&& 0x3f).toInt64) ||| ((0 : Int32).toInt64))), .second, .val (.int (2 : Int32)), .val (.int (0 : Int32))] [(.long ((0 : Int32).toInt64)), (.long ((((((0 : Int64) <<< ((16 : Int32) &&& 0x3f).toInt64) ||| ((nar .char (nar .char (((49 : Int32) &&& (255 : Int32)).toUInt32.toUInt16.toUInt32.toInt32))).toInt64)) <<< ((16 : Int32) &&& 0x3f).toInt64) ||| ((0 : Int32).toInt64)) <<< ((16 : Int32) &&& 0x3f).toInt64))])) t
    refine XS.lor X868.here hx rfl (hb hby d4_125) rfl ?_
    show Steps p.tables e below (T868.setTop (mkF m 126 #[.val (.ref o0), .val (.ref o1), .val (.long (((((0 : Int64) <<< ((16 : Int32) &&& 0x3f).toInt64) ||| ((nar .char (nar .char (((49 : Int32) &&& (255 : Int32)).toUInt32.toUInt16.toUInt32.toInt32))).toInt64)) <<< ((16 : Int32) &&& 0x3f).toInt64) ||| ((0 : Int32).toInt64))), .second, .val (.int (2 : Int32)), .val (.int (0 : Int32))] [(.long (((((((0 : Int64) <<< ((16 : Int32) &&& 0x3f).toInt64) ||| ((nar .char (nar .char (((49 : Int32) &&& (255 : Int32)).toUInt32.toUInt16.toUInt32.toInt32))).toInt64)) <<< ((16 : Int32) &&& 0x3f).toInt64) ||| ((0 : Int32).toInt64)) <<< ((16 : Int32) &&& 0x3f).toInt64) ||| ((0 : Int32).toInt64)))])) t
    refine XS.lstoreN X868.here hx rfl (hb hby d4_126) rfl (l' := #[.val (.ref o0), .val (.ref o1), .val (.long (((((((0 : Int64) <<< ((16 : Int32) &&& 0x3f).toInt64) ||| ((nar .char (nar .char (((49 : Int32) &&& (255 : Int32)).toUInt32.toUInt16.toUInt32.toInt32))).toInt64)) <<< ((16 : Int32) &&& 0x3f).toInt64) ||| ((0 : Int32).toInt64)) <<< ((16 : Int32) &&& 0x3f).toInt64) ||| ((0 : Int32).toInt64))), .second, .val (.int (2 : Int32)), .val (.int (0 : Int32))]) rfl ?_
    show Steps p.tables e below (T868.setTop (mkF m 127 #[.val (.ref o0), .val (.ref o1), .val (.long (((((((0 : Int64) <<< ((16 : Int32) &&& 0x3f).toInt64) ||| ((nar .char (nar .char (((49 : Int32) &&& (255 : Int32)).toUInt32.toUInt16.toUInt32.toInt32))).toInt64)) <<< ((16 : Int32) &&& 0x3f).toInt64) ||| ((0 : Int32).toInt64)) <<< ((16 : Int32) &&& 0x3f).toInt64) ||| ((0 : Int32).toInt64))), .second, .val (.int (2 : Int32)), .val (.int (0 : Int32))] [])) t
    refine XS.iinc X868.here hx rfl (hb hby d4_127) rfl (l' := #[.val (.ref o0), .val (.ref o1), .val (.long (((((((0 : Int64) <<< ((16 : Int32) &&& 0x3f).toInt64) ||| ((nar .char (nar .char (((49 : Int32) &&& (255 : Int32)).toUInt32.toUInt16.toUInt32.toInt32))).toInt64)) <<< ((16 : Int32) &&& 0x3f).toInt64) ||| ((0 : Int32).toInt64)) <<< ((16 : Int32) &&& 0x3f).toInt64) ||| ((0 : Int32).toInt64))), .second, .val (.int (3 : Int32)), .val (.int (0 : Int32))]) rfl ?_
    show Steps p.tables e below (T868.setTop (mkF m 130 #[.val (.ref o0), .val (.ref o1), .val (.long (((((((0 : Int64) <<< ((16 : Int32) &&& 0x3f).toInt64) ||| ((nar .char (nar .char (((49 : Int32) &&& (255 : Int32)).toUInt32.toUInt16.toUInt32.toInt32))).toInt64)) <<< ((16 : Int32) &&& 0x3f).toInt64) ||| ((0 : Int32).toInt64)) <<< ((16 : Int32) &&& 0x3f).toInt64) ||| ((0 : Int32).toInt64))), .second, .val (.int (3 : Int32)), .val (.int (0 : Int32))] [])) t
    refine XS.goto X868.here hx rfl (pc0 := 130) (pc' := 85) rfl (hb hby d4_130) (by decide) (by decide) ?_
    show Steps p.tables e below (T868.setTop (mkF m 85 #[.val (.ref o0), .val (.ref o1), .val (.long (((((((0 : Int64) <<< ((16 : Int32) &&& 0x3f).toInt64) ||| ((nar .char (nar .char (((49 : Int32) &&& (255 : Int32)).toUInt32.toUInt16.toUInt32.toInt32))).toInt64)) <<< ((16 : Int32) &&& 0x3f).toInt64) ||| ((0 : Int32).toInt64)) <<< ((16 : Int32) &&& 0x3f).toInt64) ||| ((0 : Int32).toInt64))), .second, .val (.int (3 : Int32)), .val (.int (0 : Int32))] [])) t
    refine XS.iload X868.here hx rfl (hb hby d4_85) rfl ?_
    show Steps p.tables e below (T868.setTop (mkF m 87 #[.val (.ref o0), .val (.ref o1), .val (.long (((((((0 : Int64) <<< ((16 : Int32) &&& 0x3f).toInt64) ||| ((nar .char (nar .char (((49 : Int32) &&& (255 : Int32)).toUInt32.toUInt16.toUInt32.toInt32))).toInt64)) <<< ((16 : Int32) &&& 0x3f).toInt64) ||| ((0 : Int32).toInt64)) <<< ((16 : Int32) &&& 0x3f).toInt64) ||| ((0 : Int32).toInt64))), .second, .val (.int (3 : Int32)), .val (.int (0 : Int32))] [(.int (3 : Int32))])) t
    refine XS.iconst X868.here hx rfl (hb hby d4_87) ?_
    show Steps p.tables e below (T868.setTop (mkF m 88 #[.val (.ref o0), .val (.ref o1), .val (.long (((((((0 : Int64) <<< ((16 : Int32) &&& 0x3f).toInt64) ||| ((nar .char (nar .char (((49 : Int32) &&& (255 : Int32)).toUInt32.toUInt16.toUInt32.toInt32))).toInt64)) <<< ((16 : Int32) &&& 0x3f).toInt64) ||| ((0 : Int32).toInt64)) <<< ((16 : Int32) &&& 0x3f).toInt64) ||| ((0 : Int32).toInt64))), .second, .val (.int (3 : Int32)), .val (.int (0 : Int32))] [(.int (4 : Int32)), (.int (3 : Int32))])) t
    refine XS.icmpNo X868.here hx rfl (hb hby d4_88) rfl (tlt (by decide)).2.1 ?_
    show Steps p.tables e below (T868.setTop (mkF m 91 #[.val (.ref o0), .val (.ref o1), .val (.long (((((((0 : Int64) <<< ((16 : Int32) &&& 0x3f).toInt64) ||| ((nar .char (nar .char (((49 : Int32) &&& (255 : Int32)).toUInt32.toUInt16.toUInt32.toInt32))).toInt64)) <<< ((16 : Int32) &&& 0x3f).toInt64) ||| ((0 : Int32).toInt64)) <<< ((16 : Int32) &&& 0x3f).toInt64) ||| ((0 : Int32).toInt64))), .second, .val (.int (3 : Int32)), .val (.int (0 : Int32))] [])) t
    refine XS.iload X868.here hx rfl (hb hby d4_91) rfl ?_
    show Steps p.tables e below (T868.setTop (mkF m 93 #[.val (.ref o0), .val (.ref o1), .val (.long (((((((0 : Int64) <<< ((16 : Int32) &&& 0x3f).toInt64) ||| ((nar .char (nar .char (((49 : Int32) &&& (255 : Int32)).toUInt32.toUInt16.toUInt32.toInt32))).toInt64)) <<< ((16 : Int32) &&& 0x3f).toInt64) ||| ((0 : Int32).toInt64)) <<< ((16 : Int32) &&& 0x3f).toInt64) ||| ((0 : Int32).toInt64))), .second, .val (.int (3 : Int32)), .val (.int (0 : Int32))] [(.int (3 : Int32))])) t
    refine XS.aloadN X868.here hx rfl (hb hby d4_93) rfl rfl ?_
    exact k
  obtain ⟨cq873, kq873, qa873, qb873, qc873⟩ := isOf hZ e868 f813
  obtain ⟨_, _, ⟨T873, L873, kk873, nn873⟩, -, X873, ⟨Lc873, hQ873, l873, y873, z873⟩, st873⟩ := X868.virtualBack hx (y := (⟨"com/example/perigo/perigo/engine/event/Medium", "value", "()Ljava/lang/String;"⟩ : MethodName)) (z := (⟨"com/example/perigo/perigo/engine/event/Medium", "value", "()Ljava/lang/String;"⟩ : MethodName)) hown (mvT hZ (hw _ (List.mem_of_getElem? (i := 90) rfl))) (mvT hZ (hw _ (List.mem_of_getElem? (i := 91) rfl))) (notFace_of_selects (args := #[]) (mvT hZ (hw _ (List.mem_of_getElem? (i := 93) rfl)))) (mvT hZ (hw _ (List.mem_of_getElem? (i := 93) rfl))) (mvT hZ (hw _ (List.mem_of_getElem? (i := 92) rfl))) (by decide) (backOf (W := 1) (meVal l Z a0 hw [] o1 w_o1_value h806 n0 Z836 f812) hZ (hw _ (List.mem_of_getElem? (i := 94) rfl)) (hw _ (List.mem_of_getElem? (i := 5) rfl)) (by decide) (by decide)) qa873 qc873 (g := (mkF m 94 #[.val (.ref o0), .val (.ref o1), .val (.long (((((((0 : Int64) <<< ((16 : Int32) &&& 0x3f).toInt64) ||| ((nar .char (nar .char (((49 : Int32) &&& (255 : Int32)).toUInt32.toUInt16.toUInt32.toInt32))).toInt64)) <<< ((16 : Int32) &&& 0x3f).toInt64) ||| ((0 : Int32).toInt64)) <<< ((16 : Int32) &&& 0x3f).toInt64) ||| ((0 : Int32).toInt64))), .second, .val (.int (3 : Int32)), .val (.int (0 : Int32))] [(.ref o1), (.int (3 : Int32))])) rfl (by rw [hml]; rfl) (Steps.refl _) (argsL := []) (rest := [(.int (3 : Int32))]) (lenOf pd_168 rfl) rfl (by show 2 * 0 + _ ≤ _; exact Nat.le_of_eq rfl) (hb hby d4_94) (fun _ _ => ⟨rfl, e868, (by decide : 15 + 0 ≤ _), (by decide : 40 + 0 ≤ _)⟩)
  dsimp only [Pt.U, Pt.locs, Pt.cells, Pt.slots] at X873 l873 y873 z873 st873 hQ873
  subst l873 y873 z873
  obtain ⟨rfl, N874, e873⟩ := hQ873
  have N876 := Fr.app N871 N874
  refine own_goT st873 ?_
  obtain ⟨cq877, kq877, qa877, qb877, qc877⟩ := isOf hZ e873 f817
  obtain ⟨_, _, ⟨T877, L877, kk877, nn877⟩, -, X877, ⟨Lc877, hQ877, l877, y877, z877⟩, st877⟩ := X873.virtualBack hx (y := (⟨"java/lang/String", "length", "()I"⟩ : MethodName)) (z := (⟨"java/lang/String", "length", "()I"⟩ : MethodName)) hown (mvT hZ (hw _ (List.mem_of_getElem? (i := 95) rfl))) (mvT hZ (hw _ (List.mem_of_getElem? (i := 96) rfl))) (notFace_of_selects (args := #[]) (mvT hZ (hw _ (List.mem_of_getElem? (i := 98) rfl)))) (mvT hZ (hw _ (List.mem_of_getElem? (i := 98) rfl))) (mvT hZ (hw _ (List.mem_of_getElem? (i := 97) rfl))) (by decide) (backOf (W := 1) (len l Z a0 hw [] w_o1_value w_s_COMPACT_STRINGS w_w_o1_value_value h806 n0 Z836 (hcs : ¬ (w_s_COMPACT_STRINGS = (0 : Int32))) f807 f814 f815 f816 f817) hZ (hw _ (List.mem_of_getElem? (i := 99) rfl)) (hw _ (List.mem_of_getElem? (i := 7) rfl)) (by decide) (by decide)) qa877 qc877 (g := (mkF m 97 #[.val (.ref o0), .val (.ref o1), .val (.long (((((((0 : Int64) <<< ((16 : Int32) &&& 0x3f).toInt64) ||| ((nar .char (nar .char (((49 : Int32) &&& (255 : Int32)).toUInt32.toUInt16.toUInt32.toInt32))).toInt64)) <<< ((16 : Int32) &&& 0x3f).toInt64) ||| ((0 : Int32).toInt64)) <<< ((16 : Int32) &&& 0x3f).toInt64) ||| ((0 : Int32).toInt64))), .second, .val (.int (3 : Int32)), .val (.int (0 : Int32))] [(.ref w_o1_value), (.int (3 : Int32))])) rfl (by rw [hml]; rfl) (Steps.refl _) (argsL := []) (rest := [(.int (3 : Int32))]) (lenOf pd_170 rfl) rfl (by show 2 * 0 + _ ≤ _; exact Nat.le_of_eq rfl) (hb hby d4_97) (fun _ _ => ⟨rfl, e873, (by decide : 15 + 0 ≤ _), (by decide : 40 + 0 ≤ _)⟩)
  dsimp only [Pt.U, Pt.locs, Pt.cells, Pt.slots] at X877 l877 y877 z877 st877 hQ877
  subst l877 y877 z877
  obtain ⟨rfl, N878, e877⟩ := hQ877
  have N880 := Fr.app N876 N878
  refine own_goT st877 ?_
  have hf881 : ((1 : Int32) >>> ((0 : Int32) &&& 31)) = (1 : Int32) := by decide
  rw [hf881]
  refine own_go (S' := T877.setTop (mkF m 135 #[.val (.ref o0), .val (.ref o1), .val (.long (((((((((0 : Int64) <<< ((16 : Int32) &&& 0x3f).toInt64) ||| ((nar .char (nar .char (((49 : Int32) &&& (255 : Int32)).toUInt32.toUInt16.toUInt32.toInt32))).toInt64)) <<< ((16 : Int32) &&& 0x3f).toInt64) ||| ((0 : Int32).toInt64)) <<< ((16 : Int32) &&& 0x3f).toInt64) ||| ((0 : Int32).toInt64)) <<< ((16 : Int32) &&& 0x3f).toInt64) ||| ((0 : Int32).toInt64))), .second, .val (.int (4 : Int32)), .val (.int (0 : Int32))] [(.long (((((((((0 : Int64) <<< ((16 : Int32) &&& 0x3f).toInt64) ||| ((nar .char (nar .char (((49 : Int32) &&& (255 : Int32)).toUInt32.toUInt16.toUInt32.toInt32))).toInt64)) <<< ((16 : Int32) &&& 0x3f).toInt64) ||| ((0 : Int32).toInt64)) <<< ((16 : Int32) &&& 0x3f).toInt64) ||| ((0 : Int32).toInt64)) <<< ((16 : Int32) &&& 0x3f).toInt64) ||| ((0 : Int32).toInt64))), (.ref o0)])) (fun t k => ?_) ?_
  · show Steps p.tables e below (T877.setTop (mkF m 100 #[.val (.ref o0), .val (.ref o1), .val (.long (((((((0 : Int64) <<< ((16 : Int32) &&& 0x3f).toInt64) ||| ((nar .char (nar .char (((49 : Int32) &&& (255 : Int32)).toUInt32.toUInt16.toUInt32.toInt32))).toInt64)) <<< ((16 : Int32) &&& 0x3f).toInt64) ||| ((0 : Int32).toInt64)) <<< ((16 : Int32) &&& 0x3f).toInt64) ||| ((0 : Int32).toInt64))), .second, .val (.int (3 : Int32)), .val (.int (0 : Int32))] [(.int (1 : Int32)), (.int (3 : Int32))])) t
    refine XS.icmpYes X877.here hx rfl (pc0 := 100) (pc' := 115) rfl (hb hby d4_100) rfl (flt (by decide)).2.1 (by decide) (by decide) ?_
    show Steps p.tables e below (T877.setTop (mkF m 115 #[.val (.ref o0), .val (.ref o1), .val (.long (((((((0 : Int64) <<< ((16 : Int32) &&& 0x3f).toInt64) ||| ((nar .char (nar .char (((49 : Int32) &&& (255 : Int32)).toUInt32.toUInt16.toUInt32.toInt32))).toInt64)) <<< ((16 : Int32) &&& 0x3f).toInt64) ||| ((0 : Int32).toInt64)) <<< ((16 : Int32) &&& 0x3f).toInt64) ||| ((0 : Int32).toInt64))), .second, .val (.int (3 : Int32)), .val (.int (0 : Int32))] [])) t
    refine XS.iconst X877.here hx rfl (hb hby d4_115) ?_
    show Steps p.tables e below (T877.setTop (mkF m 116 #[.val (.ref o0), .val (.ref o1), .val (.long (((((((0 : Int64) <<< ((16 : Int32) &&& 0x3f).toInt64) ||| ((nar .char (nar .char (((49 : Int32) &&& (255 : Int32)).toUInt32.toUInt16.toUInt32.toInt32))).toInt64)) <<< ((16 : Int32) &&& 0x3f).toInt64) ||| ((0 : Int32).toInt64)) <<< ((16 : Int32) &&& 0x3f).toInt64) ||| ((0 : Int32).toInt64))), .second, .val (.int (3 : Int32)), .val (.int (0 : Int32))] [(.int (0 : Int32))])) t
    refine XS.istore X877.here hx rfl (hb hby d4_116) rfl (l' := #[.val (.ref o0), .val (.ref o1), .val (.long (((((((0 : Int64) <<< ((16 : Int32) &&& 0x3f).toInt64) ||| ((nar .char (nar .char (((49 : Int32) &&& (255 : Int32)).toUInt32.toUInt16.toUInt32.toInt32))).toInt64)) <<< ((16 : Int32) &&& 0x3f).toInt64) ||| ((0 : Int32).toInt64)) <<< ((16 : Int32) &&& 0x3f).toInt64) ||| ((0 : Int32).toInt64))), .second, .val (.int (3 : Int32)), .val (.int (0 : Int32))]) rfl ?_
    show Steps p.tables e below (T877.setTop (mkF m 118 #[.val (.ref o0), .val (.ref o1), .val (.long (((((((0 : Int64) <<< ((16 : Int32) &&& 0x3f).toInt64) ||| ((nar .char (nar .char (((49 : Int32) &&& (255 : Int32)).toUInt32.toUInt16.toUInt32.toInt32))).toInt64)) <<< ((16 : Int32) &&& 0x3f).toInt64) ||| ((0 : Int32).toInt64)) <<< ((16 : Int32) &&& 0x3f).toInt64) ||| ((0 : Int32).toInt64))), .second, .val (.int (3 : Int32)), .val (.int (0 : Int32))] [])) t
    refine XS.lloadN X877.here hx rfl (hb hby d4_118) rfl ?_
    show Steps p.tables e below (T877.setTop (mkF m 119 #[.val (.ref o0), .val (.ref o1), .val (.long (((((((0 : Int64) <<< ((16 : Int32) &&& 0x3f).toInt64) ||| ((nar .char (nar .char (((49 : Int32) &&& (255 : Int32)).toUInt32.toUInt16.toUInt32.toInt32))).toInt64)) <<< ((16 : Int32) &&& 0x3f).toInt64) ||| ((0 : Int32).toInt64)) <<< ((16 : Int32) &&& 0x3f).toInt64) ||| ((0 : Int32).toInt64))), .second, .val (.int (3 : Int32)), .val (.int (0 : Int32))] [(.long (((((((0 : Int64) <<< ((16 : Int32) &&& 0x3f).toInt64) ||| ((nar .char (nar .char (((49 : Int32) &&& (255 : Int32)).toUInt32.toUInt16.toUInt32.toInt32))).toInt64)) <<< ((16 : Int32) &&& 0x3f).toInt64) ||| ((0 : Int32).toInt64)) <<< ((16 : Int32) &&& 0x3f).toInt64) ||| ((0 : Int32).toInt64)))])) t
    refine XS.bipush X877.here hx rfl (hb hby d4_119) ?_
    show Steps p.tables e below (T877.setTop (mkF m 121 #[.val (.ref o0), .val (.ref o1), .val (.long (((((((0 : Int64) <<< ((16 : Int32) &&& 0x3f).toInt64) ||| ((nar .char (nar .char (((49 : Int32) &&& (255 : Int32)).toUInt32.toUInt16.toUInt32.toInt32))).toInt64)) <<< ((16 : Int32) &&& 0x3f).toInt64) ||| ((0 : Int32).toInt64)) <<< ((16 : Int32) &&& 0x3f).toInt64) ||| ((0 : Int32).toInt64))), .second, .val (.int (3 : Int32)), .val (.int (0 : Int32))] [(.int (16 : Int32)), (.long (((((((0 : Int64) <<< ((16 : Int32) &&& 0x3f).toInt64) ||| ((nar .char (nar .char (((49 : Int32) &&& (255 : Int32)).toUInt32.toUInt16.toUInt32.toInt32))).toInt64)) <<< ((16 : Int32) &&& 0x3f).toInt64) ||| ((0 : Int32).toInt64)) <<< ((16 : Int32) &&& 0x3f).toInt64) ||| ((0 : Int32).toInt64)))])) t
    refine XS.lshl X877.here hx rfl (hb hby d4_121) rfl ?_
    show Steps p.tables e below (T877.setTop (mkF m 122 #[.val (.ref o0), .val (.ref o1), .val (.long (((((((0 : Int64) <<< ((16 : Int32) &&& 0x3f).toInt64) ||| ((nar .char (nar .char (((49 : Int32) &&& (255 : Int32)).toUInt32.toUInt16.toUInt32.toInt32))).toInt64)) <<< ((16 : Int32) &&& 0x3f).toInt64) ||| ((0 : Int32).toInt64)) <<< ((16 : Int32) &&& 0x3f).toInt64) ||| ((0 : Int32).toInt64))), .second, .val (.int (3 : Int32)), .val (.int (0 : Int32))] [(.long ((((((((0 : Int64) <<< ((16 : Int32) &&& 0x3f).toInt64) ||| ((nar .char (nar .char (((49 : Int32) &&& (255 : Int32)).toUInt32.toUInt16.toUInt32.toInt32))).toInt64)) <<< ((16 : Int32) &&& 0x3f).toInt64) ||| ((0 : Int32).toInt64)) <<< ((16 : Int32) &&& 0x3f).toInt64) ||| ((0 : Int32).toInt64)) <<< ((16 : Int32) &&& 0x3f).toInt64))])) t
    refine XS.iload X877.here hx rfl (hb hby d4_122) rfl ?_
    show Steps p.tables e below (T877.setTop (mkF m 124 #[.val (.ref o0), .val (.ref o1), .val (.long (((((((0 : Int64) <<< ((16 : Int32) &&& 0x3f).toInt64) ||| ((nar .char (nar .char (((49 : Int32) &&& (255 : Int32)).toUInt32.toUInt16.toUInt32.toInt32))).toInt64)) <<< ((16 : Int32) &&& 0x3f).toInt64) ||| ((0 : Int32).toInt64)) <<< ((16 : Int32) &&& 0x3f).toInt64) ||| ((0 : Int32).toInt64))), .second, .val (.int (3 : Int32)), .val (.int (0 : Int32))] [(.int (0 : Int32)), (.long ((((((((0 : Int64) <<< ((16 : Int32) &&& 0x3f).toInt64) ||| ((nar .char (nar .char (((49 : Int32) &&& (255 : Int32)).toUInt32.toUInt16.toUInt32.toInt32))).toInt64)) <<< ((16 : Int32) &&& 0x3f).toInt64) ||| ((0 : Int32).toInt64)) <<< ((16 : Int32) &&& 0x3f).toInt64) ||| ((0 : Int32).toInt64)) <<< ((16 : Int32) &&& 0x3f).toInt64))])) t
    refine XS.i2l X877.here hx rfl (hb hby d4_124) rfl ?_
    show Steps p.tables e below (T877.setTop (mkF m 125 #[.val (.ref o0), .val (.ref o1), .val (.long (((((((0 : Int64) <<< ((16 : Int32) &&& 0x3f).toInt64) ||| ((nar .char (nar .char (((49 : Int32) &&& (255 : Int32)).toUInt32.toUInt16.toUInt32.toInt32))).toInt64)) <<< ((16 : Int32) &&& 0x3f).toInt64) ||| ((0 : Int32).toInt64)) <<< ((16 : Int32) &&& 0x3f).toInt64) ||| ((0 : Int32).toInt64))), .second, .val (.int (3 : Int32)), .val (.int (0 : Int32))] [(.long ((0 : Int32).toInt64)), (.long ((((((((0 : Int64) <<< ((16 : Int32) &&& 0x3f).toInt64) ||| ((nar .char (nar .char (((49 : Int32) &&& (255 : Int32)).toUInt32.toUInt16.toUInt32.toInt32))).toInt64)) <<< ((16 : Int32) &&& 0x3f).toInt64) ||| ((0 : Int32).toInt64)) <<< ((16 : Int32) &&& 0x3f).toInt64) ||| ((0 : Int32).toInt64)) <<< ((16 : Int32) &&& 0x3f).toInt64))])) t
    refine XS.lor X877.here hx rfl (hb hby d4_125) rfl ?_
    show Steps p.tables e below (T877.setTop (mkF m 126 #[.val (.ref o0), .val (.ref o1), .val (.long (((((((0 : Int64) <<< ((16 : Int32) &&& 0x3f).toInt64) ||| ((nar .char (nar .char (((49 : Int32) &&& (255 : Int32)).toUInt32.toUInt16.toUInt32.toInt32))).toInt64)) <<< ((16 : Int32) &&& 0x3f).toInt64) ||| ((0 : Int32).toInt64)) <<< ((16 : Int32) &&& 0x3f).toInt64) ||| ((0 : Int32).toInt64))), .second, .val (.int (3 : Int32)), .val (.int (0 : Int32))] [(.long (((((((((0 : Int64) <<< ((16 : Int32) &&& 0x3f).toInt64) ||| ((nar .char (nar .char (((49 : Int32) &&& (255 : Int32)).toUInt32.toUInt16.toUInt32.toInt32))).toInt64)) <<< ((16 : Int32) &&& 0x3f).toInt64) ||| ((0 : Int32).toInt64)) <<< ((16 : Int32) &&& 0x3f).toInt64) ||| ((0 : Int32).toInt64)) <<< ((16 : Int32) &&& 0x3f).toInt64) ||| ((0 : Int32).toInt64)))])) t
    refine XS.lstoreN X877.here hx rfl (hb hby d4_126) rfl (l' := #[.val (.ref o0), .val (.ref o1), .val (.long (((((((((0 : Int64) <<< ((16 : Int32) &&& 0x3f).toInt64) ||| ((nar .char (nar .char (((49 : Int32) &&& (255 : Int32)).toUInt32.toUInt16.toUInt32.toInt32))).toInt64)) <<< ((16 : Int32) &&& 0x3f).toInt64) ||| ((0 : Int32).toInt64)) <<< ((16 : Int32) &&& 0x3f).toInt64) ||| ((0 : Int32).toInt64)) <<< ((16 : Int32) &&& 0x3f).toInt64) ||| ((0 : Int32).toInt64))), .second, .val (.int (3 : Int32)), .val (.int (0 : Int32))]) rfl ?_
    show Steps p.tables e below (T877.setTop (mkF m 127 #[.val (.ref o0), .val (.ref o1), .val (.long (((((((((0 : Int64) <<< ((16 : Int32) &&& 0x3f).toInt64) ||| ((nar .char (nar .char (((49 : Int32) &&& (255 : Int32)).toUInt32.toUInt16.toUInt32.toInt32))).toInt64)) <<< ((16 : Int32) &&& 0x3f).toInt64) ||| ((0 : Int32).toInt64)) <<< ((16 : Int32) &&& 0x3f).toInt64) ||| ((0 : Int32).toInt64)) <<< ((16 : Int32) &&& 0x3f).toInt64) ||| ((0 : Int32).toInt64))), .second, .val (.int (3 : Int32)), .val (.int (0 : Int32))] [])) t
    refine XS.iinc X877.here hx rfl (hb hby d4_127) rfl (l' := #[.val (.ref o0), .val (.ref o1), .val (.long (((((((((0 : Int64) <<< ((16 : Int32) &&& 0x3f).toInt64) ||| ((nar .char (nar .char (((49 : Int32) &&& (255 : Int32)).toUInt32.toUInt16.toUInt32.toInt32))).toInt64)) <<< ((16 : Int32) &&& 0x3f).toInt64) ||| ((0 : Int32).toInt64)) <<< ((16 : Int32) &&& 0x3f).toInt64) ||| ((0 : Int32).toInt64)) <<< ((16 : Int32) &&& 0x3f).toInt64) ||| ((0 : Int32).toInt64))), .second, .val (.int (4 : Int32)), .val (.int (0 : Int32))]) rfl ?_
    show Steps p.tables e below (T877.setTop (mkF m 130 #[.val (.ref o0), .val (.ref o1), .val (.long (((((((((0 : Int64) <<< ((16 : Int32) &&& 0x3f).toInt64) ||| ((nar .char (nar .char (((49 : Int32) &&& (255 : Int32)).toUInt32.toUInt16.toUInt32.toInt32))).toInt64)) <<< ((16 : Int32) &&& 0x3f).toInt64) ||| ((0 : Int32).toInt64)) <<< ((16 : Int32) &&& 0x3f).toInt64) ||| ((0 : Int32).toInt64)) <<< ((16 : Int32) &&& 0x3f).toInt64) ||| ((0 : Int32).toInt64))), .second, .val (.int (4 : Int32)), .val (.int (0 : Int32))] [])) t
    refine XS.goto X877.here hx rfl (pc0 := 130) (pc' := 85) rfl (hb hby d4_130) (by decide) (by decide) ?_
    show Steps p.tables e below (T877.setTop (mkF m 85 #[.val (.ref o0), .val (.ref o1), .val (.long (((((((((0 : Int64) <<< ((16 : Int32) &&& 0x3f).toInt64) ||| ((nar .char (nar .char (((49 : Int32) &&& (255 : Int32)).toUInt32.toUInt16.toUInt32.toInt32))).toInt64)) <<< ((16 : Int32) &&& 0x3f).toInt64) ||| ((0 : Int32).toInt64)) <<< ((16 : Int32) &&& 0x3f).toInt64) ||| ((0 : Int32).toInt64)) <<< ((16 : Int32) &&& 0x3f).toInt64) ||| ((0 : Int32).toInt64))), .second, .val (.int (4 : Int32)), .val (.int (0 : Int32))] [])) t
    refine XS.iload X877.here hx rfl (hb hby d4_85) rfl ?_
    show Steps p.tables e below (T877.setTop (mkF m 87 #[.val (.ref o0), .val (.ref o1), .val (.long (((((((((0 : Int64) <<< ((16 : Int32) &&& 0x3f).toInt64) ||| ((nar .char (nar .char (((49 : Int32) &&& (255 : Int32)).toUInt32.toUInt16.toUInt32.toInt32))).toInt64)) <<< ((16 : Int32) &&& 0x3f).toInt64) ||| ((0 : Int32).toInt64)) <<< ((16 : Int32) &&& 0x3f).toInt64) ||| ((0 : Int32).toInt64)) <<< ((16 : Int32) &&& 0x3f).toInt64) ||| ((0 : Int32).toInt64))), .second, .val (.int (4 : Int32)), .val (.int (0 : Int32))] [(.int (4 : Int32))])) t
    refine XS.iconst X877.here hx rfl (hb hby d4_87) ?_
    show Steps p.tables e below (T877.setTop (mkF m 88 #[.val (.ref o0), .val (.ref o1), .val (.long (((((((((0 : Int64) <<< ((16 : Int32) &&& 0x3f).toInt64) ||| ((nar .char (nar .char (((49 : Int32) &&& (255 : Int32)).toUInt32.toUInt16.toUInt32.toInt32))).toInt64)) <<< ((16 : Int32) &&& 0x3f).toInt64) ||| ((0 : Int32).toInt64)) <<< ((16 : Int32) &&& 0x3f).toInt64) ||| ((0 : Int32).toInt64)) <<< ((16 : Int32) &&& 0x3f).toInt64) ||| ((0 : Int32).toInt64))), .second, .val (.int (4 : Int32)), .val (.int (0 : Int32))] [(.int (4 : Int32)), (.int (4 : Int32))])) t
    refine XS.icmpYes X877.here hx rfl (pc0 := 88) (pc' := 133) rfl (hb hby d4_88) rfl (flt (by decide)).2.1 (by decide) (by decide) ?_
    show Steps p.tables e below (T877.setTop (mkF m 133 #[.val (.ref o0), .val (.ref o1), .val (.long (((((((((0 : Int64) <<< ((16 : Int32) &&& 0x3f).toInt64) ||| ((nar .char (nar .char (((49 : Int32) &&& (255 : Int32)).toUInt32.toUInt16.toUInt32.toInt32))).toInt64)) <<< ((16 : Int32) &&& 0x3f).toInt64) ||| ((0 : Int32).toInt64)) <<< ((16 : Int32) &&& 0x3f).toInt64) ||| ((0 : Int32).toInt64)) <<< ((16 : Int32) &&& 0x3f).toInt64) ||| ((0 : Int32).toInt64))), .second, .val (.int (4 : Int32)), .val (.int (0 : Int32))] [])) t
    refine XS.aloadN X877.here hx rfl (hb hby d4_133) rfl rfl ?_
    show Steps p.tables e below (T877.setTop (mkF m 134 #[.val (.ref o0), .val (.ref o1), .val (.long (((((((((0 : Int64) <<< ((16 : Int32) &&& 0x3f).toInt64) ||| ((nar .char (nar .char (((49 : Int32) &&& (255 : Int32)).toUInt32.toUInt16.toUInt32.toInt32))).toInt64)) <<< ((16 : Int32) &&& 0x3f).toInt64) ||| ((0 : Int32).toInt64)) <<< ((16 : Int32) &&& 0x3f).toInt64) ||| ((0 : Int32).toInt64)) <<< ((16 : Int32) &&& 0x3f).toInt64) ||| ((0 : Int32).toInt64))), .second, .val (.int (4 : Int32)), .val (.int (0 : Int32))] [(.ref o0)])) t
    refine XS.lloadN X877.here hx rfl (hb hby d4_134) rfl ?_
    exact k
  obtain ⟨T882, h882, X882, e882, W882, st882⟩ := putF X877 hx hZ hown (host := "") (Or.inl (hw _ (List.mem_of_getElem? (i := 130) rfl))) Via.refl e877 f809 f808 (Or.inr ⟨(hw _ (List.mem_of_getElem? (i := 131) rfl)), rfl, hnm⟩) (hw _ (List.mem_of_getElem? (i := 1) rfl)) (ty := .long) (by decide) rfl rfl (g := (mkF m 135 #[.val (.ref o0), .val (.ref o1), .val (.long (((((((((0 : Int64) <<< ((16 : Int32) &&& 0x3f).toInt64) ||| ((nar .char (nar .char (((49 : Int32) &&& (255 : Int32)).toUInt32.toUInt16.toUInt32.toInt32))).toInt64)) <<< ((16 : Int32) &&& 0x3f).toInt64) ||| ((0 : Int32).toInt64)) <<< ((16 : Int32) &&& 0x3f).toInt64) ||| ((0 : Int32).toInt64)) <<< ((16 : Int32) &&& 0x3f).toInt64) ||| ((0 : Int32).toInt64))), .second, .val (.int (4 : Int32)), .val (.int (0 : Int32))] [(.long (((((((((0 : Int64) <<< ((16 : Int32) &&& 0x3f).toInt64) ||| ((nar .char (nar .char (((49 : Int32) &&& (255 : Int32)).toUInt32.toUInt16.toUInt32.toInt32))).toInt64)) <<< ((16 : Int32) &&& 0x3f).toInt64) ||| ((0 : Int32).toInt64)) <<< ((16 : Int32) &&& 0x3f).toInt64) ||| ((0 : Int32).toInt64)) <<< ((16 : Int32) &&& 0x3f).toInt64) ||| ((0 : Int32).toInt64))), (.ref o0)])) rfl rfl (hb hby d4_135)
  have f883 : own_Arv Z h882 w_w_o1_value_value .byte (1 : Int32) [(.int (49 : Int32))] (.int (0 : Int32)) := f807.other W882 (Ne.symm (own_neA f808 f807 (hw _ (List.mem_of_getElem? (i := 1) rfl))))
  have f884 : Exa Z h882 o0 "com/example/perigo/perigo/engine/network/Node" := f808.wr W882
  have f885 : Fld Z h882 o0 "com/example/perigo/perigo/engine/network/Node" "reachedBy" "J" (.long w_o0_reachedBy) := f810.other W882 (Or.inr (slot_ne (Or.inl (hw _ (List.mem_of_getElem? (i := 138) rfl))) (Or.inr (hw _ (List.mem_of_getElem? (i := 131) rfl))) (by decide) (t := .long) (t' := .long) (by decide) (by decide)))
  have f886 : Fld Z h882 o0 "com/example/perigo/perigo/engine/network/Node" "reachedWith" "I" (.int w_o0_reachedWith) := f811.other W882 (Or.inr (slot_ne (Or.inl (hw _ (List.mem_of_getElem? (i := 140) rfl))) (Or.inr (hw _ (List.mem_of_getElem? (i := 131) rfl))) (by decide) (t := .int) (t' := .long) (by decide) (by decide)))
  have f887 : Fld Z h882 o1 "com/example/perigo/perigo/engine/event/Medium" "value" "Ljava/lang/String;" (.ref w_o1_value) := f812.other W882 (Or.inl ne_o1_o0)
  have f888 : Exa Z h882 o1 "com/example/perigo/perigo/engine/event/Medium" := f813.wr W882
  have f889 : Fld Z h882 w_o1_value "java/lang/String" "value" "[B" (.ref w_w_o1_value_value) := f814.other W882 (Or.inl ne_w_o1_value_o0)
  have f890 : Sta Z h882 "java/lang/String" "COMPACT_STRINGS" "Z" (.int w_s_COMPACT_STRINGS) := f815.wr W882
  have f891 : Fld Z h882 w_o1_value "java/lang/String" "coder" "B" (.int (0 : Int32)) := f816.other W882 (Or.inl ne_w_o1_value_o0)
  have f892 : Exa Z h882 w_o1_value "java/lang/String" := f817.wr W882
  have f893 : Sta Z h882 "jdk/internal/util/Preconditions" "SIOOBE_FORMATTER" "Ljava/util/function/BiFunction;" w_s_SIOOBE_FORMATTER := f818.wr W882
  have f894 : Exa Z h882 b196 "com/example/perigo/perigo/engine/network/Timeline" := f819.wr W882
  have f895 : Fld Z h882 o0 "com/example/perigo/perigo/engine/network/Node" "events" "Lcom/example/perigo/perigo/engine/network/Timeline;" (.ref b196) := f820.other W882 (Or.inr (slot_ne (Or.inr (hw _ (List.mem_of_getElem? (i := 55) rfl))) (Or.inr (hw _ (List.mem_of_getElem? (i := 131) rfl))) (by decide) (t := (.object "com/example/perigo/perigo/engine/network/Timeline")) (t' := .long) (by decide) (by decide)))
  have f896 : Exa Z h882 b283 "java/util/HashMap" := f821.wr W882
  have f897 : Fld Z h882 o0 "com/example/perigo/perigo/engine/network/Node" "eventsByType" "Ljava/util/Map;" (.ref b283) := f822.other W882 (Or.inr (slot_ne (Or.inr (hw _ (List.mem_of_getElem? (i := 73) rfl))) (Or.inr (hw _ (List.mem_of_getElem? (i := 131) rfl))) (by decide) (t := (.object "java/util/Map")) (t' := .long) (by decide) (by decide)))
  have f898 : Exa Z h882 b371 "com/example/perigo/perigo/engine/network/Timeline" := f823.wr W882
  have f899 : Fld Z h882 o0 "com/example/perigo/perigo/engine/network/Node" "frauds" "Lcom/example/perigo/perigo/engine/network/Timeline;" (.ref b371) := f824.other W882 (Or.inr (slot_ne (Or.inr (hw _ (List.mem_of_getElem? (i := 75) rfl))) (Or.inr (hw _ (List.mem_of_getElem? (i := 131) rfl))) (by decide) (t := (.object "com/example/perigo/perigo/engine/network/Timeline")) (t' := .long) (by decide) (by decide)))
  have f900 : own_Arv Z h882 b466 .long (1 : Int32) [(.long (0 : Int64))] (.long (0 : Int64)) := f825.other W882 (Ne.symm ne468)
  have f901 : Fld Z h882 o0 "com/example/perigo/perigo/engine/network/Node" "knownSeconds" "[J" (.ref b466) := f826.other W882 (Or.inr (slot_ne (Or.inl (hw _ (List.mem_of_getElem? (i := 77) rfl))) (Or.inr (hw _ (List.mem_of_getElem? (i := 131) rfl))) (by decide) (t := (.array .long)) (t' := .long) (by decide) (by decide)))
  have f902 : own_Arv Z h882 b530 .int (1 : Int32) [(.int (0 : Int32))] (.int (0 : Int32)) := f827.other W882 (Ne.symm ne532)
  have f903 : Fld Z h882 o0 "com/example/perigo/perigo/engine/network/Node" "knownNanos" "[I" (.ref b530) := f828.other W882 (Or.inr (slot_ne (Or.inl (hw _ (List.mem_of_getElem? (i := 79) rfl))) (Or.inr (hw _ (List.mem_of_getElem? (i := 131) rfl))) (by decide) (t := (.array .int)) (t' := .long) (by decide) (by decide)))
  have f904 : own_ArvR Z h882 b597 "com/example/perigo/perigo/engine/network/Node" (2 : Int32) [.null, .null] := f829.other W882 (Ne.symm ne599)
  have f905 : Fld Z h882 o0 "com/example/perigo/perigo/engine/network/Node" "others" "[Lcom/example/perigo/perigo/engine/network/Node;" (.ref b597) := f830.other W882 (Or.inr (slot_ne (Or.inl (hw _ (List.mem_of_getElem? (i := 83) rfl))) (Or.inr (hw _ (List.mem_of_getElem? (i := 131) rfl))) (by decide) (t := (.array (.object "com/example/perigo/perigo/engine/network/Node"))) (t' := .long) (by decide) (by decide)))
  have f906 : Fld Z h882 o0 "com/example/perigo/perigo/engine/network/Node" "besideInTimeOrder" "Z" (.int (1 : Int32)) := f831.other W882 (Or.inr (slot_ne (Or.inl (hw _ (List.mem_of_getElem? (i := 85) rfl))) (Or.inr (hw _ (List.mem_of_getElem? (i := 131) rfl))) (by decide) (t := .boolean) (t' := .long) (by decide) (by decide)))
  have f907 : Exa Z h882 b698 "java/util/HashMap" := f832.wr W882
  have f908 : Fld Z h882 o0 "com/example/perigo/perigo/engine/network/Node" "firstJoins" "Ljava/util/Map;" (.ref b698) := f833.other W882 (Or.inr (slot_ne (Or.inr (hw _ (List.mem_of_getElem? (i := 87) rfl))) (Or.inr (hw _ (List.mem_of_getElem? (i := 131) rfl))) (by decide) (t := (.object "java/util/Map")) (t' := .long) (by decide) (by decide)))
  have f909 : Fld Z h882 o0 "com/example/perigo/perigo/engine/network/Node" "medium" "Lcom/example/perigo/perigo/engine/event/Medium;" (.ref o1) := f834.other W882 (Or.inr (slot_ne (Or.inr (hw _ (List.mem_of_getElem? (i := 89) rfl))) (Or.inr (hw _ (List.mem_of_getElem? (i := 131) rfl))) (by decide) (t := (.object "com/example/perigo/perigo/engine/event/Medium")) (t' := .long) (by decide) (by decide)))
  have f910 : Fld Z h882 o0 "com/example/perigo/perigo/engine/network/Node" "valueKey" "J" (.long (((((((((0 : Int64) <<< ((16 : Int32) &&& 0x3f).toInt64) ||| ((nar .char (nar .char (((49 : Int32) &&& (255 : Int32)).toUInt32.toUInt16.toUInt32.toInt32))).toInt64)) <<< ((16 : Int32) &&& 0x3f).toInt64) ||| ((0 : Int32).toInt64)) <<< ((16 : Int32) &&& 0x3f).toInt64) ||| ((0 : Int32).toInt64)) <<< ((16 : Int32) &&& 0x3f).toInt64) ||| ((0 : Int32).toInt64))) := f809.same W882
  have N911 := Fr.snoc X882 N880 g_o0
  have Z912 : n0 ≤ h882.size := Nat.le_trans Z836 (Keep.of_wr W882).1
  have K913 : Keep h0 h882 [o0] := K837.wr W882 (Or.inl (List.mem_of_getElem? (i := 0) rfl))
  refine own_go st882 ?_
  obtain ⟨fs, hr, hrun, hended, hW, hsame⟩ := X882.leave (v := none) (fun _ => rfl)
  refine own_end (v := none) ?_ hrun hended ?_ hW (hsame.mono (by decide) (by decide))
  · show Steps p.tables e below (T882.setTop (mkF m 138 #[.val (.ref o0), .val (.ref o1), .val (.long (((((((((0 : Int64) <<< ((16 : Int32) &&& 0x3f).toInt64) ||| ((nar .char (nar .char (((49 : Int32) &&& (255 : Int32)).toUInt32.toUInt16.toUInt32.toInt32))).toInt64)) <<< ((16 : Int32) &&& 0x3f).toInt64) ||| ((0 : Int32).toInt64)) <<< ((16 : Int32) &&& 0x3f).toInt64) ||| ((0 : Int32).toInt64)) <<< ((16 : Int32) &&& 0x3f).toInt64) ||| ((0 : Int32).toInt64))), .second, .val (.int (4 : Int32)), .val (.int (0 : Int32))] [])) _
    exact X882.returnOut hx Bd.returns (hb hby d4_138) hr
  · show QnoInit Z o0 o1 w_s_COMPACT_STRINGS w_w_o1_value_value w_o0_events w_o0_eventsByType w_o0_frauds w_o0_knownSeconds w_o0_knownNanos w_o0_others w_o0_besideInTimeOrder w_o0_firstJoins w_o0_medium w_o0_valueKey w_o0_reachedBy w_o0_reachedWith w_o1_value w_s_SIOOBE_FORMATTER h0 n0 _ T882.heap _
    rw [e882]
    exact ⟨rfl, N911, K913, f884, f885, f886⟩
theorem d16_0 : decode prog_53_method_16_code 0 = .ok (.aload_n 0, 1) := by decide +kernel
theorem d16_1 : decode prog_53_method_16_code 1 = .ok (.lload_n 1, 1) := by decide +kernel
theorem d16_2 : decode prog_53_method_16_code 2 = .ok (.putfield 159, 3) := by decide +kernel
theorem d16_5 : decode prog_53_method_16_code 5 = .ok (.aload_n 0, 1) := by decide +kernel
theorem d16_6 : decode prog_53_method_16_code 6 = .ok (.iload_n 3, 1) := by decide +kernel
theorem d16_7 : decode prog_53_method_16_code 7 = .ok (.putfield 162, 3) := by decide +kernel
theorem d16_10 : decode prog_53_method_16_code 10 = .ok (.return_, 1) := by decide +kernel
theorem ef_mark (m : MethodId) (x0 : Addr) (x1 : Int64) (x2 : Int32) : entryFrame m #[(.ref x0), (.long x1), (.int x2)] 4 = mkF m 0 #[.val (.ref x0), .val (.long x1), .second, .val (.int x2)] [] := by first | (simp [entryFrame, mkF, argsToLocals, Value.category]; done) | rfl
def Qmark (Z : State) (o0 : Addr) (q1 : Int64) (p2 : Int32) (w_o0_reachedBy : Int64) (w_o0_reachedWith : Int32) (h0 : Heap) (n0 : Nat) (v : Option Value) (h : Heap) (L : List Loc) : Prop := v = none ∧ Fr n0 L ∧ Keep h0 h [o0] ∧ Exa Z h o0 "com/example/perigo/perigo/engine/network/Node" ∧ Fld Z h o0 "com/example/perigo/perigo/engine/network/Node" "reachedBy" "J" (.long q1) ∧ Fld Z h o0 "com/example/perigo/perigo/engine/network/Node" "reachedWith" "I" (.int p2)
set_option maxRecDepth 65536 in
set_option maxHeartbeats 40000000 in
theorem mark (l : Launch) (Z : State) (a0 : Array Value) (hw : ∀ d ∈ tables_1, d.before a0 Z = true) (ws : List Jvm.Cond) (o0 : Addr) (q1 : Int64) (p2 : Int32) (w_o0_reachedBy : Int64) (w_o0_reachedWith : Int32) (h0 : Heap) (n0 : Nat) (Z0 : n0 ≤ h0.size) (E_o0 : Exa Z h0 o0 "com/example/perigo/perigo/engine/network/Node") (F_o0_reachedBy : Fld Z h0 o0 "com/example/perigo/perigo/engine/network/Node" "reachedBy" "J" (.long w_o0_reachedBy)) (F_o0_reachedWith : Fld Z h0 o0 "com/example/perigo/perigo/engine/network/Node" "reachedWith" "I" (.int w_o0_reachedWith)) (g_o0 : n0 ≤ o0) :
    MetFree l (⟨"com/example/perigo/perigo/engine/network/Node", "markReached", "(JI)V"⟩ : MethodName) (head1 (Jvm.Cond.code (⟨"com/example/perigo/perigo/engine/network/Node", "markReached", "(JI)V"⟩ : MethodName) prog_53_method_16_code 4 none :: ws) ({ frames := 0, cells := 0, slots := 0, locals := 0 } : Room)) (fun a U => a = #[(.ref o0), (.long q1), (.int p2)] ∧ Z.Warmed39 U.vm ∧ U.heap = h0) (fun _ _ _ _ _ => True) (fun _ U o U' => ∃ v L, o = .returned v ∧ Qmark Z o0 q1 p2 w_o0_reachedBy w_o0_reachedWith h0 n0 v U'.heap L ∧ FrameEnd U o U' L ({ frames := 0, cells := 0, slots := 0, locals := 0 } : Room).cells ({ frames := 0, cells := 0, slots := 0, locals := 0 } : Room).slots) := by
  refine MetFree.of_bodySF (plainFor_of_name pn_193) hisR ?_
  intro p e s m args below meth c s₁ Bd hml0 hP hK
  obtain ⟨rfl, hZ, hh⟩ := hP
  have hx := Bd.exec
  have hby := Bd.bytes
  have hml : c.maxLocals = 4 := hml0
  have hown : s.vm.findClass "com/example/perigo/perigo/engine/network/Node" = some m.cls := findClass_of_methodNamed Bd.named
  have hnm := (name_of_methodNamed Bd.named Bd.method).1
  have X0 : Stand p l e ({ frames := 0, cells := 0, slots := 0, locals := 0 } : Room) s m #[(.ref o0), (.long q1), (.int p2)] below meth c s₁ [] 0 0 := Stand.of_body Bd
  have e0 : s₁.heap = h0 := by rw [← hh, Bd.state]; rfl
  have N0 := Fr.nil n0
  show own_Go p e below s (Qmark Z o0 q1 p2 w_o0_reachedBy w_o0_reachedWith h0 n0) ({ frames := 0, cells := 0, slots := 0, locals := 0 } : Room).cells ({ frames := 0, cells := 0, slots := 0, locals := 0 } : Room).slots (s₁.setTop (entryFrame m #[(.ref o0), (.long q1), (.int p2)] 4))
  rw [ef_mark m o0 q1 p2]
  have K0 : Keep h0 h0 [o0] := Keep.refl h0 [o0]
  refine own_go (S' := s₁.setTop (mkF m 2 #[.val (.ref o0), .val (.long q1), .second, .val (.int p2)] [(.long q1), (.ref o0)])) (fun t k => ?_) ?_
  · show Steps p.tables e below (s₁.setTop (mkF m 0 #[.val (.ref o0), .val (.long q1), .second, .val (.int p2)] [])) t
    refine XS.aloadN X0.here hx rfl (hb hby d16_0) rfl rfl ?_
    show Steps p.tables e below (s₁.setTop (mkF m 1 #[.val (.ref o0), .val (.long q1), .second, .val (.int p2)] [(.ref o0)])) t
    refine XS.lloadN X0.here hx rfl (hb hby d16_1) rfl ?_
    exact k
  obtain ⟨T914, h914, X914, e914, W914, st914⟩ := putF X0 hx hZ hown (host := "") (Or.inl (hw _ (List.mem_of_getElem? (i := 137) rfl))) Via.refl e0 F_o0_reachedBy E_o0 (Or.inl (hw _ (List.mem_of_getElem? (i := 138) rfl))) (hw _ (List.mem_of_getElem? (i := 1) rfl)) (ty := .long) (by decide) rfl rfl (g := (mkF m 2 #[.val (.ref o0), .val (.long q1), .second, .val (.int p2)] [(.long q1), (.ref o0)])) rfl rfl (hb hby d16_2)
  have f915 : Exa Z h914 o0 "com/example/perigo/perigo/engine/network/Node" := E_o0.wr W914
  have f916 : Fld Z h914 o0 "com/example/perigo/perigo/engine/network/Node" "reachedWith" "I" (.int w_o0_reachedWith) := F_o0_reachedWith.other W914 (Or.inr (slot_ne (Or.inl (hw _ (List.mem_of_getElem? (i := 140) rfl))) (Or.inl (hw _ (List.mem_of_getElem? (i := 138) rfl))) (by decide) (t := .int) (t' := .long) (by decide) (by decide)))
  have f917 : Fld Z h914 o0 "com/example/perigo/perigo/engine/network/Node" "reachedBy" "J" (.long q1) := F_o0_reachedBy.same W914
  have N918 := Fr.snoc X914 N0 g_o0
  have Z919 : n0 ≤ h914.size := Nat.le_trans Z0 (Keep.of_wr W914).1
  have K920 : Keep h0 h914 [o0] := K0.wr W914 (Or.inl (List.mem_of_getElem? (i := 0) rfl))
  refine own_go st914 ?_
  refine own_go (S' := T914.setTop (mkF m 7 #[.val (.ref o0), .val (.long q1), .second, .val (.int p2)] [(.int p2), (.ref o0)])) (fun t k => ?_) ?_
  · show Steps p.tables e below (T914.setTop (mkF m 5 #[.val (.ref o0), .val (.long q1), .second, .val (.int p2)] [])) t
    refine XS.aloadN X914.here hx rfl (hb hby d16_5) rfl rfl ?_
    show Steps p.tables e below (T914.setTop (mkF m 6 #[.val (.ref o0), .val (.long q1), .second, .val (.int p2)] [(.ref o0)])) t
    refine XS.iloadN X914.here hx rfl (hb hby d16_6) rfl ?_
    exact k
  obtain ⟨T921, h921, X921, e921, W921, st921⟩ := putF X914 hx hZ hown (host := "") (Or.inl (hw _ (List.mem_of_getElem? (i := 139) rfl))) Via.refl e914 f916 f915 (Or.inl (hw _ (List.mem_of_getElem? (i := 140) rfl))) (hw _ (List.mem_of_getElem? (i := 1) rfl)) (ty := .int) (by decide) rfl rfl (g := (mkF m 7 #[.val (.ref o0), .val (.long q1), .second, .val (.int p2)] [(.int p2), (.ref o0)])) rfl rfl (hb hby d16_7)
  have f922 : Exa Z h921 o0 "com/example/perigo/perigo/engine/network/Node" := f915.wr W921
  have f923 : Fld Z h921 o0 "com/example/perigo/perigo/engine/network/Node" "reachedBy" "J" (.long q1) := f917.other W921 (Or.inr (slot_ne (Or.inl (hw _ (List.mem_of_getElem? (i := 138) rfl))) (Or.inl (hw _ (List.mem_of_getElem? (i := 140) rfl))) (by decide) (t := .long) (t' := .int) (by decide) (by decide)))
  have f924 : Fld Z h921 o0 "com/example/perigo/perigo/engine/network/Node" "reachedWith" "I" (.int p2) := f916.same W921
  have N925 := Fr.snoc X921 N918 g_o0
  have Z926 : n0 ≤ h921.size := Nat.le_trans Z919 (Keep.of_wr W921).1
  have K927 : Keep h0 h921 [o0] := K920.wr W921 (Or.inl (List.mem_of_getElem? (i := 0) rfl))
  refine own_go st921 ?_
  obtain ⟨fs, hr, hrun, hended, hW, hsame⟩ := X921.leave (v := none) (fun _ => rfl)
  refine own_end (v := none) ?_ hrun hended ?_ hW (hsame.mono (by decide) (by decide))
  · show Steps p.tables e below (T921.setTop (mkF m 10 #[.val (.ref o0), .val (.long q1), .second, .val (.int p2)] [])) _
    exact X921.returnOut hx Bd.returns (hb hby d16_10) hr
  · show Qmark Z o0 q1 p2 w_o0_reachedBy w_o0_reachedWith h0 n0 _ T921.heap _
    rw [e921]
    exact ⟨rfl, N925, K927, f922, f923, f924⟩
theorem d17_0 : decode prog_53_method_15_code 0 = .ok (.aload_n 0, 1) := by decide +kernel
theorem d17_1 : decode prog_53_method_15_code 1 = .ok (.getfield 159, 3) := by decide +kernel
theorem d17_4 : decode prog_53_method_15_code 4 = .ok (.lload_n 1, 1) := by decide +kernel
theorem d17_5 : decode prog_53_method_15_code 5 = .ok (.lcmp, 1) := by decide +kernel
theorem d17_6 : decode prog_53_method_15_code 6 = .ok (.ifCond .ne 7, 3) := by decide +kernel
theorem d17_9 : decode prog_53_method_15_code 9 = .ok (.iconst 1, 1) := by decide +kernel
theorem d17_10 : decode prog_53_method_15_code 10 = .ok (.goto 4, 3) := by decide +kernel
theorem d17_14 : decode prog_53_method_15_code 14 = .ok (.ireturn, 1) := by decide +kernel
theorem d17_13 : decode prog_53_method_15_code 13 = .ok (.iconst 0, 1) := by decide +kernel
theorem ef_isR (m : MethodId) (x0 : Addr) (x1 : Int64) : entryFrame m #[(.ref x0), (.long x1)] 3 = mkF m 0 #[.val (.ref x0), .val (.long x1), .second] [] := by first | (simp [entryFrame, mkF, argsToLocals, Value.category]; done) | rfl
def isR_r (q1 : Int64) (w_o0_reachedBy : Int64) : Int32 := (if w_o0_reachedBy = q1 then (1 : Int32) else (0 : Int32))
def QisR (Z : State) (o0 : Addr) (q1 : Int64) (w_o0_reachedBy : Int64) (h0 : Heap) (n0 : Nat) (v : Option Value) (h : Heap) (L : List Loc) : Prop := v = some (.int (isR_r q1 w_o0_reachedBy)) ∧ Fr n0 L ∧ h = h0
set_option maxRecDepth 65536 in
set_option maxHeartbeats 40000000 in
theorem isR (l : Launch) (Z : State) (a0 : Array Value) (hw : ∀ d ∈ tables_1, d.before a0 Z = true) (ws : List Jvm.Cond) (o0 : Addr) (q1 : Int64) (w_o0_reachedBy : Int64) (h0 : Heap) (n0 : Nat) (Z0 : n0 ≤ h0.size) (F_o0_reachedBy : Fld Z h0 o0 "com/example/perigo/perigo/engine/network/Node" "reachedBy" "J" (.long w_o0_reachedBy)) :
    MetFree l (⟨"com/example/perigo/perigo/engine/network/Node", "isReachedBy", "(J)Z"⟩ : MethodName) (head1 (Jvm.Cond.code (⟨"com/example/perigo/perigo/engine/network/Node", "isReachedBy", "(J)Z"⟩ : MethodName) prog_53_method_15_code 3 (some .boolean) :: ws) ({ frames := 0, cells := 0, slots := 0, locals := 0 } : Room)) (fun a U => a = #[(.ref o0), (.long q1)] ∧ Z.Warmed39 U.vm ∧ U.heap = h0) (fun _ _ _ _ _ => True) (fun _ U o U' => ∃ v L, o = .returned v ∧ QisR Z o0 q1 w_o0_reachedBy h0 n0 v U'.heap L ∧ FrameEnd U o U' L ({ frames := 0, cells := 0, slots := 0, locals := 0 } : Room).cells ({ frames := 0, cells := 0, slots := 0, locals := 0 } : Room).slots) := by
  refine MetFree.of_bodySF (plainFor_of_name pn_193) hisR ?_
  intro p e s m args below meth c s₁ Bd hml0 hP hK
  obtain ⟨rfl, hZ, hh⟩ := hP
  have hx := Bd.exec
  have hby := Bd.bytes
  have hml : c.maxLocals = 3 := hml0
  have hown : s.vm.findClass "com/example/perigo/perigo/engine/network/Node" = some m.cls := findClass_of_methodNamed Bd.named
  have hnm := (name_of_methodNamed Bd.named Bd.method).1
  have X0 : Stand p l e ({ frames := 0, cells := 0, slots := 0, locals := 0 } : Room) s m #[(.ref o0), (.long q1)] below meth c s₁ [] 0 0 := Stand.of_body Bd
  have e0 : s₁.heap = h0 := by rw [← hh, Bd.state]; rfl
  have N0 := Fr.nil n0
  show own_Go p e below s (QisR Z o0 q1 w_o0_reachedBy h0 n0) ({ frames := 0, cells := 0, slots := 0, locals := 0 } : Room).cells ({ frames := 0, cells := 0, slots := 0, locals := 0 } : Room).slots (s₁.setTop (entryFrame m #[(.ref o0), (.long q1)] 3))
  rw [ef_isR m o0 q1]
  have K0 : Keep h0 h0 [] := Keep.refl h0 []
  refine own_go (S' := s₁.setTop (mkF m 1 #[.val (.ref o0), .val (.long q1), .second] [(.ref o0)])) (fun t k => ?_) ?_
  · show Steps p.tables e below (s₁.setTop (mkF m 0 #[.val (.ref o0), .val (.long q1), .second] [])) t
    refine XS.aloadN X0.here hx rfl (hb hby d17_0) rfl rfl ?_
    exact k
  obtain ⟨T928, X928, e928, st928⟩ := getF X0 hx hZ hown (host := "") (Or.inl (hw _ (List.mem_of_getElem? (i := 137) rfl))) Via.refl e0 F_o0_reachedBy (g := (mkF m 1 #[.val (.ref o0), .val (.long q1), .second] [(.ref o0)])) rfl rfl (hb hby d17_1)
  refine own_go st928 ?_
  refine own_go (S' := T928.setTop (mkF m 6 #[.val (.ref o0), .val (.long q1), .second] [(.int (Jvm.Free.XT.cmpL w_o0_reachedBy q1))])) (fun t k => ?_) ?_
  · show Steps p.tables e below (T928.setTop (mkF m 4 #[.val (.ref o0), .val (.long q1), .second] [(.long w_o0_reachedBy)])) t
    refine XS.lloadN X928.here hx rfl (hb hby d17_4) rfl ?_
    show Steps p.tables e below (T928.setTop (mkF m 5 #[.val (.ref o0), .val (.long q1), .second] [(.long q1), (.long w_o0_reachedBy)])) t
    refine XS.lcmp X928.here hx rfl (hb hby d17_5) rfl ?_
    exact k
  by_cases hc6 : w_o0_reachedBy = q1
  · skip
    refine own_go (S' := T928.setTop (mkF m 14 #[.val (.ref o0), .val (.long q1), .second] [(.int (1 : Int32))])) (fun t k => ?_) ?_
    · show Steps p.tables e below (T928.setTop (mkF m 6 #[.val (.ref o0), .val (.long q1), .second] [(.int (Jvm.Free.XT.cmpL w_o0_reachedBy q1))])) t
      refine XS.ifNo X928.here hx rfl (hb hby d17_6) rfl (Jvm.Free.XT.ll_ne_f hc6) ?_
      show Steps p.tables e below (T928.setTop (mkF m 9 #[.val (.ref o0), .val (.long q1), .second] [])) t
      refine XS.iconst X928.here hx rfl (hb hby d17_9) ?_
      show Steps p.tables e below (T928.setTop (mkF m 10 #[.val (.ref o0), .val (.long q1), .second] [(.int (1 : Int32))])) t
      refine XS.goto X928.here hx rfl (pc0 := 10) (pc' := 14) rfl (hb hby d17_10) (by decide) (by decide) ?_
      exact k
    obtain ⟨fs, hr, hrun, hended, hW, hsame⟩ := X928.leave (v := some (.int (1 : Int32))) (fun h => by rw [Bd.returns] at h; cases h)
    refine own_end (v := some (.int (1 : Int32))) ?_ hrun hended ?_ hW (hsame.mono (by decide) (by decide))
    · show Steps p.tables e below (T928.setTop (mkF m 14 #[.val (.ref o0), .val (.long q1), .second] [(.int (1 : Int32))])) _
      exact retN X928 hx (t := .boolean) Bd.returns (by simp) (hb hby d17_14) hr
    · show QisR Z o0 q1 w_o0_reachedBy h0 n0 _ T928.heap _
      rw [e928]
      exact ⟨(by simp only [isR_r, if_pos hc6]), N0, rfl⟩
  · skip
    refine own_go (S' := T928.setTop (mkF m 14 #[.val (.ref o0), .val (.long q1), .second] [(.int (0 : Int32))])) (fun t k => ?_) ?_
    · show Steps p.tables e below (T928.setTop (mkF m 6 #[.val (.ref o0), .val (.long q1), .second] [(.int (Jvm.Free.XT.cmpL w_o0_reachedBy q1))])) t
      refine XS.ifYes X928.here hx rfl (pc0 := 6) (pc' := 13) rfl (hb hby d17_6) rfl (Jvm.Free.XT.ll_ne_t hc6) (by decide) (by decide) ?_
      show Steps p.tables e below (T928.setTop (mkF m 13 #[.val (.ref o0), .val (.long q1), .second] [])) t
      refine XS.iconst X928.here hx rfl (hb hby d17_13) ?_
      exact k
    obtain ⟨fs, hr, hrun, hended, hW, hsame⟩ := X928.leave (v := some (.int (0 : Int32))) (fun h => by rw [Bd.returns] at h; cases h)
    refine own_end (v := some (.int (0 : Int32))) ?_ hrun hended ?_ hW (hsame.mono (by decide) (by decide))
    · show Steps p.tables e below (T928.setTop (mkF m 14 #[.val (.ref o0), .val (.long q1), .second] [(.int (0 : Int32))])) _
      exact retN X928 hx (t := .boolean) Bd.returns (by simp) (hb hby d17_14) hr
    · show QisR Z o0 q1 w_o0_reachedBy h0 n0 _ T928.heap _
      rw [e928]
      exact ⟨(by simp only [isR_r, if_neg hc6]), N0, rfl⟩
theorem own_isR (x y : Int64) : isR_r x y = (if x = y then (1 : Int32) else (0 : Int32)) := by
  unfold isR_r
  by_cases h : y = x
  · simp [h]
  · have h2 : ¬ x = y := fun e => h e.symm
    simp [h, h2]
theorem pd_210 : parseMethodDescriptor "(Ljava/lang/String;Ljava/lang/String;)V" = some ⟨[(.object "java/lang/String"), (.object "java/lang/String")], none⟩ := by decide +kernel
theorem pd_211 : parseMethodDescriptor "(Lcom/example/perigo/perigo/engine/event/Medium;)V" = some ⟨[(.object "com/example/perigo/perigo/engine/event/Medium")], none⟩ := by decide +kernel
theorem pd_212 : parseMethodDescriptor "(JI)V" = some ⟨[.long, .int], none⟩ := by decide +kernel
theorem pd_213 : parseMethodDescriptor "(J)Z" = some ⟨[.long], some .boolean⟩ := by decide +kernel
theorem pn_214 : plainName "com/example/perigo/perigo/engine/network/NodeIsReachedByPinLaw" = true := by first | (simp [plainName, overriddenIn]; done) | decide +kernel
theorem ef_rm0 (m : MethodId) (x0 : Int64) (x1 : Int64) (x2 : Int64) (x3 : Int32) (x4 : Int32) : entryFrame m #[(.long x0), (.long x1), (.long x2), (.int x3), (.int x4)] maxLocals = mkF m 0 #[.val (.long x0), .second, .val (.long x1), .second, .val (.long x2), .second, .val (.int x3), .val (.int x4), .unset, .unset, .unset, .unset, .unset, .unset, .unset, .unset, .unset, .unset, .unset] [] := by first | (simp [entryFrame, mkF, argsToLocals, Value.category, maxLocals]; done) | rfl
def Qrm0 (Z : State) (q0 : Int64) (q1 : Int64) (q2 : Int64) (p3 : Int32) (p4 : Int32) (w_s_COMPACT_STRINGS : Int32) (w_s_SIOOBE_FORMATTER : Value) (h0 : Heap) (n0 : Nat) (v : Option Value) (h : Heap) (L : List Loc) : Prop := v = some (.int 1) ∧ Fr n0 L
set_option maxRecDepth 65536 in
set_option maxHeartbeats 40000000 in
theorem rm0 (l : Launch) (Z : State) (a0 : Array Value) (hw : ∀ d ∈ tables_1, d.before a0 Z = true) (ws : List Jvm.Cond) (q0 : Int64) (q1 : Int64) (q2 : Int64) (p3 : Int32) (p4 : Int32) (w_s_COMPACT_STRINGS : Int32) (w_s_SIOOBE_FORMATTER : Value) (h0 : Heap) (n0 : Nat) (Z0 : n0 ≤ h0.size) (hcs : ¬ (w_s_COMPACT_STRINGS = (0 : Int32))) (Old0 : Old Z n0 h0) (held11 : Jvm.Lit.constHeld Z "com/example/perigo/perigo/engine/network/NodeIsReachedByPinLaw" 11) (held13 : Jvm.Lit.constHeld Z "com/example/perigo/perigo/engine/network/NodeIsReachedByPinLaw" 13) (hcw : Jvm.Lit.compactW.before a0 Z = true) (S_COMPACT_STRINGS : Sta Z h0 "java/lang/String" "COMPACT_STRINGS" "Z" (.int w_s_COMPACT_STRINGS)) (ref_w_s_SIOOBE_FORMATTER : w_s_SIOOBE_FORMATTER.isRef = true) (S_SIOOBE_FORMATTER : Sta Z h0 "jdk/internal/util/Preconditions" "SIOOBE_FORMATTER" "Ljava/util/function/BiFunction;" w_s_SIOOBE_FORMATTER) :
    MetFree l x (head1 (Jvm.Cond.code x code maxLocals ret :: ws) room_1) (fun a U => a = #[(.long q0), (.long q1), (.long q2), (.int p3), (.int p4)] ∧ Z.Warmed39 U.vm ∧ U.heap = h0 ∧ IB Z U.vm []) (fun _ _ _ _ _ => True) (fun _ U o U' => ∃ v L, o = .returned v ∧ Qrm0 Z q0 q1 q2 p3 p4 w_s_COMPACT_STRINGS w_s_SIOOBE_FORMATTER h0 n0 v U'.heap L ∧ ReturnedEndW U o U' L room_1.cells room_1.slots) := by
  refine MetFree.of_bodySF (plainFor_of_name pn_214) hisR ?_
  intro p e s m args below meth c s₁ Bd hml0 hP hK
  obtain ⟨rfl, hZ, hh, IB0⟩ := hP
  have hx := Bd.exec
  have hby := Bd.bytes
  have hml : c.maxLocals = 19 := hml0
  have hown : s.vm.findClass "com/example/perigo/perigo/engine/network/NodeIsReachedByPinLaw" = some m.cls := findClass_of_methodNamed Bd.named
  have hnm := (name_of_methodNamed Bd.named Bd.method).1
  have X0 : Stand p l e room_1 s m #[(.long q0), (.long q1), (.long q2), (.int p3), (.int p4)] below meth c s₁ [] 0 0 := Stand.of_body Bd
  have e0 : s₁.heap = h0 := by rw [← hh, Bd.state]; rfl
  have N0 := Fr.nil n0
  show own_GoW p e below s (Qrm0 Z q0 q1 q2 p3 p4 w_s_COMPACT_STRINGS w_s_SIOOBE_FORMATTER h0 n0) room_1.cells room_1.slots (s₁.setTop (entryFrame m #[(.long q0), (.long q1), (.long q2), (.int p3), (.int p4)] maxLocals))
  rw [ef_rm0 m q0 q1 q2 p3 p4]
  have hS : s.Since s.vm 0 := (State.WarmedH.refl s).since 0
  have hk0 : 0 ≤ h0.size := Nat.zero_le _
  obtain ⟨T929, h929, X929, e929, E929, A929, D929, -, st929⟩ := newO X0 hx hZ hown (hw _ (List.mem_of_getElem? (i := 0) rfl)) (hw _ (List.mem_of_getElem? (i := 1) rfl)) (hw _ (List.mem_of_getElem? (i := 2) rfl)) e0 (g := (mkF m 0 #[.val (.long q0), .second, .val (.long q1), .second, .val (.long q2), .second, .val (.int p3), .val (.int p4), .unset, .unset, .unset, .unset, .unset, .unset, .unset, .unset, .unset, .unset, .unset] [])) rfl (hb hby at_0) (by decide) (by decide)
  obtain ⟨b929, g929⟩ : ∃ z, z = h0.size := ⟨_, rfl⟩
  rw [← g929] at A929 D929 st929
  have g_b929 : n0 ≤ b929 := Nat.le_trans Z0 (Nat.le_of_eq g929.symm)
  have Z930 : n0 ≤ h929.size := Nat.le_trans Z0 E929.1
  have hk931 := Nat.le_trans hk0 E929.1
  have f932 : Old Z n0 h929 := Old0.ext E929
  have f933 : Sta Z h929 "java/lang/String" "COMPACT_STRINGS" "Z" (.int w_s_COMPACT_STRINGS) := Sta.ext E929 S_COMPACT_STRINGS
  have f934 : Sta Z h929 "jdk/internal/util/Preconditions" "SIOOBE_FORMATTER" "Ljava/util/function/BiFunction;" w_s_SIOOBE_FORMATTER := Sta.ext E929 S_SIOOBE_FORMATTER
  have f935 : Fld Z h929 b929 "com/example/perigo/perigo/engine/network/Node" "events" "Lcom/example/perigo/perigo/engine/network/Timeline;" .null := D929 (Or.inr (hw _ (List.mem_of_getElem? (i := 55) rfl))) (ty := (.object "com/example/perigo/perigo/engine/network/Timeline")) (by decide)
  have f936 : Fld Z h929 b929 "com/example/perigo/perigo/engine/network/Node" "eventsByType" "Ljava/util/Map;" .null := D929 (Or.inr (hw _ (List.mem_of_getElem? (i := 73) rfl))) (ty := (.object "java/util/Map")) (by decide)
  have f937 : Fld Z h929 b929 "com/example/perigo/perigo/engine/network/Node" "frauds" "Lcom/example/perigo/perigo/engine/network/Timeline;" .null := D929 (Or.inr (hw _ (List.mem_of_getElem? (i := 75) rfl))) (ty := (.object "com/example/perigo/perigo/engine/network/Timeline")) (by decide)
  have f938 : Fld Z h929 b929 "com/example/perigo/perigo/engine/network/Node" "knownSeconds" "[J" .null := D929 (Or.inl (hw _ (List.mem_of_getElem? (i := 77) rfl))) (ty := (.array .long)) (by decide)
  have f939 : Fld Z h929 b929 "com/example/perigo/perigo/engine/network/Node" "knownNanos" "[I" .null := D929 (Or.inl (hw _ (List.mem_of_getElem? (i := 79) rfl))) (ty := (.array .int)) (by decide)
  have f940 : Fld Z h929 b929 "com/example/perigo/perigo/engine/network/Node" "others" "[Lcom/example/perigo/perigo/engine/network/Node;" .null := D929 (Or.inl (hw _ (List.mem_of_getElem? (i := 83) rfl))) (ty := (.array (.object "com/example/perigo/perigo/engine/network/Node"))) (by decide)
  have f941 : Fld Z h929 b929 "com/example/perigo/perigo/engine/network/Node" "besideInTimeOrder" "Z" (.int (0 : Int32)) := D929 (Or.inl (hw _ (List.mem_of_getElem? (i := 85) rfl))) (ty := .boolean) (by decide)
  have f942 : Fld Z h929 b929 "com/example/perigo/perigo/engine/network/Node" "firstJoins" "Ljava/util/Map;" .null := D929 (Or.inr (hw _ (List.mem_of_getElem? (i := 87) rfl))) (ty := (.object "java/util/Map")) (by decide)
  have f943 : Fld Z h929 b929 "com/example/perigo/perigo/engine/network/Node" "medium" "Lcom/example/perigo/perigo/engine/event/Medium;" .null := D929 (Or.inr (hw _ (List.mem_of_getElem? (i := 89) rfl))) (ty := (.object "com/example/perigo/perigo/engine/event/Medium")) (by decide)
  have f944 : Fld Z h929 b929 "com/example/perigo/perigo/engine/network/Node" "valueKey" "J" (.long (0 : Int64)) := D929 (Or.inr (hw _ (List.mem_of_getElem? (i := 131) rfl))) (ty := .long) (by decide)
  have f945 : Fld Z h929 b929 "com/example/perigo/perigo/engine/network/Node" "reachedBy" "J" (.long (0 : Int64)) := D929 (Or.inl (hw _ (List.mem_of_getElem? (i := 138) rfl))) (ty := .long) (by decide)
  have f946 : Fld Z h929 b929 "com/example/perigo/perigo/engine/network/Node" "reachedWith" "I" (.int (0 : Int32)) := D929 (Or.inl (hw _ (List.mem_of_getElem? (i := 140) rfl))) (ty := .int) (by decide)
  refine own_goW st929 ?_
  refine own_goW (S' := T929.setTop (mkF m 4 #[.val (.long q0), .second, .val (.long q1), .second, .val (.long q2), .second, .val (.int p3), .val (.int p4), .unset, .unset, .unset, .unset, .unset, .unset, .unset, .unset, .unset, .unset, .unset] [(.ref b929), (.ref b929)])) (fun t k => ?_) ?_
  · show Steps p.tables e below (T929.setTop (mkF m 3 #[.val (.long q0), .second, .val (.long q1), .second, .val (.long q2), .second, .val (.int p3), .val (.int p4), .unset, .unset, .unset, .unset, .unset, .unset, .unset, .unset, .unset, .unset, .unset] [(.ref b929)])) t
    refine XS.dup X929.here hx rfl (hb hby at_3) rfl rfl ?_
    exact k
  obtain ⟨T947, h947, X947, e947, E947, A947, D947, -, st947⟩ := newO X929 hx hZ hown (hw _ (List.mem_of_getElem? (i := 3) rfl)) (hw _ (List.mem_of_getElem? (i := 4) rfl)) (hw _ (List.mem_of_getElem? (i := 5) rfl)) e929 (g := (mkF m 4 #[.val (.long q0), .second, .val (.long q1), .second, .val (.long q2), .second, .val (.int p3), .val (.int p4), .unset, .unset, .unset, .unset, .unset, .unset, .unset, .unset, .unset, .unset, .unset] [(.ref b929), (.ref b929)])) rfl (hb hby at_4) (by decide) (by decide)
  obtain ⟨b947, g947⟩ : ∃ z, z = h929.size := ⟨_, rfl⟩
  rw [← g947] at A947 D947 st947
  have ne948 : b929 ≠ b947 := Nat.ne_of_lt (Nat.lt_of_lt_of_le A929.lt (Nat.le_of_eq g947.symm))
  have g_b947 : n0 ≤ b947 := Nat.le_trans Z930 (Nat.le_of_eq g947.symm)
  have Z949 : n0 ≤ h947.size := Nat.le_trans Z930 E947.1
  have hk950 := Nat.le_trans hk931 E947.1
  have f951 : Old Z n0 h947 := f932.ext E947
  have f952 : Sta Z h947 "java/lang/String" "COMPACT_STRINGS" "Z" (.int w_s_COMPACT_STRINGS) := Sta.ext E947 f933
  have f953 : Sta Z h947 "jdk/internal/util/Preconditions" "SIOOBE_FORMATTER" "Ljava/util/function/BiFunction;" w_s_SIOOBE_FORMATTER := Sta.ext E947 f934
  have f954 : Exa Z h947 b929 "com/example/perigo/perigo/engine/network/Node" := Exa.ext E947 A929
  have f955 : Fld Z h947 b929 "com/example/perigo/perigo/engine/network/Node" "events" "Lcom/example/perigo/perigo/engine/network/Timeline;" .null := Fld.ext E947 f935
  have f956 : Fld Z h947 b929 "com/example/perigo/perigo/engine/network/Node" "eventsByType" "Ljava/util/Map;" .null := Fld.ext E947 f936
  have f957 : Fld Z h947 b929 "com/example/perigo/perigo/engine/network/Node" "frauds" "Lcom/example/perigo/perigo/engine/network/Timeline;" .null := Fld.ext E947 f937
  have f958 : Fld Z h947 b929 "com/example/perigo/perigo/engine/network/Node" "knownSeconds" "[J" .null := Fld.ext E947 f938
  have f959 : Fld Z h947 b929 "com/example/perigo/perigo/engine/network/Node" "knownNanos" "[I" .null := Fld.ext E947 f939
  have f960 : Fld Z h947 b929 "com/example/perigo/perigo/engine/network/Node" "others" "[Lcom/example/perigo/perigo/engine/network/Node;" .null := Fld.ext E947 f940
  have f961 : Fld Z h947 b929 "com/example/perigo/perigo/engine/network/Node" "besideInTimeOrder" "Z" (.int (0 : Int32)) := Fld.ext E947 f941
  have f962 : Fld Z h947 b929 "com/example/perigo/perigo/engine/network/Node" "firstJoins" "Ljava/util/Map;" .null := Fld.ext E947 f942
  have f963 : Fld Z h947 b929 "com/example/perigo/perigo/engine/network/Node" "medium" "Lcom/example/perigo/perigo/engine/event/Medium;" .null := Fld.ext E947 f943
  have f964 : Fld Z h947 b929 "com/example/perigo/perigo/engine/network/Node" "valueKey" "J" (.long (0 : Int64)) := Fld.ext E947 f944
  have f965 : Fld Z h947 b929 "com/example/perigo/perigo/engine/network/Node" "reachedBy" "J" (.long (0 : Int64)) := Fld.ext E947 f945
  have f966 : Fld Z h947 b929 "com/example/perigo/perigo/engine/network/Node" "reachedWith" "I" (.int (0 : Int32)) := Fld.ext E947 f946
  have f967 : Fld Z h947 b947 "com/example/perigo/perigo/engine/event/Medium" "kind" "Ljava/lang/String;" .null := D947 (Or.inr (hw _ (List.mem_of_getElem? (i := 29) rfl))) (ty := (.object "java/lang/String")) (by decide)
  have f968 : Fld Z h947 b947 "com/example/perigo/perigo/engine/event/Medium" "value" "Ljava/lang/String;" .null := D947 (Or.inr (hw _ (List.mem_of_getElem? (i := 32) rfl))) (ty := (.object "java/lang/String")) (by decide)
  refine own_goW st947 ?_
  refine own_goW (S' := T947.setTop (mkF m 8 #[.val (.long q0), .second, .val (.long q1), .second, .val (.long q2), .second, .val (.int p3), .val (.int p4), .unset, .unset, .unset, .unset, .unset, .unset, .unset, .unset, .unset, .unset, .unset] [(.ref b947), (.ref b947), (.ref b929), (.ref b929)])) (fun t k => ?_) ?_
  · show Steps p.tables e below (T947.setTop (mkF m 7 #[.val (.long q0), .second, .val (.long q1), .second, .val (.long q2), .second, .val (.int p3), .val (.int p4), .unset, .unset, .unset, .unset, .unset, .unset, .unset, .unset, .unset, .unset, .unset] [(.ref b947), (.ref b929), (.ref b929)])) t
    refine XS.dup X947.here hx rfl (hb hby at_7) rfl rfl ?_
    exact k
  obtain ⟨b969, T969, h969, k969, bb969, kk969, X969, e969, E969, hS, hk969, hZ, hown, Ex969, Fc969, Fv969, Av969, -, -, IB969, st969⟩ := ldcSV (s := s) (vm0 := s.vm) X947 hx hZ hown (hw _ (List.mem_of_getElem? (i := 6) rfl)) (own_strW (hw _ (List.mem_of_getElem? (i := 7) rfl)) (hw _ (List.mem_of_getElem? (i := 8) rfl)) (hw _ (List.mem_of_getElem? (i := 9) rfl)) (hw _ (List.mem_of_getElem? (i := 10) rfl)) (hw _ (List.mem_of_getElem? (i := 11) rfl)) (hw _ (List.mem_of_getElem? (i := 12) rfl)) (hw _ (List.mem_of_getElem? (i := 13) rfl))) e947 hS hk950 (Fr.nil _) (fun b cl hb => by rw [hh]; exact Old0.2.2 b cl hb) IB0 (by decide) held11 hcw (vs := [(.int (99 : Int32)), (.int (97 : Int32)), (.int (114 : Int32)), (.int (100 : Int32))]) (z := (4 : Int32)) ⟨by decide, rfl⟩ (by decide) (by decide) (g := (mkF m 8 #[.val (.long q0), .second, .val (.long q1), .second, .val (.long q2), .second, .val (.int p3), .val (.int p4), .unset, .unset, .unset, .unset, .unset, .unset, .unset, .unset, .unset, .unset, .unset] [(.ref b947), (.ref b947), (.ref b929), (.ref b929)])) rfl (hb hby at_8) (n := 16) (by decide) (by decide) (by decide) (by decide)
  have Z970 : n0 ≤ h969.size := Nat.le_trans Z949 E969.1
  have hk971 := Nat.le_trans hk950 E969.1
  have f972 : Old Z n0 h969 := f951.ext E969
  have f973 : Sta Z h969 "java/lang/String" "COMPACT_STRINGS" "Z" (.int w_s_COMPACT_STRINGS) := Sta.ext E969 f952
  have f974 : Sta Z h969 "jdk/internal/util/Preconditions" "SIOOBE_FORMATTER" "Ljava/util/function/BiFunction;" w_s_SIOOBE_FORMATTER := Sta.ext E969 f953
  have f975 : Exa Z h969 b929 "com/example/perigo/perigo/engine/network/Node" := Exa.ext E969 f954
  have f976 : Fld Z h969 b929 "com/example/perigo/perigo/engine/network/Node" "events" "Lcom/example/perigo/perigo/engine/network/Timeline;" .null := Fld.ext E969 f955
  have f977 : Fld Z h969 b929 "com/example/perigo/perigo/engine/network/Node" "eventsByType" "Ljava/util/Map;" .null := Fld.ext E969 f956
  have f978 : Fld Z h969 b929 "com/example/perigo/perigo/engine/network/Node" "frauds" "Lcom/example/perigo/perigo/engine/network/Timeline;" .null := Fld.ext E969 f957
  have f979 : Fld Z h969 b929 "com/example/perigo/perigo/engine/network/Node" "knownSeconds" "[J" .null := Fld.ext E969 f958
  have f980 : Fld Z h969 b929 "com/example/perigo/perigo/engine/network/Node" "knownNanos" "[I" .null := Fld.ext E969 f959
  have f981 : Fld Z h969 b929 "com/example/perigo/perigo/engine/network/Node" "others" "[Lcom/example/perigo/perigo/engine/network/Node;" .null := Fld.ext E969 f960
  have f982 : Fld Z h969 b929 "com/example/perigo/perigo/engine/network/Node" "besideInTimeOrder" "Z" (.int (0 : Int32)) := Fld.ext E969 f961
  have f983 : Fld Z h969 b929 "com/example/perigo/perigo/engine/network/Node" "firstJoins" "Ljava/util/Map;" .null := Fld.ext E969 f962
  have f984 : Fld Z h969 b929 "com/example/perigo/perigo/engine/network/Node" "medium" "Lcom/example/perigo/perigo/engine/event/Medium;" .null := Fld.ext E969 f963
  have f985 : Fld Z h969 b929 "com/example/perigo/perigo/engine/network/Node" "valueKey" "J" (.long (0 : Int64)) := Fld.ext E969 f964
  have f986 : Fld Z h969 b929 "com/example/perigo/perigo/engine/network/Node" "reachedBy" "J" (.long (0 : Int64)) := Fld.ext E969 f965
  have f987 : Fld Z h969 b929 "com/example/perigo/perigo/engine/network/Node" "reachedWith" "I" (.int (0 : Int32)) := Fld.ext E969 f966
  have f988 : Exa Z h969 b947 "com/example/perigo/perigo/engine/event/Medium" := Exa.ext E969 A947
  have f989 : Fld Z h969 b947 "com/example/perigo/perigo/engine/event/Medium" "kind" "Ljava/lang/String;" .null := Fld.ext E969 f967
  have f990 : Fld Z h969 b947 "com/example/perigo/perigo/engine/event/Medium" "value" "Ljava/lang/String;" .null := Fld.ext E969 f968
  have v991 : own_Arv Z h969 bb969 .byte (4 : Int32) [(.int (99 : Int32)), (.int (97 : Int32)), (.int (114 : Int32)), (.int (100 : Int32))] (.int (0 : Int32)) := ⟨_, Av969⟩
  refine own_goW st969 ?_
  obtain ⟨b992, T992, h992, k992, bb992, kk992, X992, e992, E992, hS, hk992, hZ, hown, Ex992, Fc992, Fv992, Av992, -, -, IB992, st992⟩ := ldcSV (s := s) (vm0 := T969.vm) X969 hx hZ hown (hw _ (List.mem_of_getElem? (i := 14) rfl)) (own_strW (hw _ (List.mem_of_getElem? (i := 7) rfl)) (hw _ (List.mem_of_getElem? (i := 8) rfl)) (hw _ (List.mem_of_getElem? (i := 9) rfl)) (hw _ (List.mem_of_getElem? (i := 10) rfl)) (hw _ (List.mem_of_getElem? (i := 11) rfl)) (hw _ (List.mem_of_getElem? (i := 12) rfl)) (hw _ (List.mem_of_getElem? (i := 13) rfl))) e969 hS hk969 (Fr.nil _) (fun b cl hb => by rw [hh]; exact Old0.2.2 b cl hb) IB969 (by decide) held13 hcw (vs := [(.int (49 : Int32))]) (z := (1 : Int32)) ⟨by decide, rfl⟩ (by decide) (by decide) (g := (mkF m 10 #[.val (.long q0), .second, .val (.long q1), .second, .val (.long q2), .second, .val (.int p3), .val (.int p4), .unset, .unset, .unset, .unset, .unset, .unset, .unset, .unset, .unset, .unset, .unset] [(.ref b969), (.ref b947), (.ref b947), (.ref b929), (.ref b929)])) rfl (hb hby at_10) (n := 4) (by decide) (by decide) (by decide) (by decide)
  have Z993 : n0 ≤ h992.size := Nat.le_trans Z970 E992.1
  have hk994 := Nat.le_trans hk969 E992.1
  have f995 : Old Z n0 h992 := f972.ext E992
  have f996 : Sta Z h992 "java/lang/String" "COMPACT_STRINGS" "Z" (.int w_s_COMPACT_STRINGS) := Sta.ext E992 f973
  have f997 : Sta Z h992 "jdk/internal/util/Preconditions" "SIOOBE_FORMATTER" "Ljava/util/function/BiFunction;" w_s_SIOOBE_FORMATTER := Sta.ext E992 f974
  have f998 : Exa Z h992 b929 "com/example/perigo/perigo/engine/network/Node" := Exa.ext E992 f975
  have f999 : Fld Z h992 b929 "com/example/perigo/perigo/engine/network/Node" "events" "Lcom/example/perigo/perigo/engine/network/Timeline;" .null := Fld.ext E992 f976
  have f1000 : Fld Z h992 b929 "com/example/perigo/perigo/engine/network/Node" "eventsByType" "Ljava/util/Map;" .null := Fld.ext E992 f977
  have f1001 : Fld Z h992 b929 "com/example/perigo/perigo/engine/network/Node" "frauds" "Lcom/example/perigo/perigo/engine/network/Timeline;" .null := Fld.ext E992 f978
  have f1002 : Fld Z h992 b929 "com/example/perigo/perigo/engine/network/Node" "knownSeconds" "[J" .null := Fld.ext E992 f979
  have f1003 : Fld Z h992 b929 "com/example/perigo/perigo/engine/network/Node" "knownNanos" "[I" .null := Fld.ext E992 f980
  have f1004 : Fld Z h992 b929 "com/example/perigo/perigo/engine/network/Node" "others" "[Lcom/example/perigo/perigo/engine/network/Node;" .null := Fld.ext E992 f981
  have f1005 : Fld Z h992 b929 "com/example/perigo/perigo/engine/network/Node" "besideInTimeOrder" "Z" (.int (0 : Int32)) := Fld.ext E992 f982
  have f1006 : Fld Z h992 b929 "com/example/perigo/perigo/engine/network/Node" "firstJoins" "Ljava/util/Map;" .null := Fld.ext E992 f983
  have f1007 : Fld Z h992 b929 "com/example/perigo/perigo/engine/network/Node" "medium" "Lcom/example/perigo/perigo/engine/event/Medium;" .null := Fld.ext E992 f984
  have f1008 : Fld Z h992 b929 "com/example/perigo/perigo/engine/network/Node" "valueKey" "J" (.long (0 : Int64)) := Fld.ext E992 f985
  have f1009 : Fld Z h992 b929 "com/example/perigo/perigo/engine/network/Node" "reachedBy" "J" (.long (0 : Int64)) := Fld.ext E992 f986
  have f1010 : Fld Z h992 b929 "com/example/perigo/perigo/engine/network/Node" "reachedWith" "I" (.int (0 : Int32)) := Fld.ext E992 f987
  have f1011 : Exa Z h992 b947 "com/example/perigo/perigo/engine/event/Medium" := Exa.ext E992 f988
  have f1012 : Fld Z h992 b947 "com/example/perigo/perigo/engine/event/Medium" "kind" "Ljava/lang/String;" .null := Fld.ext E992 f989
  have f1013 : Fld Z h992 b947 "com/example/perigo/perigo/engine/event/Medium" "value" "Ljava/lang/String;" .null := Fld.ext E992 f990
  have f1014 : Exa Z h992 b969 "java/lang/String" := Exa.ext E992 Ex969
  have f1015 : Fld Z h992 b969 "java/lang/String" "coder" "B" (.int (0 : Int32)) := Fld.ext E992 Fc969
  have f1016 : Fld Z h992 b969 "java/lang/String" "value" "[B" (.ref bb969) := Fld.ext E992 Fv969
  have f1017 : own_Arv Z h992 bb969 .byte (4 : Int32) [(.int (99 : Int32)), (.int (97 : Int32)), (.int (114 : Int32)), (.int (100 : Int32))] (.int (0 : Int32)) := v991.ext E992
  have v1018 : own_Arv Z h992 bb992 .byte (1 : Int32) [(.int (49 : Int32))] (.int (0 : Int32)) := ⟨_, Av992⟩
  refine own_goW st992 ?_
  obtain ⟨_, _, ⟨T1019, L1019, kk1019, nn1019⟩, -, X1019, hs2_1019, gl1019, ⟨Lc1019, hQ1019, l1019, y1019, z1019⟩, st1019⟩ := X992.specialBackS hx (y := (⟨"com/example/perigo/perigo/engine/event/Medium", "<init>", "(Ljava/lang/String;Ljava/lang/String;)V"⟩ : MethodName)) rfl hown (mvT hZ (hw _ (List.mem_of_getElem? (i := 15) rfl))) (mvT hZ (hw _ (List.mem_of_getElem? (i := 16) rfl))) (mvT hZ (hw _ (List.mem_of_getElem? (i := 17) rfl))) (by decide) (backOfS (W := 3) (meInit l Z a0 hw [] b947 b969 b992 (.null) (.null) h992 n0 Z993 f1014 f1011 f1012 f1013 g_b947 Ex992) hZ (hw _ (List.mem_of_getElem? (i := 17) rfl)) (hw _ (List.mem_of_getElem? (i := 5) rfl)) (by decide) (by decide)) (g := (mkF m 12 #[.val (.long q0), .second, .val (.long q1), .second, .val (.long q2), .second, .val (.int p3), .val (.int p4), .unset, .unset, .unset, .unset, .unset, .unset, .unset, .unset, .unset, .unset, .unset] [(.ref b992), (.ref b969), (.ref b947), (.ref b947), (.ref b929), (.ref b929)])) rfl (by rw [hml]; rfl) (Steps.refl _) (a := b947) (argsL := [(.ref b969), (.ref b992)]) (rest := [(.ref b947), (.ref b929), (.ref b929)]) (lenOf pd_210 rfl) rfl (by show 2 * 0 + _ ≤ _; exact Nat.le_of_eq rfl) (hb hby at_12) (fun _ _ => ⟨rfl, e992, (by decide : 6 + 4 ≤ _), (by decide : 45 + 44 ≤ _)⟩)
  dsimp only [Pt.U, Pt.locs, Pt.cells, Pt.slots] at X1019 l1019 y1019 z1019 st1019 hQ1019 hs2_1019 gl1019
  subst l1019 y1019 z1019
  obtain ⟨rfl, N1020, K1021, p1022, p1023, p1024⟩ := hQ1019
  have N1025 := Fr.app N0 N1020
  have f1026 : Old Z n0 T1019.heap := f995.keep K1021 (allS g_b947 all0)
  have f1027 : Sta Z T1019.heap "java/lang/String" "COMPACT_STRINGS" "Z" (.int w_s_COMPACT_STRINGS) := own_sta_keep f996 K1021 (allS (own_plain f1011) all0)
  have f1028 : Sta Z T1019.heap "jdk/internal/util/Preconditions" "SIOOBE_FORMATTER" "Ljava/util/function/BiFunction;" w_s_SIOOBE_FORMATTER := own_sta_keep f997 K1021 (allS (own_plain f1011) all0)
  have f1029 : Exa Z T1019.heap b929 "com/example/perigo/perigo/engine/network/Node" := f998.keep K1021
  have f1030 : Fld Z T1019.heap b929 "com/example/perigo/perigo/engine/network/Node" "events" "Lcom/example/perigo/perigo/engine/network/Timeline;" .null := f999.keep K1021 (ninS ne948 nin0)
  have f1031 : Fld Z T1019.heap b929 "com/example/perigo/perigo/engine/network/Node" "eventsByType" "Ljava/util/Map;" .null := f1000.keep K1021 (ninS ne948 nin0)
  have f1032 : Fld Z T1019.heap b929 "com/example/perigo/perigo/engine/network/Node" "frauds" "Lcom/example/perigo/perigo/engine/network/Timeline;" .null := f1001.keep K1021 (ninS ne948 nin0)
  have f1033 : Fld Z T1019.heap b929 "com/example/perigo/perigo/engine/network/Node" "knownSeconds" "[J" .null := f1002.keep K1021 (ninS ne948 nin0)
  have f1034 : Fld Z T1019.heap b929 "com/example/perigo/perigo/engine/network/Node" "knownNanos" "[I" .null := f1003.keep K1021 (ninS ne948 nin0)
  have f1035 : Fld Z T1019.heap b929 "com/example/perigo/perigo/engine/network/Node" "others" "[Lcom/example/perigo/perigo/engine/network/Node;" .null := f1004.keep K1021 (ninS ne948 nin0)
  have f1036 : Fld Z T1019.heap b929 "com/example/perigo/perigo/engine/network/Node" "besideInTimeOrder" "Z" (.int (0 : Int32)) := f1005.keep K1021 (ninS ne948 nin0)
  have f1037 : Fld Z T1019.heap b929 "com/example/perigo/perigo/engine/network/Node" "firstJoins" "Ljava/util/Map;" .null := f1006.keep K1021 (ninS ne948 nin0)
  have f1038 : Fld Z T1019.heap b929 "com/example/perigo/perigo/engine/network/Node" "medium" "Lcom/example/perigo/perigo/engine/event/Medium;" .null := f1007.keep K1021 (ninS ne948 nin0)
  have f1039 : Fld Z T1019.heap b929 "com/example/perigo/perigo/engine/network/Node" "valueKey" "J" (.long (0 : Int64)) := f1008.keep K1021 (ninS ne948 nin0)
  have f1040 : Fld Z T1019.heap b929 "com/example/perigo/perigo/engine/network/Node" "reachedBy" "J" (.long (0 : Int64)) := f1009.keep K1021 (ninS ne948 nin0)
  have f1041 : Fld Z T1019.heap b929 "com/example/perigo/perigo/engine/network/Node" "reachedWith" "I" (.int (0 : Int32)) := f1010.keep K1021 (ninS ne948 nin0)
  have f1042 : Exa Z T1019.heap b947 "com/example/perigo/perigo/engine/event/Medium" := f1011.keep K1021
  have f1043 : Exa Z T1019.heap b969 "java/lang/String" := f1014.keep K1021
  have f1044 : Fld Z T1019.heap b969 "java/lang/String" "coder" "B" (.int (0 : Int32)) := f1015.keep K1021 (ninS (ne_exa f1014 f1011 (by decide)) nin0)
  have f1045 : Fld Z T1019.heap b969 "java/lang/String" "value" "[B" (.ref bb969) := f1016.keep K1021 (ninS (ne_exa f1014 f1011 (by decide)) nin0)
  have f1046 : own_Arv Z T1019.heap bb969 .byte (4 : Int32) [(.int (99 : Int32)), (.int (97 : Int32)), (.int (114 : Int32)), (.int (100 : Int32))] (.int (0 : Int32)) := f1017.keep K1021 (ninS (Ne.symm (own_neA f1011 f1017 (hw _ (List.mem_of_getElem? (i := 4) rfl)))) nin0)
  have f1047 : Exa Z T1019.heap b992 "java/lang/String" := Ex992.keep K1021
  have f1048 : Fld Z T1019.heap b992 "java/lang/String" "coder" "B" (.int (0 : Int32)) := Fc992.keep K1021 (ninS (ne_exa Ex992 f1011 (by decide)) nin0)
  have f1049 : Fld Z T1019.heap b992 "java/lang/String" "value" "[B" (.ref bb992) := Fv992.keep K1021 (ninS (ne_exa Ex992 f1011 (by decide)) nin0)
  have f1050 : own_Arv Z T1019.heap bb992 .byte (1 : Int32) [(.int (49 : Int32))] (.int (0 : Int32)) := v1018.keep K1021 (ninS (Ne.symm (own_neA f1011 v1018 (hw _ (List.mem_of_getElem? (i := 4) rfl)))) nin0)
  have Z1051 : n0 ≤ T1019.heap.size := Nat.le_trans Z993 K1021.1
  have hk1052 := Nat.le_trans hk992 K1021.1
  obtain ⟨X1019, hS, hZ, hown⟩ := rebS (vm0 := T992.vm) hS (n1 := T992.heap.size) (by rw [e992]; exact hk992) X1019 hs2_1019 gl1019 hZ hown
  have hk1053 : T1019.heap.size ≤ T1019.heap.size := Nat.le_refl _
  refine own_goTW st1019 ?_
  obtain ⟨_, _, ⟨T1054, L1054, kk1054, nn1054⟩, -, X1054, ⟨Lc1054, hQ1054, l1054, y1054, z1054⟩, st1054⟩ := X1019.specialBack hx (y := (⟨"com/example/perigo/perigo/engine/network/Node", "<init>", "(Lcom/example/perigo/perigo/engine/event/Medium;)V"⟩ : MethodName)) rfl hown (mvT hZ (hw _ (List.mem_of_getElem? (i := 33) rfl))) (mvT hZ (hw _ (List.mem_of_getElem? (i := 34) rfl))) (mvT hZ (hw _ (List.mem_of_getElem? (i := 35) rfl))) (by decide) (backOf (W := 1) (noInit l Z a0 hw [] b929 b947 w_s_COMPACT_STRINGS bb992 (.null) (.null) (.null) (.null) (.null) (.null) (0 : Int32) (.null) (.null) (0 : Int64) (0 : Int64) (0 : Int32) b992 w_s_SIOOBE_FORMATTER T1019.heap n0 Z1051 (hcs : ¬ (w_s_COMPACT_STRINGS = (0 : Int32))) f1050 f1029 f1030 f1031 f1032 f1033 f1034 f1035 f1036 f1037 f1038 f1039 f1040 f1041 g_b929 p1024 (Ne.symm ne948) p1022 f1049 (ne_exa f1047 f1029 (by decide)) f1027 f1048 f1047 (by first | rfl | assumption | decide | omega : w_s_SIOOBE_FORMATTER.isRef = true) f1028) hZ (hw _ (List.mem_of_getElem? (i := 35) rfl)) (hw _ (List.mem_of_getElem? (i := 2) rfl)) (by decide) (by decide)) (g := (mkF m 15 #[.val (.long q0), .second, .val (.long q1), .second, .val (.long q2), .second, .val (.int p3), .val (.int p4), .unset, .unset, .unset, .unset, .unset, .unset, .unset, .unset, .unset, .unset, .unset] [(.ref b947), (.ref b929), (.ref b929)])) rfl (by rw [hml]; rfl) (Steps.refl _) (a := b929) (argsL := [(.ref b947)]) (rest := [(.ref b929)]) (lenOf pd_211 rfl) rfl (by show 2 * 0 + _ ≤ _; exact Nat.le_of_eq rfl) (hb hby at_15) (fun _ _ => ⟨rfl, rfl, (by decide : 10 + 15 ≤ _), (by decide : 89 + 40 ≤ _)⟩)
  dsimp only [Pt.U, Pt.locs, Pt.cells, Pt.slots] at X1054 l1054 y1054 z1054 st1054 hQ1054
  subst l1054 y1054 z1054
  obtain ⟨rfl, N1055, K1056, p1057, p1058, p1059⟩ := hQ1054
  have N1060 := Fr.app N1025 N1055
  have f1061 : Old Z n0 T1054.heap := f1026.keep K1056 (allS g_b929 all0)
  have f1062 : Sta Z T1054.heap "java/lang/String" "COMPACT_STRINGS" "Z" (.int w_s_COMPACT_STRINGS) := own_sta_keep f1027 K1056 (allS (own_plain f1029) all0)
  have f1063 : Sta Z T1054.heap "jdk/internal/util/Preconditions" "SIOOBE_FORMATTER" "Ljava/util/function/BiFunction;" w_s_SIOOBE_FORMATTER := own_sta_keep f1028 K1056 (allS (own_plain f1029) all0)
  have f1064 : Exa Z T1054.heap b929 "com/example/perigo/perigo/engine/network/Node" := f1029.keep K1056
  have f1065 : Exa Z T1054.heap b947 "com/example/perigo/perigo/engine/event/Medium" := p1022.keep K1056
  have f1066 : Exa Z T1054.heap b969 "java/lang/String" := f1043.keep K1056
  have f1067 : Fld Z T1054.heap b969 "java/lang/String" "coder" "B" (.int (0 : Int32)) := f1044.keep K1056 (ninS (ne_exa f1043 f1029 (by decide)) nin0)
  have f1068 : Fld Z T1054.heap b969 "java/lang/String" "value" "[B" (.ref bb969) := f1045.keep K1056 (ninS (ne_exa f1043 f1029 (by decide)) nin0)
  have f1069 : own_Arv Z T1054.heap bb969 .byte (4 : Int32) [(.int (99 : Int32)), (.int (97 : Int32)), (.int (114 : Int32)), (.int (100 : Int32))] (.int (0 : Int32)) := f1046.keep K1056 (ninS (Ne.symm (own_neA f1029 f1046 (hw _ (List.mem_of_getElem? (i := 1) rfl)))) nin0)
  have f1070 : Exa Z T1054.heap b992 "java/lang/String" := f1047.keep K1056
  have f1071 : Fld Z T1054.heap b992 "java/lang/String" "coder" "B" (.int (0 : Int32)) := f1048.keep K1056 (ninS (ne_exa f1047 f1029 (by decide)) nin0)
  have f1072 : Fld Z T1054.heap b992 "java/lang/String" "value" "[B" (.ref bb992) := f1049.keep K1056 (ninS (ne_exa f1047 f1029 (by decide)) nin0)
  have f1073 : own_Arv Z T1054.heap bb992 .byte (1 : Int32) [(.int (49 : Int32))] (.int (0 : Int32)) := f1050.keep K1056 (ninS (Ne.symm (own_neA f1029 f1050 (hw _ (List.mem_of_getElem? (i := 1) rfl)))) nin0)
  have f1074 : Fld Z T1054.heap b947 "com/example/perigo/perigo/engine/event/Medium" "kind" "Ljava/lang/String;" (.ref b969) := p1023.keep K1056 (ninS (Ne.symm ne948) nin0)
  have f1075 : Fld Z T1054.heap b947 "com/example/perigo/perigo/engine/event/Medium" "value" "Ljava/lang/String;" (.ref b992) := p1024.keep K1056 (ninS (Ne.symm ne948) nin0)
  have Z1076 : n0 ≤ T1054.heap.size := Nat.le_trans Z1051 K1056.1
  have hk1077 := Nat.le_trans hk1053 K1056.1
  refine own_goTW st1054 ?_
  refine own_goW (S' := T1054.setTop (mkF m 49 #[.val (.long q0), .second, .val (.long q1), .second, .val (.long q2), .second, .val (.int p3), .val (.int p4), .val (.ref b929), .val (.long ((q0 + ((p3 &&& (3 : Int32)).toInt64)) - (1 : Int64))), .second, .val (.long ((q1 + (((Jvm.Free.XT.ushr p3 (2 : Int32)) &&& (3 : Int32)).toInt64)) - (1 : Int64))), .second, .unset, .unset, .unset, .unset, .unset, .unset] [(.int p4), (.long q0), (.ref b929)])) (fun t k => ?_) ?_
  · show Steps p.tables e below (T1054.setTop (mkF m 18 #[.val (.long q0), .second, .val (.long q1), .second, .val (.long q2), .second, .val (.int p3), .val (.int p4), .unset, .unset, .unset, .unset, .unset, .unset, .unset, .unset, .unset, .unset, .unset] [(.ref b929)])) t
    refine XS.astore X1054.here hx rfl (hb hby at_18) rfl rfl (l' := #[.val (.long q0), .second, .val (.long q1), .second, .val (.long q2), .second, .val (.int p3), .val (.int p4), .val (.ref b929), .unset, .unset, .unset, .unset, .unset, .unset, .unset, .unset, .unset, .unset]) rfl ?_
    show Steps p.tables e below (T1054.setTop (mkF m 20 #[.val (.long q0), .second, .val (.long q1), .second, .val (.long q2), .second, .val (.int p3), .val (.int p4), .val (.ref b929), .unset, .unset, .unset, .unset, .unset, .unset, .unset, .unset, .unset, .unset] [])) t
    refine XS.lloadN X1054.here hx rfl (hb hby at_20) rfl ?_
    show Steps p.tables e below (T1054.setTop (mkF m 21 #[.val (.long q0), .second, .val (.long q1), .second, .val (.long q2), .second, .val (.int p3), .val (.int p4), .val (.ref b929), .unset, .unset, .unset, .unset, .unset, .unset, .unset, .unset, .unset, .unset] [(.long q0)])) t
    refine XS.iload X1054.here hx rfl (hb hby at_21) rfl ?_
    show Steps p.tables e below (T1054.setTop (mkF m 23 #[.val (.long q0), .second, .val (.long q1), .second, .val (.long q2), .second, .val (.int p3), .val (.int p4), .val (.ref b929), .unset, .unset, .unset, .unset, .unset, .unset, .unset, .unset, .unset, .unset] [(.int p3), (.long q0)])) t
    refine XS.iconst X1054.here hx rfl (hb hby at_23) ?_
    show Steps p.tables e below (T1054.setTop (mkF m 24 #[.val (.long q0), .second, .val (.long q1), .second, .val (.long q2), .second, .val (.int p3), .val (.int p4), .val (.ref b929), .unset, .unset, .unset, .unset, .unset, .unset, .unset, .unset, .unset, .unset] [(.int (3 : Int32)), (.int p3), (.long q0)])) t
    refine XS.iand X1054.here hx rfl (hb hby at_24) rfl ?_
    show Steps p.tables e below (T1054.setTop (mkF m 25 #[.val (.long q0), .second, .val (.long q1), .second, .val (.long q2), .second, .val (.int p3), .val (.int p4), .val (.ref b929), .unset, .unset, .unset, .unset, .unset, .unset, .unset, .unset, .unset, .unset] [(.int (p3 &&& (3 : Int32))), (.long q0)])) t
    refine XS.i2l X1054.here hx rfl (hb hby at_25) rfl ?_
    show Steps p.tables e below (T1054.setTop (mkF m 26 #[.val (.long q0), .second, .val (.long q1), .second, .val (.long q2), .second, .val (.int p3), .val (.int p4), .val (.ref b929), .unset, .unset, .unset, .unset, .unset, .unset, .unset, .unset, .unset, .unset] [(.long ((p3 &&& (3 : Int32)).toInt64)), (.long q0)])) t
    refine XS.ladd X1054.here hx rfl (hb hby at_26) rfl ?_
    show Steps p.tables e below (T1054.setTop (mkF m 27 #[.val (.long q0), .second, .val (.long q1), .second, .val (.long q2), .second, .val (.int p3), .val (.int p4), .val (.ref b929), .unset, .unset, .unset, .unset, .unset, .unset, .unset, .unset, .unset, .unset] [(.long (q0 + ((p3 &&& (3 : Int32)).toInt64)))])) t
    refine XS.lconst X1054.here hx rfl (hb hby at_27) ?_
    show Steps p.tables e below (T1054.setTop (mkF m 28 #[.val (.long q0), .second, .val (.long q1), .second, .val (.long q2), .second, .val (.int p3), .val (.int p4), .val (.ref b929), .unset, .unset, .unset, .unset, .unset, .unset, .unset, .unset, .unset, .unset] [(.long (1 : Int64)), (.long (q0 + ((p3 &&& (3 : Int32)).toInt64)))])) t
    refine XS.lsub X1054.here hx rfl (hb hby at_28) rfl ?_
    show Steps p.tables e below (T1054.setTop (mkF m 29 #[.val (.long q0), .second, .val (.long q1), .second, .val (.long q2), .second, .val (.int p3), .val (.int p4), .val (.ref b929), .unset, .unset, .unset, .unset, .unset, .unset, .unset, .unset, .unset, .unset] [(.long ((q0 + ((p3 &&& (3 : Int32)).toInt64)) - (1 : Int64)))])) t
    refine XS.lstore X1054.here hx rfl (hb hby at_29) rfl (l' := #[.val (.long q0), .second, .val (.long q1), .second, .val (.long q2), .second, .val (.int p3), .val (.int p4), .val (.ref b929), .val (.long ((q0 + ((p3 &&& (3 : Int32)).toInt64)) - (1 : Int64))), .second, .unset, .unset, .unset, .unset, .unset, .unset, .unset, .unset]) rfl ?_
    show Steps p.tables e below (T1054.setTop (mkF m 31 #[.val (.long q0), .second, .val (.long q1), .second, .val (.long q2), .second, .val (.int p3), .val (.int p4), .val (.ref b929), .val (.long ((q0 + ((p3 &&& (3 : Int32)).toInt64)) - (1 : Int64))), .second, .unset, .unset, .unset, .unset, .unset, .unset, .unset, .unset] [])) t
    refine XS.lloadN X1054.here hx rfl (hb hby at_31) rfl ?_
    show Steps p.tables e below (T1054.setTop (mkF m 32 #[.val (.long q0), .second, .val (.long q1), .second, .val (.long q2), .second, .val (.int p3), .val (.int p4), .val (.ref b929), .val (.long ((q0 + ((p3 &&& (3 : Int32)).toInt64)) - (1 : Int64))), .second, .unset, .unset, .unset, .unset, .unset, .unset, .unset, .unset] [(.long q1)])) t
    refine XS.iload X1054.here hx rfl (hb hby at_32) rfl ?_
    show Steps p.tables e below (T1054.setTop (mkF m 34 #[.val (.long q0), .second, .val (.long q1), .second, .val (.long q2), .second, .val (.int p3), .val (.int p4), .val (.ref b929), .val (.long ((q0 + ((p3 &&& (3 : Int32)).toInt64)) - (1 : Int64))), .second, .unset, .unset, .unset, .unset, .unset, .unset, .unset, .unset] [(.int p3), (.long q1)])) t
    refine XS.iconst X1054.here hx rfl (hb hby at_34) ?_
    show Steps p.tables e below (T1054.setTop (mkF m 35 #[.val (.long q0), .second, .val (.long q1), .second, .val (.long q2), .second, .val (.int p3), .val (.int p4), .val (.ref b929), .val (.long ((q0 + ((p3 &&& (3 : Int32)).toInt64)) - (1 : Int64))), .second, .unset, .unset, .unset, .unset, .unset, .unset, .unset, .unset] [(.int (2 : Int32)), (.int p3), (.long q1)])) t
    refine XS.iushr X1054.here hx rfl (hb hby at_35) rfl ?_
    show Steps p.tables e below (T1054.setTop (mkF m 36 #[.val (.long q0), .second, .val (.long q1), .second, .val (.long q2), .second, .val (.int p3), .val (.int p4), .val (.ref b929), .val (.long ((q0 + ((p3 &&& (3 : Int32)).toInt64)) - (1 : Int64))), .second, .unset, .unset, .unset, .unset, .unset, .unset, .unset, .unset] [(.int (Jvm.Free.XT.ushr p3 (2 : Int32))), (.long q1)])) t
    refine XS.iconst X1054.here hx rfl (hb hby at_36) ?_
    show Steps p.tables e below (T1054.setTop (mkF m 37 #[.val (.long q0), .second, .val (.long q1), .second, .val (.long q2), .second, .val (.int p3), .val (.int p4), .val (.ref b929), .val (.long ((q0 + ((p3 &&& (3 : Int32)).toInt64)) - (1 : Int64))), .second, .unset, .unset, .unset, .unset, .unset, .unset, .unset, .unset] [(.int (3 : Int32)), (.int (Jvm.Free.XT.ushr p3 (2 : Int32))), (.long q1)])) t
    refine XS.iand X1054.here hx rfl (hb hby at_37) rfl ?_
    show Steps p.tables e below (T1054.setTop (mkF m 38 #[.val (.long q0), .second, .val (.long q1), .second, .val (.long q2), .second, .val (.int p3), .val (.int p4), .val (.ref b929), .val (.long ((q0 + ((p3 &&& (3 : Int32)).toInt64)) - (1 : Int64))), .second, .unset, .unset, .unset, .unset, .unset, .unset, .unset, .unset] [(.int ((Jvm.Free.XT.ushr p3 (2 : Int32)) &&& (3 : Int32))), (.long q1)])) t
    refine XS.i2l X1054.here hx rfl (hb hby at_38) rfl ?_
    show Steps p.tables e below (T1054.setTop (mkF m 39 #[.val (.long q0), .second, .val (.long q1), .second, .val (.long q2), .second, .val (.int p3), .val (.int p4), .val (.ref b929), .val (.long ((q0 + ((p3 &&& (3 : Int32)).toInt64)) - (1 : Int64))), .second, .unset, .unset, .unset, .unset, .unset, .unset, .unset, .unset] [(.long (((Jvm.Free.XT.ushr p3 (2 : Int32)) &&& (3 : Int32)).toInt64)), (.long q1)])) t
    refine XS.ladd X1054.here hx rfl (hb hby at_39) rfl ?_
    show Steps p.tables e below (T1054.setTop (mkF m 40 #[.val (.long q0), .second, .val (.long q1), .second, .val (.long q2), .second, .val (.int p3), .val (.int p4), .val (.ref b929), .val (.long ((q0 + ((p3 &&& (3 : Int32)).toInt64)) - (1 : Int64))), .second, .unset, .unset, .unset, .unset, .unset, .unset, .unset, .unset] [(.long (q1 + (((Jvm.Free.XT.ushr p3 (2 : Int32)) &&& (3 : Int32)).toInt64)))])) t
    refine XS.lconst X1054.here hx rfl (hb hby at_40) ?_
    show Steps p.tables e below (T1054.setTop (mkF m 41 #[.val (.long q0), .second, .val (.long q1), .second, .val (.long q2), .second, .val (.int p3), .val (.int p4), .val (.ref b929), .val (.long ((q0 + ((p3 &&& (3 : Int32)).toInt64)) - (1 : Int64))), .second, .unset, .unset, .unset, .unset, .unset, .unset, .unset, .unset] [(.long (1 : Int64)), (.long (q1 + (((Jvm.Free.XT.ushr p3 (2 : Int32)) &&& (3 : Int32)).toInt64)))])) t
    refine XS.lsub X1054.here hx rfl (hb hby at_41) rfl ?_
    show Steps p.tables e below (T1054.setTop (mkF m 42 #[.val (.long q0), .second, .val (.long q1), .second, .val (.long q2), .second, .val (.int p3), .val (.int p4), .val (.ref b929), .val (.long ((q0 + ((p3 &&& (3 : Int32)).toInt64)) - (1 : Int64))), .second, .unset, .unset, .unset, .unset, .unset, .unset, .unset, .unset] [(.long ((q1 + (((Jvm.Free.XT.ushr p3 (2 : Int32)) &&& (3 : Int32)).toInt64)) - (1 : Int64)))])) t
    refine XS.lstore X1054.here hx rfl (hb hby at_42) rfl (l' := #[.val (.long q0), .second, .val (.long q1), .second, .val (.long q2), .second, .val (.int p3), .val (.int p4), .val (.ref b929), .val (.long ((q0 + ((p3 &&& (3 : Int32)).toInt64)) - (1 : Int64))), .second, .val (.long ((q1 + (((Jvm.Free.XT.ushr p3 (2 : Int32)) &&& (3 : Int32)).toInt64)) - (1 : Int64))), .second, .unset, .unset, .unset, .unset, .unset, .unset]) rfl ?_
    show Steps p.tables e below (T1054.setTop (mkF m 44 #[.val (.long q0), .second, .val (.long q1), .second, .val (.long q2), .second, .val (.int p3), .val (.int p4), .val (.ref b929), .val (.long ((q0 + ((p3 &&& (3 : Int32)).toInt64)) - (1 : Int64))), .second, .val (.long ((q1 + (((Jvm.Free.XT.ushr p3 (2 : Int32)) &&& (3 : Int32)).toInt64)) - (1 : Int64))), .second, .unset, .unset, .unset, .unset, .unset, .unset] [])) t
    refine XS.aload X1054.here hx rfl (hb hby at_44) rfl rfl ?_
    show Steps p.tables e below (T1054.setTop (mkF m 46 #[.val (.long q0), .second, .val (.long q1), .second, .val (.long q2), .second, .val (.int p3), .val (.int p4), .val (.ref b929), .val (.long ((q0 + ((p3 &&& (3 : Int32)).toInt64)) - (1 : Int64))), .second, .val (.long ((q1 + (((Jvm.Free.XT.ushr p3 (2 : Int32)) &&& (3 : Int32)).toInt64)) - (1 : Int64))), .second, .unset, .unset, .unset, .unset, .unset, .unset] [(.ref b929)])) t
    refine XS.lloadN X1054.here hx rfl (hb hby at_46) rfl ?_
    show Steps p.tables e below (T1054.setTop (mkF m 47 #[.val (.long q0), .second, .val (.long q1), .second, .val (.long q2), .second, .val (.int p3), .val (.int p4), .val (.ref b929), .val (.long ((q0 + ((p3 &&& (3 : Int32)).toInt64)) - (1 : Int64))), .second, .val (.long ((q1 + (((Jvm.Free.XT.ushr p3 (2 : Int32)) &&& (3 : Int32)).toInt64)) - (1 : Int64))), .second, .unset, .unset, .unset, .unset, .unset, .unset] [(.long q0), (.ref b929)])) t
    refine XS.iload X1054.here hx rfl (hb hby at_47) rfl ?_
    exact k
  obtain ⟨cq1078, kq1078, qa1078, qb1078, qc1078⟩ := isOf hZ rfl p1057
  obtain ⟨_, _, ⟨T1078, L1078, kk1078, nn1078⟩, -, X1078, ⟨Lc1078, hQ1078, l1078, y1078, z1078⟩, st1078⟩ := X1054.virtualBack hx (y := (⟨"com/example/perigo/perigo/engine/network/Node", "markReached", "(JI)V"⟩ : MethodName)) (z := (⟨"com/example/perigo/perigo/engine/network/Node", "markReached", "(JI)V"⟩ : MethodName)) hown (mvT hZ (hw _ (List.mem_of_getElem? (i := 132) rfl))) (mvT hZ (hw _ (List.mem_of_getElem? (i := 133) rfl))) (notFace_of_selects (args := #[]) (mvT hZ (hw _ (List.mem_of_getElem? (i := 135) rfl)))) (mvT hZ (hw _ (List.mem_of_getElem? (i := 135) rfl))) (mvT hZ (hw _ (List.mem_of_getElem? (i := 134) rfl))) (by decide) (backOf (W := 0) (mark l Z a0 hw [] b929 q0 p4 (0 : Int64) (0 : Int32) T1054.heap n0 Z1076 p1057 p1058 p1059 g_b929) hZ (hw _ (List.mem_of_getElem? (i := 136) rfl)) (hw _ (List.mem_of_getElem? (i := 2) rfl)) (by decide) (by decide)) qa1078 qc1078 (g := (mkF m 49 #[.val (.long q0), .second, .val (.long q1), .second, .val (.long q2), .second, .val (.int p3), .val (.int p4), .val (.ref b929), .val (.long ((q0 + ((p3 &&& (3 : Int32)).toInt64)) - (1 : Int64))), .second, .val (.long ((q1 + (((Jvm.Free.XT.ushr p3 (2 : Int32)) &&& (3 : Int32)).toInt64)) - (1 : Int64))), .second, .unset, .unset, .unset, .unset, .unset, .unset] [(.int p4), (.long q0), (.ref b929)])) rfl (by rw [hml]; rfl) (Steps.refl _) (argsL := [(.long q0), (.int p4)]) (rest := []) (lenOf pd_212 rfl) rfl (by show 2 * 0 + _ ≤ _; exact Nat.le_of_eq rfl) (hb hby at_49) (fun _ _ => ⟨rfl, rfl, (by decide : 25 + 0 ≤ _), (by decide : 129 + 0 ≤ _)⟩)
  dsimp only [Pt.U, Pt.locs, Pt.cells, Pt.slots] at X1078 l1078 y1078 z1078 st1078 hQ1078
  subst l1078 y1078 z1078
  obtain ⟨rfl, N1079, K1080, p1081, p1082, p1083⟩ := hQ1078
  have N1084 := Fr.app N1060 N1079
  have f1085 : Old Z n0 T1078.heap := f1061.keep K1080 (allS g_b929 all0)
  have f1086 : Sta Z T1078.heap "java/lang/String" "COMPACT_STRINGS" "Z" (.int w_s_COMPACT_STRINGS) := own_sta_keep f1062 K1080 (allS (own_plain p1057) all0)
  have f1087 : Sta Z T1078.heap "jdk/internal/util/Preconditions" "SIOOBE_FORMATTER" "Ljava/util/function/BiFunction;" w_s_SIOOBE_FORMATTER := own_sta_keep f1063 K1080 (allS (own_plain p1057) all0)
  have f1088 : Exa Z T1078.heap b929 "com/example/perigo/perigo/engine/network/Node" := p1057.keep K1080
  have f1089 : Exa Z T1078.heap b947 "com/example/perigo/perigo/engine/event/Medium" := f1065.keep K1080
  have f1090 : Exa Z T1078.heap b969 "java/lang/String" := f1066.keep K1080
  have f1091 : Fld Z T1078.heap b969 "java/lang/String" "coder" "B" (.int (0 : Int32)) := f1067.keep K1080 (ninS (ne_exa f1066 p1057 (by decide)) nin0)
  have f1092 : Fld Z T1078.heap b969 "java/lang/String" "value" "[B" (.ref bb969) := f1068.keep K1080 (ninS (ne_exa f1066 p1057 (by decide)) nin0)
  have f1093 : own_Arv Z T1078.heap bb969 .byte (4 : Int32) [(.int (99 : Int32)), (.int (97 : Int32)), (.int (114 : Int32)), (.int (100 : Int32))] (.int (0 : Int32)) := f1069.keep K1080 (ninS (Ne.symm (own_neA p1057 f1069 (hw _ (List.mem_of_getElem? (i := 1) rfl)))) nin0)
  have f1094 : Exa Z T1078.heap b992 "java/lang/String" := f1070.keep K1080
  have f1095 : Fld Z T1078.heap b992 "java/lang/String" "coder" "B" (.int (0 : Int32)) := f1071.keep K1080 (ninS (ne_exa f1070 p1057 (by decide)) nin0)
  have f1096 : Fld Z T1078.heap b992 "java/lang/String" "value" "[B" (.ref bb992) := f1072.keep K1080 (ninS (ne_exa f1070 p1057 (by decide)) nin0)
  have f1097 : own_Arv Z T1078.heap bb992 .byte (1 : Int32) [(.int (49 : Int32))] (.int (0 : Int32)) := f1073.keep K1080 (ninS (Ne.symm (own_neA p1057 f1073 (hw _ (List.mem_of_getElem? (i := 1) rfl)))) nin0)
  have f1098 : Fld Z T1078.heap b947 "com/example/perigo/perigo/engine/event/Medium" "kind" "Ljava/lang/String;" (.ref b969) := f1074.keep K1080 (ninS (Ne.symm ne948) nin0)
  have f1099 : Fld Z T1078.heap b947 "com/example/perigo/perigo/engine/event/Medium" "value" "Ljava/lang/String;" (.ref b992) := f1075.keep K1080 (ninS (Ne.symm ne948) nin0)
  have Z1100 : n0 ≤ T1078.heap.size := Nat.le_trans Z1076 K1080.1
  have hk1101 := Nat.le_trans hk1077 K1080.1
  refine own_goTW st1078 ?_
  refine own_goW (S' := T1078.setTop (mkF m 56 #[.val (.long q0), .second, .val (.long q1), .second, .val (.long q2), .second, .val (.int p3), .val (.int p4), .val (.ref b929), .val (.long ((q0 + ((p3 &&& (3 : Int32)).toInt64)) - (1 : Int64))), .second, .val (.long ((q1 + (((Jvm.Free.XT.ushr p3 (2 : Int32)) &&& (3 : Int32)).toInt64)) - (1 : Int64))), .second, .unset, .unset, .unset, .unset, .unset, .unset] [(.long ((q0 + ((p3 &&& (3 : Int32)).toInt64)) - (1 : Int64))), (.ref b929)])) (fun t k => ?_) ?_
  · show Steps p.tables e below (T1078.setTop (mkF m 52 #[.val (.long q0), .second, .val (.long q1), .second, .val (.long q2), .second, .val (.int p3), .val (.int p4), .val (.ref b929), .val (.long ((q0 + ((p3 &&& (3 : Int32)).toInt64)) - (1 : Int64))), .second, .val (.long ((q1 + (((Jvm.Free.XT.ushr p3 (2 : Int32)) &&& (3 : Int32)).toInt64)) - (1 : Int64))), .second, .unset, .unset, .unset, .unset, .unset, .unset] [])) t
    refine XS.aload X1078.here hx rfl (hb hby at_52) rfl rfl ?_
    show Steps p.tables e below (T1078.setTop (mkF m 54 #[.val (.long q0), .second, .val (.long q1), .second, .val (.long q2), .second, .val (.int p3), .val (.int p4), .val (.ref b929), .val (.long ((q0 + ((p3 &&& (3 : Int32)).toInt64)) - (1 : Int64))), .second, .val (.long ((q1 + (((Jvm.Free.XT.ushr p3 (2 : Int32)) &&& (3 : Int32)).toInt64)) - (1 : Int64))), .second, .unset, .unset, .unset, .unset, .unset, .unset] [(.ref b929)])) t
    refine XS.lload X1078.here hx rfl (hb hby at_54) rfl ?_
    exact k
  obtain ⟨cq1102, kq1102, qa1102, qb1102, qc1102⟩ := isOf hZ rfl p1081
  obtain ⟨_, _, ⟨T1102, L1102, kk1102, nn1102⟩, -, X1102, ⟨Lc1102, hQ1102, l1102, y1102, z1102⟩, st1102⟩ := X1078.virtualBack hx (y := (⟨"com/example/perigo/perigo/engine/network/Node", "isReachedBy", "(J)Z"⟩ : MethodName)) (z := (⟨"com/example/perigo/perigo/engine/network/Node", "isReachedBy", "(J)Z"⟩ : MethodName)) hown (mvT hZ (hw _ (List.mem_of_getElem? (i := 141) rfl))) (mvT hZ (hw _ (List.mem_of_getElem? (i := 142) rfl))) (notFace_of_selects (args := #[]) (mvT hZ (hw _ (List.mem_of_getElem? (i := 144) rfl)))) (mvT hZ (hw _ (List.mem_of_getElem? (i := 144) rfl))) (mvT hZ (hw _ (List.mem_of_getElem? (i := 143) rfl))) (by decide) (backOf (W := 0) (isR l Z a0 hw [] b929 ((q0 + ((p3 &&& (3 : Int32)).toInt64)) - (1 : Int64)) q0 T1078.heap n0 Z1100 p1082) hZ (hw _ (List.mem_of_getElem? (i := 145) rfl)) (hw _ (List.mem_of_getElem? (i := 2) rfl)) (by decide) (by decide)) qa1102 qc1102 (g := (mkF m 56 #[.val (.long q0), .second, .val (.long q1), .second, .val (.long q2), .second, .val (.int p3), .val (.int p4), .val (.ref b929), .val (.long ((q0 + ((p3 &&& (3 : Int32)).toInt64)) - (1 : Int64))), .second, .val (.long ((q1 + (((Jvm.Free.XT.ushr p3 (2 : Int32)) &&& (3 : Int32)).toInt64)) - (1 : Int64))), .second, .unset, .unset, .unset, .unset, .unset, .unset] [(.long ((q0 + ((p3 &&& (3 : Int32)).toInt64)) - (1 : Int64))), (.ref b929)])) rfl (by rw [hml]; rfl) (Steps.refl _) (argsL := [(.long ((q0 + ((p3 &&& (3 : Int32)).toInt64)) - (1 : Int64)))]) (rest := []) (lenOf pd_213 rfl) rfl (by show 2 * 0 + _ ≤ _; exact Nat.le_of_eq rfl) (hb hby at_56) (fun _ _ => ⟨rfl, rfl, (by decide : 25 + 0 ≤ _), (by decide : 129 + 0 ≤ _)⟩)
  dsimp only [Pt.U, Pt.locs, Pt.cells, Pt.slots] at X1102 l1102 y1102 z1102 st1102 hQ1102
  subst l1102 y1102 z1102
  obtain ⟨rfl, N1103, e1102⟩ := hQ1102
  have N1105 := Fr.app N1084 N1103
  refine own_goTW st1102 ?_
  refine own_goW (S' := T1102.setTop (mkF m 63 #[.val (.long q0), .second, .val (.long q1), .second, .val (.long q2), .second, .val (.int p3), .val (.int p4), .val (.ref b929), .val (.long ((q0 + ((p3 &&& (3 : Int32)).toInt64)) - (1 : Int64))), .second, .val (.long ((q1 + (((Jvm.Free.XT.ushr p3 (2 : Int32)) &&& (3 : Int32)).toInt64)) - (1 : Int64))), .second, .unset, .unset, .unset, .unset, .unset, .unset] [(.int (Jvm.Free.XT.cmpL ((q0 + ((p3 &&& (3 : Int32)).toInt64)) - (1 : Int64)) q0)), (.int (isR_r ((q0 + ((p3 &&& (3 : Int32)).toInt64)) - (1 : Int64)) q0))])) (fun t k => ?_) ?_
  · show Steps p.tables e below (T1102.setTop (mkF m 59 #[.val (.long q0), .second, .val (.long q1), .second, .val (.long q2), .second, .val (.int p3), .val (.int p4), .val (.ref b929), .val (.long ((q0 + ((p3 &&& (3 : Int32)).toInt64)) - (1 : Int64))), .second, .val (.long ((q1 + (((Jvm.Free.XT.ushr p3 (2 : Int32)) &&& (3 : Int32)).toInt64)) - (1 : Int64))), .second, .unset, .unset, .unset, .unset, .unset, .unset] [(.int (isR_r ((q0 + ((p3 &&& (3 : Int32)).toInt64)) - (1 : Int64)) q0))])) t
    refine XS.lload X1102.here hx rfl (hb hby at_59) rfl ?_
    show Steps p.tables e below (T1102.setTop (mkF m 61 #[.val (.long q0), .second, .val (.long q1), .second, .val (.long q2), .second, .val (.int p3), .val (.int p4), .val (.ref b929), .val (.long ((q0 + ((p3 &&& (3 : Int32)).toInt64)) - (1 : Int64))), .second, .val (.long ((q1 + (((Jvm.Free.XT.ushr p3 (2 : Int32)) &&& (3 : Int32)).toInt64)) - (1 : Int64))), .second, .unset, .unset, .unset, .unset, .unset, .unset] [(.long ((q0 + ((p3 &&& (3 : Int32)).toInt64)) - (1 : Int64))), (.int (isR_r ((q0 + ((p3 &&& (3 : Int32)).toInt64)) - (1 : Int64)) q0))])) t
    refine XS.lloadN X1102.here hx rfl (hb hby at_61) rfl ?_
    show Steps p.tables e below (T1102.setTop (mkF m 62 #[.val (.long q0), .second, .val (.long q1), .second, .val (.long q2), .second, .val (.int p3), .val (.int p4), .val (.ref b929), .val (.long ((q0 + ((p3 &&& (3 : Int32)).toInt64)) - (1 : Int64))), .second, .val (.long ((q1 + (((Jvm.Free.XT.ushr p3 (2 : Int32)) &&& (3 : Int32)).toInt64)) - (1 : Int64))), .second, .unset, .unset, .unset, .unset, .unset, .unset] [(.long q0), (.long ((q0 + ((p3 &&& (3 : Int32)).toInt64)) - (1 : Int64))), (.int (isR_r ((q0 + ((p3 &&& (3 : Int32)).toInt64)) - (1 : Int64)) q0))])) t
    refine XS.lcmp X1102.here hx rfl (hb hby at_62) rfl ?_
    exact k
  refine own_goW (S' := T1102.setTop (mkF m 71 #[.val (.long q0), .second, .val (.long q1), .second, .val (.long q2), .second, .val (.int p3), .val (.int p4), .val (.ref b929), .val (.long ((q0 + ((p3 &&& (3 : Int32)).toInt64)) - (1 : Int64))), .second, .val (.long ((q1 + (((Jvm.Free.XT.ushr p3 (2 : Int32)) &&& (3 : Int32)).toInt64)) - (1 : Int64))), .second, .unset, .unset, .unset, .unset, .unset, .unset] [(.int (if ((q0 + ((p3 &&& (3 : Int32)).toInt64)) - (1 : Int64)) = q0 then (1 : Int32) else (0 : Int32))), (.int (isR_r ((q0 + ((p3 &&& (3 : Int32)).toInt64)) - (1 : Int64)) q0))])) (fun t k => ?_) ?_
  · show Steps p.tables e below (T1102.setTop (mkF m 63 #[.val (.long q0), .second, .val (.long q1), .second, .val (.long q2), .second, .val (.int p3), .val (.int p4), .val (.ref b929), .val (.long ((q0 + ((p3 &&& (3 : Int32)).toInt64)) - (1 : Int64))), .second, .val (.long ((q1 + (((Jvm.Free.XT.ushr p3 (2 : Int32)) &&& (3 : Int32)).toInt64)) - (1 : Int64))), .second, .unset, .unset, .unset, .unset, .unset, .unset] [(.int (Jvm.Free.XT.cmpL ((q0 + ((p3 &&& (3 : Int32)).toInt64)) - (1 : Int64)) q0)), (.int (isR_r ((q0 + ((p3 &&& (3 : Int32)).toInt64)) - (1 : Int64)) q0))])) t
    by_cases hc63 : ((q0 + ((p3 &&& (3 : Int32)).toInt64)) - (1 : Int64)) = q0
    · show Steps p.tables e below (T1102.setTop (mkF m 63 #[.val (.long q0), .second, .val (.long q1), .second, .val (.long q2), .second, .val (.int p3), .val (.int p4), .val (.ref b929), .val (.long ((q0 + ((p3 &&& (3 : Int32)).toInt64)) - (1 : Int64))), .second, .val (.long ((q1 + (((Jvm.Free.XT.ushr p3 (2 : Int32)) &&& (3 : Int32)).toInt64)) - (1 : Int64))), .second, .unset, .unset, .unset, .unset, .unset, .unset] [(.int (Jvm.Free.XT.cmpL ((q0 + ((p3 &&& (3 : Int32)).toInt64)) - (1 : Int64)) q0)), (.int (isR_r ((q0 + ((p3 &&& (3 : Int32)).toInt64)) - (1 : Int64)) q0))])) t
      refine XS.ifNo X1102.here hx rfl (hb hby at_63) rfl (Jvm.Free.XT.ll_ne_f hc63) ?_
      show Steps p.tables e below (T1102.setTop (mkF m 66 #[.val (.long q0), .second, .val (.long q1), .second, .val (.long q2), .second, .val (.int p3), .val (.int p4), .val (.ref b929), .val (.long ((q0 + ((p3 &&& (3 : Int32)).toInt64)) - (1 : Int64))), .second, .val (.long ((q1 + (((Jvm.Free.XT.ushr p3 (2 : Int32)) &&& (3 : Int32)).toInt64)) - (1 : Int64))), .second, .unset, .unset, .unset, .unset, .unset, .unset] [(.int (isR_r ((q0 + ((p3 &&& (3 : Int32)).toInt64)) - (1 : Int64)) q0))])) t
      refine XS.iconst X1102.here hx rfl (hb hby at_66) ?_
      show Steps p.tables e below (T1102.setTop (mkF m 67 #[.val (.long q0), .second, .val (.long q1), .second, .val (.long q2), .second, .val (.int p3), .val (.int p4), .val (.ref b929), .val (.long ((q0 + ((p3 &&& (3 : Int32)).toInt64)) - (1 : Int64))), .second, .val (.long ((q1 + (((Jvm.Free.XT.ushr p3 (2 : Int32)) &&& (3 : Int32)).toInt64)) - (1 : Int64))), .second, .unset, .unset, .unset, .unset, .unset, .unset] [(.int (1 : Int32)), (.int (isR_r ((q0 + ((p3 &&& (3 : Int32)).toInt64)) - (1 : Int64)) q0))])) t
      refine XS.goto X1102.here hx rfl (pc0 := 67) (pc' := 71) rfl (hb hby at_67) (by decide) (by decide) ?_
      try simp only [if_pos hc63] at k
      try simp only [if_pos hc63]
      exact k
    · show Steps p.tables e below (T1102.setTop (mkF m 63 #[.val (.long q0), .second, .val (.long q1), .second, .val (.long q2), .second, .val (.int p3), .val (.int p4), .val (.ref b929), .val (.long ((q0 + ((p3 &&& (3 : Int32)).toInt64)) - (1 : Int64))), .second, .val (.long ((q1 + (((Jvm.Free.XT.ushr p3 (2 : Int32)) &&& (3 : Int32)).toInt64)) - (1 : Int64))), .second, .unset, .unset, .unset, .unset, .unset, .unset] [(.int (Jvm.Free.XT.cmpL ((q0 + ((p3 &&& (3 : Int32)).toInt64)) - (1 : Int64)) q0)), (.int (isR_r ((q0 + ((p3 &&& (3 : Int32)).toInt64)) - (1 : Int64)) q0))])) t
      refine XS.ifYes X1102.here hx rfl (pc0 := 63) (pc' := 70) rfl (hb hby at_63) rfl (Jvm.Free.XT.ll_ne_t hc63) (by decide) (by decide) ?_
      show Steps p.tables e below (T1102.setTop (mkF m 70 #[.val (.long q0), .second, .val (.long q1), .second, .val (.long q2), .second, .val (.int p3), .val (.int p4), .val (.ref b929), .val (.long ((q0 + ((p3 &&& (3 : Int32)).toInt64)) - (1 : Int64))), .second, .val (.long ((q1 + (((Jvm.Free.XT.ushr p3 (2 : Int32)) &&& (3 : Int32)).toInt64)) - (1 : Int64))), .second, .unset, .unset, .unset, .unset, .unset, .unset] [(.int (isR_r ((q0 + ((p3 &&& (3 : Int32)).toInt64)) - (1 : Int64)) q0))])) t
      refine XS.iconst X1102.here hx rfl (hb hby at_70) ?_
      try simp only [if_neg hc63] at k
      try simp only [if_neg hc63]
      exact k
  refine own_goW (S' := T1102.setTop (mkF m 79 #[.val (.long q0), .second, .val (.long q1), .second, .val (.long q2), .second, .val (.int p3), .val (.int p4), .val (.ref b929), .val (.long ((q0 + ((p3 &&& (3 : Int32)).toInt64)) - (1 : Int64))), .second, .val (.long ((q1 + (((Jvm.Free.XT.ushr p3 (2 : Int32)) &&& (3 : Int32)).toInt64)) - (1 : Int64))), .second, .unset, .unset, .unset, .unset, .unset, .unset] [(.int (if (isR_r ((q0 + ((p3 &&& (3 : Int32)).toInt64)) - (1 : Int64)) q0) = (if ((q0 + ((p3 &&& (3 : Int32)).toInt64)) - (1 : Int64)) = q0 then (1 : Int32) else (0 : Int32)) then (1 : Int32) else (0 : Int32)))])) (fun t k => ?_) ?_
  · show Steps p.tables e below (T1102.setTop (mkF m 71 #[.val (.long q0), .second, .val (.long q1), .second, .val (.long q2), .second, .val (.int p3), .val (.int p4), .val (.ref b929), .val (.long ((q0 + ((p3 &&& (3 : Int32)).toInt64)) - (1 : Int64))), .second, .val (.long ((q1 + (((Jvm.Free.XT.ushr p3 (2 : Int32)) &&& (3 : Int32)).toInt64)) - (1 : Int64))), .second, .unset, .unset, .unset, .unset, .unset, .unset] [(.int (if ((q0 + ((p3 &&& (3 : Int32)).toInt64)) - (1 : Int64)) = q0 then (1 : Int32) else (0 : Int32))), (.int (isR_r ((q0 + ((p3 &&& (3 : Int32)).toInt64)) - (1 : Int64)) q0))])) t
    by_cases hc71 : (isR_r ((q0 + ((p3 &&& (3 : Int32)).toInt64)) - (1 : Int64)) q0) = (if ((q0 + ((p3 &&& (3 : Int32)).toInt64)) - (1 : Int64)) = q0 then (1 : Int32) else (0 : Int32))
    · show Steps p.tables e below (T1102.setTop (mkF m 71 #[.val (.long q0), .second, .val (.long q1), .second, .val (.long q2), .second, .val (.int p3), .val (.int p4), .val (.ref b929), .val (.long ((q0 + ((p3 &&& (3 : Int32)).toInt64)) - (1 : Int64))), .second, .val (.long ((q1 + (((Jvm.Free.XT.ushr p3 (2 : Int32)) &&& (3 : Int32)).toInt64)) - (1 : Int64))), .second, .unset, .unset, .unset, .unset, .unset, .unset] [(.int (if ((q0 + ((p3 &&& (3 : Int32)).toInt64)) - (1 : Int64)) = q0 then (1 : Int32) else (0 : Int32))), (.int (isR_r ((q0 + ((p3 &&& (3 : Int32)).toInt64)) - (1 : Int64)) q0))])) t
      refine XS.icmpNo X1102.here hx rfl (hb hby at_71) rfl (teq hc71).2 ?_
      show Steps p.tables e below (T1102.setTop (mkF m 74 #[.val (.long q0), .second, .val (.long q1), .second, .val (.long q2), .second, .val (.int p3), .val (.int p4), .val (.ref b929), .val (.long ((q0 + ((p3 &&& (3 : Int32)).toInt64)) - (1 : Int64))), .second, .val (.long ((q1 + (((Jvm.Free.XT.ushr p3 (2 : Int32)) &&& (3 : Int32)).toInt64)) - (1 : Int64))), .second, .unset, .unset, .unset, .unset, .unset, .unset] [])) t
      refine XS.iconst X1102.here hx rfl (hb hby at_74) ?_
      show Steps p.tables e below (T1102.setTop (mkF m 75 #[.val (.long q0), .second, .val (.long q1), .second, .val (.long q2), .second, .val (.int p3), .val (.int p4), .val (.ref b929), .val (.long ((q0 + ((p3 &&& (3 : Int32)).toInt64)) - (1 : Int64))), .second, .val (.long ((q1 + (((Jvm.Free.XT.ushr p3 (2 : Int32)) &&& (3 : Int32)).toInt64)) - (1 : Int64))), .second, .unset, .unset, .unset, .unset, .unset, .unset] [(.int (1 : Int32))])) t
      refine XS.goto X1102.here hx rfl (pc0 := 75) (pc' := 79) rfl (hb hby at_75) (by decide) (by decide) ?_
      try simp only [if_pos hc71] at k
      try simp only [if_pos hc71]
      exact k
    · show Steps p.tables e below (T1102.setTop (mkF m 71 #[.val (.long q0), .second, .val (.long q1), .second, .val (.long q2), .second, .val (.int p3), .val (.int p4), .val (.ref b929), .val (.long ((q0 + ((p3 &&& (3 : Int32)).toInt64)) - (1 : Int64))), .second, .val (.long ((q1 + (((Jvm.Free.XT.ushr p3 (2 : Int32)) &&& (3 : Int32)).toInt64)) - (1 : Int64))), .second, .unset, .unset, .unset, .unset, .unset, .unset] [(.int (if ((q0 + ((p3 &&& (3 : Int32)).toInt64)) - (1 : Int64)) = q0 then (1 : Int32) else (0 : Int32))), (.int (isR_r ((q0 + ((p3 &&& (3 : Int32)).toInt64)) - (1 : Int64)) q0))])) t
      refine XS.icmpYes X1102.here hx rfl (pc0 := 71) (pc' := 78) rfl (hb hby at_71) rfl (feq hc71).2 (by decide) (by decide) ?_
      show Steps p.tables e below (T1102.setTop (mkF m 78 #[.val (.long q0), .second, .val (.long q1), .second, .val (.long q2), .second, .val (.int p3), .val (.int p4), .val (.ref b929), .val (.long ((q0 + ((p3 &&& (3 : Int32)).toInt64)) - (1 : Int64))), .second, .val (.long ((q1 + (((Jvm.Free.XT.ushr p3 (2 : Int32)) &&& (3 : Int32)).toInt64)) - (1 : Int64))), .second, .unset, .unset, .unset, .unset, .unset, .unset] [])) t
      refine XS.iconst X1102.here hx rfl (hb hby at_78) ?_
      try simp only [if_neg hc71] at k
      try simp only [if_neg hc71]
      exact k
  refine own_goW (S' := T1102.setTop (mkF m 85 #[.val (.long q0), .second, .val (.long q1), .second, .val (.long q2), .second, .val (.int p3), .val (.int p4), .val (.ref b929), .val (.long ((q0 + ((p3 &&& (3 : Int32)).toInt64)) - (1 : Int64))), .second, .val (.long ((q1 + (((Jvm.Free.XT.ushr p3 (2 : Int32)) &&& (3 : Int32)).toInt64)) - (1 : Int64))), .second, .val (.int (if (isR_r ((q0 + ((p3 &&& (3 : Int32)).toInt64)) - (1 : Int64)) q0) = (if ((q0 + ((p3 &&& (3 : Int32)).toInt64)) - (1 : Int64)) = q0 then (1 : Int32) else (0 : Int32)) then (1 : Int32) else (0 : Int32))), .unset, .unset, .unset, .unset, .unset] [(.long q2), (.ref b929)])) (fun t k => ?_) ?_
  · show Steps p.tables e below (T1102.setTop (mkF m 79 #[.val (.long q0), .second, .val (.long q1), .second, .val (.long q2), .second, .val (.int p3), .val (.int p4), .val (.ref b929), .val (.long ((q0 + ((p3 &&& (3 : Int32)).toInt64)) - (1 : Int64))), .second, .val (.long ((q1 + (((Jvm.Free.XT.ushr p3 (2 : Int32)) &&& (3 : Int32)).toInt64)) - (1 : Int64))), .second, .unset, .unset, .unset, .unset, .unset, .unset] [(.int (if (isR_r ((q0 + ((p3 &&& (3 : Int32)).toInt64)) - (1 : Int64)) q0) = (if ((q0 + ((p3 &&& (3 : Int32)).toInt64)) - (1 : Int64)) = q0 then (1 : Int32) else (0 : Int32)) then (1 : Int32) else (0 : Int32)))])) t
    refine XS.istore X1102.here hx rfl (hb hby at_79) rfl (l' := #[.val (.long q0), .second, .val (.long q1), .second, .val (.long q2), .second, .val (.int p3), .val (.int p4), .val (.ref b929), .val (.long ((q0 + ((p3 &&& (3 : Int32)).toInt64)) - (1 : Int64))), .second, .val (.long ((q1 + (((Jvm.Free.XT.ushr p3 (2 : Int32)) &&& (3 : Int32)).toInt64)) - (1 : Int64))), .second, .val (.int (if (isR_r ((q0 + ((p3 &&& (3 : Int32)).toInt64)) - (1 : Int64)) q0) = (if ((q0 + ((p3 &&& (3 : Int32)).toInt64)) - (1 : Int64)) = q0 then (1 : Int32) else (0 : Int32)) then (1 : Int32) else (0 : Int32))), .unset, .unset, .unset, .unset, .unset]) rfl ?_
    show Steps p.tables e below (T1102.setTop (mkF m 81 #[.val (.long q0), .second, .val (.long q1), .second, .val (.long q2), .second, .val (.int p3), .val (.int p4), .val (.ref b929), .val (.long ((q0 + ((p3 &&& (3 : Int32)).toInt64)) - (1 : Int64))), .second, .val (.long ((q1 + (((Jvm.Free.XT.ushr p3 (2 : Int32)) &&& (3 : Int32)).toInt64)) - (1 : Int64))), .second, .val (.int (if (isR_r ((q0 + ((p3 &&& (3 : Int32)).toInt64)) - (1 : Int64)) q0) = (if ((q0 + ((p3 &&& (3 : Int32)).toInt64)) - (1 : Int64)) = q0 then (1 : Int32) else (0 : Int32)) then (1 : Int32) else (0 : Int32))), .unset, .unset, .unset, .unset, .unset] [])) t
    refine XS.aload X1102.here hx rfl (hb hby at_81) rfl rfl ?_
    show Steps p.tables e below (T1102.setTop (mkF m 83 #[.val (.long q0), .second, .val (.long q1), .second, .val (.long q2), .second, .val (.int p3), .val (.int p4), .val (.ref b929), .val (.long ((q0 + ((p3 &&& (3 : Int32)).toInt64)) - (1 : Int64))), .second, .val (.long ((q1 + (((Jvm.Free.XT.ushr p3 (2 : Int32)) &&& (3 : Int32)).toInt64)) - (1 : Int64))), .second, .val (.int (if (isR_r ((q0 + ((p3 &&& (3 : Int32)).toInt64)) - (1 : Int64)) q0) = (if ((q0 + ((p3 &&& (3 : Int32)).toInt64)) - (1 : Int64)) = q0 then (1 : Int32) else (0 : Int32)) then (1 : Int32) else (0 : Int32))), .unset, .unset, .unset, .unset, .unset] [(.ref b929)])) t
    refine XS.lload X1102.here hx rfl (hb hby at_83) rfl ?_
    exact k
  obtain ⟨cq1106, kq1106, qa1106, qb1106, qc1106⟩ := isOf hZ e1102 p1081
  obtain ⟨_, _, ⟨T1106, L1106, kk1106, nn1106⟩, -, X1106, ⟨Lc1106, hQ1106, l1106, y1106, z1106⟩, st1106⟩ := X1102.virtualBack hx (y := (⟨"com/example/perigo/perigo/engine/network/Node", "isReachedBy", "(J)Z"⟩ : MethodName)) (z := (⟨"com/example/perigo/perigo/engine/network/Node", "isReachedBy", "(J)Z"⟩ : MethodName)) hown (mvT hZ (hw _ (List.mem_of_getElem? (i := 141) rfl))) (mvT hZ (hw _ (List.mem_of_getElem? (i := 142) rfl))) (notFace_of_selects (args := #[]) (mvT hZ (hw _ (List.mem_of_getElem? (i := 144) rfl)))) (mvT hZ (hw _ (List.mem_of_getElem? (i := 144) rfl))) (mvT hZ (hw _ (List.mem_of_getElem? (i := 143) rfl))) (by decide) (backOf (W := 0) (isR l Z a0 hw [] b929 q2 q0 T1078.heap n0 Z1100 p1082) hZ (hw _ (List.mem_of_getElem? (i := 145) rfl)) (hw _ (List.mem_of_getElem? (i := 2) rfl)) (by decide) (by decide)) qa1106 qc1106 (g := (mkF m 85 #[.val (.long q0), .second, .val (.long q1), .second, .val (.long q2), .second, .val (.int p3), .val (.int p4), .val (.ref b929), .val (.long ((q0 + ((p3 &&& (3 : Int32)).toInt64)) - (1 : Int64))), .second, .val (.long ((q1 + (((Jvm.Free.XT.ushr p3 (2 : Int32)) &&& (3 : Int32)).toInt64)) - (1 : Int64))), .second, .val (.int (if (isR_r ((q0 + ((p3 &&& (3 : Int32)).toInt64)) - (1 : Int64)) q0) = (if ((q0 + ((p3 &&& (3 : Int32)).toInt64)) - (1 : Int64)) = q0 then (1 : Int32) else (0 : Int32)) then (1 : Int32) else (0 : Int32))), .unset, .unset, .unset, .unset, .unset] [(.long q2), (.ref b929)])) rfl (by rw [hml]; rfl) (Steps.refl _) (argsL := [(.long q2)]) (rest := []) (lenOf pd_213 rfl) rfl (by show 2 * 0 + _ ≤ _; exact Nat.le_of_eq rfl) (hb hby at_85) (fun _ _ => ⟨rfl, e1102, (by decide : 25 + 0 ≤ _), (by decide : 129 + 0 ≤ _)⟩)
  dsimp only [Pt.U, Pt.locs, Pt.cells, Pt.slots] at X1106 l1106 y1106 z1106 st1106 hQ1106
  subst l1106 y1106 z1106
  obtain ⟨rfl, N1107, e1106⟩ := hQ1106
  have N1109 := Fr.app N1105 N1107
  refine own_goTW st1106 ?_
  refine own_goW (S' := T1106.setTop (mkF m 92 #[.val (.long q0), .second, .val (.long q1), .second, .val (.long q2), .second, .val (.int p3), .val (.int p4), .val (.ref b929), .val (.long ((q0 + ((p3 &&& (3 : Int32)).toInt64)) - (1 : Int64))), .second, .val (.long ((q1 + (((Jvm.Free.XT.ushr p3 (2 : Int32)) &&& (3 : Int32)).toInt64)) - (1 : Int64))), .second, .val (.int (if (isR_r ((q0 + ((p3 &&& (3 : Int32)).toInt64)) - (1 : Int64)) q0) = (if ((q0 + ((p3 &&& (3 : Int32)).toInt64)) - (1 : Int64)) = q0 then (1 : Int32) else (0 : Int32)) then (1 : Int32) else (0 : Int32))), .unset, .unset, .unset, .unset, .unset] [(.int (Jvm.Free.XT.cmpL q2 q0)), (.int (isR_r q2 q0))])) (fun t k => ?_) ?_
  · show Steps p.tables e below (T1106.setTop (mkF m 88 #[.val (.long q0), .second, .val (.long q1), .second, .val (.long q2), .second, .val (.int p3), .val (.int p4), .val (.ref b929), .val (.long ((q0 + ((p3 &&& (3 : Int32)).toInt64)) - (1 : Int64))), .second, .val (.long ((q1 + (((Jvm.Free.XT.ushr p3 (2 : Int32)) &&& (3 : Int32)).toInt64)) - (1 : Int64))), .second, .val (.int (if (isR_r ((q0 + ((p3 &&& (3 : Int32)).toInt64)) - (1 : Int64)) q0) = (if ((q0 + ((p3 &&& (3 : Int32)).toInt64)) - (1 : Int64)) = q0 then (1 : Int32) else (0 : Int32)) then (1 : Int32) else (0 : Int32))), .unset, .unset, .unset, .unset, .unset] [(.int (isR_r q2 q0))])) t
    refine XS.lload X1106.here hx rfl (hb hby at_88) rfl ?_
    show Steps p.tables e below (T1106.setTop (mkF m 90 #[.val (.long q0), .second, .val (.long q1), .second, .val (.long q2), .second, .val (.int p3), .val (.int p4), .val (.ref b929), .val (.long ((q0 + ((p3 &&& (3 : Int32)).toInt64)) - (1 : Int64))), .second, .val (.long ((q1 + (((Jvm.Free.XT.ushr p3 (2 : Int32)) &&& (3 : Int32)).toInt64)) - (1 : Int64))), .second, .val (.int (if (isR_r ((q0 + ((p3 &&& (3 : Int32)).toInt64)) - (1 : Int64)) q0) = (if ((q0 + ((p3 &&& (3 : Int32)).toInt64)) - (1 : Int64)) = q0 then (1 : Int32) else (0 : Int32)) then (1 : Int32) else (0 : Int32))), .unset, .unset, .unset, .unset, .unset] [(.long q2), (.int (isR_r q2 q0))])) t
    refine XS.lloadN X1106.here hx rfl (hb hby at_90) rfl ?_
    show Steps p.tables e below (T1106.setTop (mkF m 91 #[.val (.long q0), .second, .val (.long q1), .second, .val (.long q2), .second, .val (.int p3), .val (.int p4), .val (.ref b929), .val (.long ((q0 + ((p3 &&& (3 : Int32)).toInt64)) - (1 : Int64))), .second, .val (.long ((q1 + (((Jvm.Free.XT.ushr p3 (2 : Int32)) &&& (3 : Int32)).toInt64)) - (1 : Int64))), .second, .val (.int (if (isR_r ((q0 + ((p3 &&& (3 : Int32)).toInt64)) - (1 : Int64)) q0) = (if ((q0 + ((p3 &&& (3 : Int32)).toInt64)) - (1 : Int64)) = q0 then (1 : Int32) else (0 : Int32)) then (1 : Int32) else (0 : Int32))), .unset, .unset, .unset, .unset, .unset] [(.long q0), (.long q2), (.int (isR_r q2 q0))])) t
    refine XS.lcmp X1106.here hx rfl (hb hby at_91) rfl ?_
    exact k
  refine own_goW (S' := T1106.setTop (mkF m 100 #[.val (.long q0), .second, .val (.long q1), .second, .val (.long q2), .second, .val (.int p3), .val (.int p4), .val (.ref b929), .val (.long ((q0 + ((p3 &&& (3 : Int32)).toInt64)) - (1 : Int64))), .second, .val (.long ((q1 + (((Jvm.Free.XT.ushr p3 (2 : Int32)) &&& (3 : Int32)).toInt64)) - (1 : Int64))), .second, .val (.int (if (isR_r ((q0 + ((p3 &&& (3 : Int32)).toInt64)) - (1 : Int64)) q0) = (if ((q0 + ((p3 &&& (3 : Int32)).toInt64)) - (1 : Int64)) = q0 then (1 : Int32) else (0 : Int32)) then (1 : Int32) else (0 : Int32))), .unset, .unset, .unset, .unset, .unset] [(.int (if q2 = q0 then (1 : Int32) else (0 : Int32))), (.int (isR_r q2 q0))])) (fun t k => ?_) ?_
  · show Steps p.tables e below (T1106.setTop (mkF m 92 #[.val (.long q0), .second, .val (.long q1), .second, .val (.long q2), .second, .val (.int p3), .val (.int p4), .val (.ref b929), .val (.long ((q0 + ((p3 &&& (3 : Int32)).toInt64)) - (1 : Int64))), .second, .val (.long ((q1 + (((Jvm.Free.XT.ushr p3 (2 : Int32)) &&& (3 : Int32)).toInt64)) - (1 : Int64))), .second, .val (.int (if (isR_r ((q0 + ((p3 &&& (3 : Int32)).toInt64)) - (1 : Int64)) q0) = (if ((q0 + ((p3 &&& (3 : Int32)).toInt64)) - (1 : Int64)) = q0 then (1 : Int32) else (0 : Int32)) then (1 : Int32) else (0 : Int32))), .unset, .unset, .unset, .unset, .unset] [(.int (Jvm.Free.XT.cmpL q2 q0)), (.int (isR_r q2 q0))])) t
    by_cases hc92 : q2 = q0
    · show Steps p.tables e below (T1106.setTop (mkF m 92 #[.val (.long q0), .second, .val (.long q1), .second, .val (.long q2), .second, .val (.int p3), .val (.int p4), .val (.ref b929), .val (.long ((q0 + ((p3 &&& (3 : Int32)).toInt64)) - (1 : Int64))), .second, .val (.long ((q1 + (((Jvm.Free.XT.ushr p3 (2 : Int32)) &&& (3 : Int32)).toInt64)) - (1 : Int64))), .second, .val (.int (if (isR_r ((q0 + ((p3 &&& (3 : Int32)).toInt64)) - (1 : Int64)) q0) = (if ((q0 + ((p3 &&& (3 : Int32)).toInt64)) - (1 : Int64)) = q0 then (1 : Int32) else (0 : Int32)) then (1 : Int32) else (0 : Int32))), .unset, .unset, .unset, .unset, .unset] [(.int (Jvm.Free.XT.cmpL q2 q0)), (.int (isR_r q2 q0))])) t
      refine XS.ifNo X1106.here hx rfl (hb hby at_92) rfl (Jvm.Free.XT.ll_ne_f hc92) ?_
      show Steps p.tables e below (T1106.setTop (mkF m 95 #[.val (.long q0), .second, .val (.long q1), .second, .val (.long q2), .second, .val (.int p3), .val (.int p4), .val (.ref b929), .val (.long ((q0 + ((p3 &&& (3 : Int32)).toInt64)) - (1 : Int64))), .second, .val (.long ((q1 + (((Jvm.Free.XT.ushr p3 (2 : Int32)) &&& (3 : Int32)).toInt64)) - (1 : Int64))), .second, .val (.int (if (isR_r ((q0 + ((p3 &&& (3 : Int32)).toInt64)) - (1 : Int64)) q0) = (if ((q0 + ((p3 &&& (3 : Int32)).toInt64)) - (1 : Int64)) = q0 then (1 : Int32) else (0 : Int32)) then (1 : Int32) else (0 : Int32))), .unset, .unset, .unset, .unset, .unset] [(.int (isR_r q2 q0))])) t
      refine XS.iconst X1106.here hx rfl (hb hby at_95) ?_
      show Steps p.tables e below (T1106.setTop (mkF m 96 #[.val (.long q0), .second, .val (.long q1), .second, .val (.long q2), .second, .val (.int p3), .val (.int p4), .val (.ref b929), .val (.long ((q0 + ((p3 &&& (3 : Int32)).toInt64)) - (1 : Int64))), .second, .val (.long ((q1 + (((Jvm.Free.XT.ushr p3 (2 : Int32)) &&& (3 : Int32)).toInt64)) - (1 : Int64))), .second, .val (.int (if (isR_r ((q0 + ((p3 &&& (3 : Int32)).toInt64)) - (1 : Int64)) q0) = (if ((q0 + ((p3 &&& (3 : Int32)).toInt64)) - (1 : Int64)) = q0 then (1 : Int32) else (0 : Int32)) then (1 : Int32) else (0 : Int32))), .unset, .unset, .unset, .unset, .unset] [(.int (1 : Int32)), (.int (isR_r q2 q0))])) t
      refine XS.goto X1106.here hx rfl (pc0 := 96) (pc' := 100) rfl (hb hby at_96) (by decide) (by decide) ?_
      try simp only [if_pos hc92] at k
      try simp only [if_pos hc92]
      exact k
    · show Steps p.tables e below (T1106.setTop (mkF m 92 #[.val (.long q0), .second, .val (.long q1), .second, .val (.long q2), .second, .val (.int p3), .val (.int p4), .val (.ref b929), .val (.long ((q0 + ((p3 &&& (3 : Int32)).toInt64)) - (1 : Int64))), .second, .val (.long ((q1 + (((Jvm.Free.XT.ushr p3 (2 : Int32)) &&& (3 : Int32)).toInt64)) - (1 : Int64))), .second, .val (.int (if (isR_r ((q0 + ((p3 &&& (3 : Int32)).toInt64)) - (1 : Int64)) q0) = (if ((q0 + ((p3 &&& (3 : Int32)).toInt64)) - (1 : Int64)) = q0 then (1 : Int32) else (0 : Int32)) then (1 : Int32) else (0 : Int32))), .unset, .unset, .unset, .unset, .unset] [(.int (Jvm.Free.XT.cmpL q2 q0)), (.int (isR_r q2 q0))])) t
      refine XS.ifYes X1106.here hx rfl (pc0 := 92) (pc' := 99) rfl (hb hby at_92) rfl (Jvm.Free.XT.ll_ne_t hc92) (by decide) (by decide) ?_
      show Steps p.tables e below (T1106.setTop (mkF m 99 #[.val (.long q0), .second, .val (.long q1), .second, .val (.long q2), .second, .val (.int p3), .val (.int p4), .val (.ref b929), .val (.long ((q0 + ((p3 &&& (3 : Int32)).toInt64)) - (1 : Int64))), .second, .val (.long ((q1 + (((Jvm.Free.XT.ushr p3 (2 : Int32)) &&& (3 : Int32)).toInt64)) - (1 : Int64))), .second, .val (.int (if (isR_r ((q0 + ((p3 &&& (3 : Int32)).toInt64)) - (1 : Int64)) q0) = (if ((q0 + ((p3 &&& (3 : Int32)).toInt64)) - (1 : Int64)) = q0 then (1 : Int32) else (0 : Int32)) then (1 : Int32) else (0 : Int32))), .unset, .unset, .unset, .unset, .unset] [(.int (isR_r q2 q0))])) t
      refine XS.iconst X1106.here hx rfl (hb hby at_99) ?_
      try simp only [if_neg hc92] at k
      try simp only [if_neg hc92]
      exact k
  refine own_goW (S' := T1106.setTop (mkF m 108 #[.val (.long q0), .second, .val (.long q1), .second, .val (.long q2), .second, .val (.int p3), .val (.int p4), .val (.ref b929), .val (.long ((q0 + ((p3 &&& (3 : Int32)).toInt64)) - (1 : Int64))), .second, .val (.long ((q1 + (((Jvm.Free.XT.ushr p3 (2 : Int32)) &&& (3 : Int32)).toInt64)) - (1 : Int64))), .second, .val (.int (if (isR_r ((q0 + ((p3 &&& (3 : Int32)).toInt64)) - (1 : Int64)) q0) = (if ((q0 + ((p3 &&& (3 : Int32)).toInt64)) - (1 : Int64)) = q0 then (1 : Int32) else (0 : Int32)) then (1 : Int32) else (0 : Int32))), .unset, .unset, .unset, .unset, .unset] [(.int (if (isR_r q2 q0) = (if q2 = q0 then (1 : Int32) else (0 : Int32)) then (1 : Int32) else (0 : Int32)))])) (fun t k => ?_) ?_
  · show Steps p.tables e below (T1106.setTop (mkF m 100 #[.val (.long q0), .second, .val (.long q1), .second, .val (.long q2), .second, .val (.int p3), .val (.int p4), .val (.ref b929), .val (.long ((q0 + ((p3 &&& (3 : Int32)).toInt64)) - (1 : Int64))), .second, .val (.long ((q1 + (((Jvm.Free.XT.ushr p3 (2 : Int32)) &&& (3 : Int32)).toInt64)) - (1 : Int64))), .second, .val (.int (if (isR_r ((q0 + ((p3 &&& (3 : Int32)).toInt64)) - (1 : Int64)) q0) = (if ((q0 + ((p3 &&& (3 : Int32)).toInt64)) - (1 : Int64)) = q0 then (1 : Int32) else (0 : Int32)) then (1 : Int32) else (0 : Int32))), .unset, .unset, .unset, .unset, .unset] [(.int (if q2 = q0 then (1 : Int32) else (0 : Int32))), (.int (isR_r q2 q0))])) t
    by_cases hc100 : (isR_r q2 q0) = (if q2 = q0 then (1 : Int32) else (0 : Int32))
    · show Steps p.tables e below (T1106.setTop (mkF m 100 #[.val (.long q0), .second, .val (.long q1), .second, .val (.long q2), .second, .val (.int p3), .val (.int p4), .val (.ref b929), .val (.long ((q0 + ((p3 &&& (3 : Int32)).toInt64)) - (1 : Int64))), .second, .val (.long ((q1 + (((Jvm.Free.XT.ushr p3 (2 : Int32)) &&& (3 : Int32)).toInt64)) - (1 : Int64))), .second, .val (.int (if (isR_r ((q0 + ((p3 &&& (3 : Int32)).toInt64)) - (1 : Int64)) q0) = (if ((q0 + ((p3 &&& (3 : Int32)).toInt64)) - (1 : Int64)) = q0 then (1 : Int32) else (0 : Int32)) then (1 : Int32) else (0 : Int32))), .unset, .unset, .unset, .unset, .unset] [(.int (if q2 = q0 then (1 : Int32) else (0 : Int32))), (.int (isR_r q2 q0))])) t
      refine XS.icmpNo X1106.here hx rfl (hb hby at_100) rfl (teq hc100).2 ?_
      show Steps p.tables e below (T1106.setTop (mkF m 103 #[.val (.long q0), .second, .val (.long q1), .second, .val (.long q2), .second, .val (.int p3), .val (.int p4), .val (.ref b929), .val (.long ((q0 + ((p3 &&& (3 : Int32)).toInt64)) - (1 : Int64))), .second, .val (.long ((q1 + (((Jvm.Free.XT.ushr p3 (2 : Int32)) &&& (3 : Int32)).toInt64)) - (1 : Int64))), .second, .val (.int (if (isR_r ((q0 + ((p3 &&& (3 : Int32)).toInt64)) - (1 : Int64)) q0) = (if ((q0 + ((p3 &&& (3 : Int32)).toInt64)) - (1 : Int64)) = q0 then (1 : Int32) else (0 : Int32)) then (1 : Int32) else (0 : Int32))), .unset, .unset, .unset, .unset, .unset] [])) t
      refine XS.iconst X1106.here hx rfl (hb hby at_103) ?_
      show Steps p.tables e below (T1106.setTop (mkF m 104 #[.val (.long q0), .second, .val (.long q1), .second, .val (.long q2), .second, .val (.int p3), .val (.int p4), .val (.ref b929), .val (.long ((q0 + ((p3 &&& (3 : Int32)).toInt64)) - (1 : Int64))), .second, .val (.long ((q1 + (((Jvm.Free.XT.ushr p3 (2 : Int32)) &&& (3 : Int32)).toInt64)) - (1 : Int64))), .second, .val (.int (if (isR_r ((q0 + ((p3 &&& (3 : Int32)).toInt64)) - (1 : Int64)) q0) = (if ((q0 + ((p3 &&& (3 : Int32)).toInt64)) - (1 : Int64)) = q0 then (1 : Int32) else (0 : Int32)) then (1 : Int32) else (0 : Int32))), .unset, .unset, .unset, .unset, .unset] [(.int (1 : Int32))])) t
      refine XS.goto X1106.here hx rfl (pc0 := 104) (pc' := 108) rfl (hb hby at_104) (by decide) (by decide) ?_
      try simp only [if_pos hc100] at k
      try simp only [if_pos hc100]
      exact k
    · show Steps p.tables e below (T1106.setTop (mkF m 100 #[.val (.long q0), .second, .val (.long q1), .second, .val (.long q2), .second, .val (.int p3), .val (.int p4), .val (.ref b929), .val (.long ((q0 + ((p3 &&& (3 : Int32)).toInt64)) - (1 : Int64))), .second, .val (.long ((q1 + (((Jvm.Free.XT.ushr p3 (2 : Int32)) &&& (3 : Int32)).toInt64)) - (1 : Int64))), .second, .val (.int (if (isR_r ((q0 + ((p3 &&& (3 : Int32)).toInt64)) - (1 : Int64)) q0) = (if ((q0 + ((p3 &&& (3 : Int32)).toInt64)) - (1 : Int64)) = q0 then (1 : Int32) else (0 : Int32)) then (1 : Int32) else (0 : Int32))), .unset, .unset, .unset, .unset, .unset] [(.int (if q2 = q0 then (1 : Int32) else (0 : Int32))), (.int (isR_r q2 q0))])) t
      refine XS.icmpYes X1106.here hx rfl (pc0 := 100) (pc' := 107) rfl (hb hby at_100) rfl (feq hc100).2 (by decide) (by decide) ?_
      show Steps p.tables e below (T1106.setTop (mkF m 107 #[.val (.long q0), .second, .val (.long q1), .second, .val (.long q2), .second, .val (.int p3), .val (.int p4), .val (.ref b929), .val (.long ((q0 + ((p3 &&& (3 : Int32)).toInt64)) - (1 : Int64))), .second, .val (.long ((q1 + (((Jvm.Free.XT.ushr p3 (2 : Int32)) &&& (3 : Int32)).toInt64)) - (1 : Int64))), .second, .val (.int (if (isR_r ((q0 + ((p3 &&& (3 : Int32)).toInt64)) - (1 : Int64)) q0) = (if ((q0 + ((p3 &&& (3 : Int32)).toInt64)) - (1 : Int64)) = q0 then (1 : Int32) else (0 : Int32)) then (1 : Int32) else (0 : Int32))), .unset, .unset, .unset, .unset, .unset] [])) t
      refine XS.iconst X1106.here hx rfl (hb hby at_107) ?_
      try simp only [if_neg hc100] at k
      try simp only [if_neg hc100]
      exact k
  refine own_goW (S' := T1106.setTop (mkF m 117 #[.val (.long q0), .second, .val (.long q1), .second, .val (.long q2), .second, .val (.int p3), .val (.int p4), .val (.ref b929), .val (.long ((q0 + ((p3 &&& (3 : Int32)).toInt64)) - (1 : Int64))), .second, .val (.long ((q1 + (((Jvm.Free.XT.ushr p3 (2 : Int32)) &&& (3 : Int32)).toInt64)) - (1 : Int64))), .second, .val (.int (if (isR_r ((q0 + ((p3 &&& (3 : Int32)).toInt64)) - (1 : Int64)) q0) = (if ((q0 + ((p3 &&& (3 : Int32)).toInt64)) - (1 : Int64)) = q0 then (1 : Int32) else (0 : Int32)) then (1 : Int32) else (0 : Int32))), .val (.int (if (isR_r q2 q0) = (if q2 = q0 then (1 : Int32) else (0 : Int32)) then (1 : Int32) else (0 : Int32))), .unset, .unset, .unset, .unset] [(.int (p4 ^^^ (1 : Int32))), (.long q1), (.ref b929)])) (fun t k => ?_) ?_
  · show Steps p.tables e below (T1106.setTop (mkF m 108 #[.val (.long q0), .second, .val (.long q1), .second, .val (.long q2), .second, .val (.int p3), .val (.int p4), .val (.ref b929), .val (.long ((q0 + ((p3 &&& (3 : Int32)).toInt64)) - (1 : Int64))), .second, .val (.long ((q1 + (((Jvm.Free.XT.ushr p3 (2 : Int32)) &&& (3 : Int32)).toInt64)) - (1 : Int64))), .second, .val (.int (if (isR_r ((q0 + ((p3 &&& (3 : Int32)).toInt64)) - (1 : Int64)) q0) = (if ((q0 + ((p3 &&& (3 : Int32)).toInt64)) - (1 : Int64)) = q0 then (1 : Int32) else (0 : Int32)) then (1 : Int32) else (0 : Int32))), .unset, .unset, .unset, .unset, .unset] [(.int (if (isR_r q2 q0) = (if q2 = q0 then (1 : Int32) else (0 : Int32)) then (1 : Int32) else (0 : Int32)))])) t
    refine XS.istore X1106.here hx rfl (hb hby at_108) rfl (l' := #[.val (.long q0), .second, .val (.long q1), .second, .val (.long q2), .second, .val (.int p3), .val (.int p4), .val (.ref b929), .val (.long ((q0 + ((p3 &&& (3 : Int32)).toInt64)) - (1 : Int64))), .second, .val (.long ((q1 + (((Jvm.Free.XT.ushr p3 (2 : Int32)) &&& (3 : Int32)).toInt64)) - (1 : Int64))), .second, .val (.int (if (isR_r ((q0 + ((p3 &&& (3 : Int32)).toInt64)) - (1 : Int64)) q0) = (if ((q0 + ((p3 &&& (3 : Int32)).toInt64)) - (1 : Int64)) = q0 then (1 : Int32) else (0 : Int32)) then (1 : Int32) else (0 : Int32))), .val (.int (if (isR_r q2 q0) = (if q2 = q0 then (1 : Int32) else (0 : Int32)) then (1 : Int32) else (0 : Int32))), .unset, .unset, .unset, .unset]) rfl ?_
    show Steps p.tables e below (T1106.setTop (mkF m 110 #[.val (.long q0), .second, .val (.long q1), .second, .val (.long q2), .second, .val (.int p3), .val (.int p4), .val (.ref b929), .val (.long ((q0 + ((p3 &&& (3 : Int32)).toInt64)) - (1 : Int64))), .second, .val (.long ((q1 + (((Jvm.Free.XT.ushr p3 (2 : Int32)) &&& (3 : Int32)).toInt64)) - (1 : Int64))), .second, .val (.int (if (isR_r ((q0 + ((p3 &&& (3 : Int32)).toInt64)) - (1 : Int64)) q0) = (if ((q0 + ((p3 &&& (3 : Int32)).toInt64)) - (1 : Int64)) = q0 then (1 : Int32) else (0 : Int32)) then (1 : Int32) else (0 : Int32))), .val (.int (if (isR_r q2 q0) = (if q2 = q0 then (1 : Int32) else (0 : Int32)) then (1 : Int32) else (0 : Int32))), .unset, .unset, .unset, .unset] [])) t
    refine XS.aload X1106.here hx rfl (hb hby at_110) rfl rfl ?_
    show Steps p.tables e below (T1106.setTop (mkF m 112 #[.val (.long q0), .second, .val (.long q1), .second, .val (.long q2), .second, .val (.int p3), .val (.int p4), .val (.ref b929), .val (.long ((q0 + ((p3 &&& (3 : Int32)).toInt64)) - (1 : Int64))), .second, .val (.long ((q1 + (((Jvm.Free.XT.ushr p3 (2 : Int32)) &&& (3 : Int32)).toInt64)) - (1 : Int64))), .second, .val (.int (if (isR_r ((q0 + ((p3 &&& (3 : Int32)).toInt64)) - (1 : Int64)) q0) = (if ((q0 + ((p3 &&& (3 : Int32)).toInt64)) - (1 : Int64)) = q0 then (1 : Int32) else (0 : Int32)) then (1 : Int32) else (0 : Int32))), .val (.int (if (isR_r q2 q0) = (if q2 = q0 then (1 : Int32) else (0 : Int32)) then (1 : Int32) else (0 : Int32))), .unset, .unset, .unset, .unset] [(.ref b929)])) t
    refine XS.lloadN X1106.here hx rfl (hb hby at_112) rfl ?_
    show Steps p.tables e below (T1106.setTop (mkF m 113 #[.val (.long q0), .second, .val (.long q1), .second, .val (.long q2), .second, .val (.int p3), .val (.int p4), .val (.ref b929), .val (.long ((q0 + ((p3 &&& (3 : Int32)).toInt64)) - (1 : Int64))), .second, .val (.long ((q1 + (((Jvm.Free.XT.ushr p3 (2 : Int32)) &&& (3 : Int32)).toInt64)) - (1 : Int64))), .second, .val (.int (if (isR_r ((q0 + ((p3 &&& (3 : Int32)).toInt64)) - (1 : Int64)) q0) = (if ((q0 + ((p3 &&& (3 : Int32)).toInt64)) - (1 : Int64)) = q0 then (1 : Int32) else (0 : Int32)) then (1 : Int32) else (0 : Int32))), .val (.int (if (isR_r q2 q0) = (if q2 = q0 then (1 : Int32) else (0 : Int32)) then (1 : Int32) else (0 : Int32))), .unset, .unset, .unset, .unset] [(.long q1), (.ref b929)])) t
    refine XS.iload X1106.here hx rfl (hb hby at_113) rfl ?_
    show Steps p.tables e below (T1106.setTop (mkF m 115 #[.val (.long q0), .second, .val (.long q1), .second, .val (.long q2), .second, .val (.int p3), .val (.int p4), .val (.ref b929), .val (.long ((q0 + ((p3 &&& (3 : Int32)).toInt64)) - (1 : Int64))), .second, .val (.long ((q1 + (((Jvm.Free.XT.ushr p3 (2 : Int32)) &&& (3 : Int32)).toInt64)) - (1 : Int64))), .second, .val (.int (if (isR_r ((q0 + ((p3 &&& (3 : Int32)).toInt64)) - (1 : Int64)) q0) = (if ((q0 + ((p3 &&& (3 : Int32)).toInt64)) - (1 : Int64)) = q0 then (1 : Int32) else (0 : Int32)) then (1 : Int32) else (0 : Int32))), .val (.int (if (isR_r q2 q0) = (if q2 = q0 then (1 : Int32) else (0 : Int32)) then (1 : Int32) else (0 : Int32))), .unset, .unset, .unset, .unset] [(.int p4), (.long q1), (.ref b929)])) t
    refine XS.iconst X1106.here hx rfl (hb hby at_115) ?_
    show Steps p.tables e below (T1106.setTop (mkF m 116 #[.val (.long q0), .second, .val (.long q1), .second, .val (.long q2), .second, .val (.int p3), .val (.int p4), .val (.ref b929), .val (.long ((q0 + ((p3 &&& (3 : Int32)).toInt64)) - (1 : Int64))), .second, .val (.long ((q1 + (((Jvm.Free.XT.ushr p3 (2 : Int32)) &&& (3 : Int32)).toInt64)) - (1 : Int64))), .second, .val (.int (if (isR_r ((q0 + ((p3 &&& (3 : Int32)).toInt64)) - (1 : Int64)) q0) = (if ((q0 + ((p3 &&& (3 : Int32)).toInt64)) - (1 : Int64)) = q0 then (1 : Int32) else (0 : Int32)) then (1 : Int32) else (0 : Int32))), .val (.int (if (isR_r q2 q0) = (if q2 = q0 then (1 : Int32) else (0 : Int32)) then (1 : Int32) else (0 : Int32))), .unset, .unset, .unset, .unset] [(.int (1 : Int32)), (.int p4), (.long q1), (.ref b929)])) t
    refine XS.ixor X1106.here hx rfl (hb hby at_116) rfl ?_
    exact k
  obtain ⟨cq1110, kq1110, qa1110, qb1110, qc1110⟩ := isOf hZ e1106 p1081
  obtain ⟨_, _, ⟨T1110, L1110, kk1110, nn1110⟩, -, X1110, ⟨Lc1110, hQ1110, l1110, y1110, z1110⟩, st1110⟩ := X1106.virtualBack hx (y := (⟨"com/example/perigo/perigo/engine/network/Node", "markReached", "(JI)V"⟩ : MethodName)) (z := (⟨"com/example/perigo/perigo/engine/network/Node", "markReached", "(JI)V"⟩ : MethodName)) hown (mvT hZ (hw _ (List.mem_of_getElem? (i := 132) rfl))) (mvT hZ (hw _ (List.mem_of_getElem? (i := 133) rfl))) (notFace_of_selects (args := #[]) (mvT hZ (hw _ (List.mem_of_getElem? (i := 135) rfl)))) (mvT hZ (hw _ (List.mem_of_getElem? (i := 135) rfl))) (mvT hZ (hw _ (List.mem_of_getElem? (i := 134) rfl))) (by decide) (backOf (W := 0) (mark l Z a0 hw [] b929 q1 (p4 ^^^ (1 : Int32)) q0 p4 T1078.heap n0 Z1100 p1081 p1082 p1083 g_b929) hZ (hw _ (List.mem_of_getElem? (i := 136) rfl)) (hw _ (List.mem_of_getElem? (i := 2) rfl)) (by decide) (by decide)) qa1110 qc1110 (g := (mkF m 117 #[.val (.long q0), .second, .val (.long q1), .second, .val (.long q2), .second, .val (.int p3), .val (.int p4), .val (.ref b929), .val (.long ((q0 + ((p3 &&& (3 : Int32)).toInt64)) - (1 : Int64))), .second, .val (.long ((q1 + (((Jvm.Free.XT.ushr p3 (2 : Int32)) &&& (3 : Int32)).toInt64)) - (1 : Int64))), .second, .val (.int (if (isR_r ((q0 + ((p3 &&& (3 : Int32)).toInt64)) - (1 : Int64)) q0) = (if ((q0 + ((p3 &&& (3 : Int32)).toInt64)) - (1 : Int64)) = q0 then (1 : Int32) else (0 : Int32)) then (1 : Int32) else (0 : Int32))), .val (.int (if (isR_r q2 q0) = (if q2 = q0 then (1 : Int32) else (0 : Int32)) then (1 : Int32) else (0 : Int32))), .unset, .unset, .unset, .unset] [(.int (p4 ^^^ (1 : Int32))), (.long q1), (.ref b929)])) rfl (by rw [hml]; rfl) (Steps.refl _) (argsL := [(.long q1), (.int (p4 ^^^ (1 : Int32)))]) (rest := []) (lenOf pd_212 rfl) rfl (by show 2 * 0 + _ ≤ _; exact Nat.le_of_eq rfl) (hb hby at_117) (fun _ _ => ⟨rfl, e1106, (by decide : 25 + 0 ≤ _), (by decide : 129 + 0 ≤ _)⟩)
  dsimp only [Pt.U, Pt.locs, Pt.cells, Pt.slots] at X1110 l1110 y1110 z1110 st1110 hQ1110
  subst l1110 y1110 z1110
  obtain ⟨rfl, N1111, K1112, p1113, p1114, p1115⟩ := hQ1110
  have N1116 := Fr.app N1109 N1111
  have f1117 : Old Z n0 T1110.heap := f1085.keep K1112 (allS g_b929 all0)
  have f1118 : Sta Z T1110.heap "java/lang/String" "COMPACT_STRINGS" "Z" (.int w_s_COMPACT_STRINGS) := own_sta_keep f1086 K1112 (allS (own_plain p1081) all0)
  have f1119 : Sta Z T1110.heap "jdk/internal/util/Preconditions" "SIOOBE_FORMATTER" "Ljava/util/function/BiFunction;" w_s_SIOOBE_FORMATTER := own_sta_keep f1087 K1112 (allS (own_plain p1081) all0)
  have f1120 : Exa Z T1110.heap b929 "com/example/perigo/perigo/engine/network/Node" := p1081.keep K1112
  have f1121 : Exa Z T1110.heap b947 "com/example/perigo/perigo/engine/event/Medium" := f1089.keep K1112
  have f1122 : Exa Z T1110.heap b969 "java/lang/String" := f1090.keep K1112
  have f1123 : Fld Z T1110.heap b969 "java/lang/String" "coder" "B" (.int (0 : Int32)) := f1091.keep K1112 (ninS (ne_exa f1090 p1081 (by decide)) nin0)
  have f1124 : Fld Z T1110.heap b969 "java/lang/String" "value" "[B" (.ref bb969) := f1092.keep K1112 (ninS (ne_exa f1090 p1081 (by decide)) nin0)
  have f1125 : own_Arv Z T1110.heap bb969 .byte (4 : Int32) [(.int (99 : Int32)), (.int (97 : Int32)), (.int (114 : Int32)), (.int (100 : Int32))] (.int (0 : Int32)) := f1093.keep K1112 (ninS (Ne.symm (own_neA p1081 f1093 (hw _ (List.mem_of_getElem? (i := 1) rfl)))) nin0)
  have f1126 : Exa Z T1110.heap b992 "java/lang/String" := f1094.keep K1112
  have f1127 : Fld Z T1110.heap b992 "java/lang/String" "coder" "B" (.int (0 : Int32)) := f1095.keep K1112 (ninS (ne_exa f1094 p1081 (by decide)) nin0)
  have f1128 : Fld Z T1110.heap b992 "java/lang/String" "value" "[B" (.ref bb992) := f1096.keep K1112 (ninS (ne_exa f1094 p1081 (by decide)) nin0)
  have f1129 : own_Arv Z T1110.heap bb992 .byte (1 : Int32) [(.int (49 : Int32))] (.int (0 : Int32)) := f1097.keep K1112 (ninS (Ne.symm (own_neA p1081 f1097 (hw _ (List.mem_of_getElem? (i := 1) rfl)))) nin0)
  have f1130 : Fld Z T1110.heap b947 "com/example/perigo/perigo/engine/event/Medium" "kind" "Ljava/lang/String;" (.ref b969) := f1098.keep K1112 (ninS (Ne.symm ne948) nin0)
  have f1131 : Fld Z T1110.heap b947 "com/example/perigo/perigo/engine/event/Medium" "value" "Ljava/lang/String;" (.ref b992) := f1099.keep K1112 (ninS (Ne.symm ne948) nin0)
  have Z1132 : n0 ≤ T1110.heap.size := Nat.le_trans Z1100 K1112.1
  have hk1133 := Nat.le_trans hk1101 K1112.1
  refine own_goTW st1110 ?_
  refine own_goW (S' := T1110.setTop (mkF m 123 #[.val (.long q0), .second, .val (.long q1), .second, .val (.long q2), .second, .val (.int p3), .val (.int p4), .val (.ref b929), .val (.long ((q0 + ((p3 &&& (3 : Int32)).toInt64)) - (1 : Int64))), .second, .val (.long ((q1 + (((Jvm.Free.XT.ushr p3 (2 : Int32)) &&& (3 : Int32)).toInt64)) - (1 : Int64))), .second, .val (.int (if (isR_r ((q0 + ((p3 &&& (3 : Int32)).toInt64)) - (1 : Int64)) q0) = (if ((q0 + ((p3 &&& (3 : Int32)).toInt64)) - (1 : Int64)) = q0 then (1 : Int32) else (0 : Int32)) then (1 : Int32) else (0 : Int32))), .val (.int (if (isR_r q2 q0) = (if q2 = q0 then (1 : Int32) else (0 : Int32)) then (1 : Int32) else (0 : Int32))), .unset, .unset, .unset, .unset] [(.long q1), (.ref b929)])) (fun t k => ?_) ?_
  · show Steps p.tables e below (T1110.setTop (mkF m 120 #[.val (.long q0), .second, .val (.long q1), .second, .val (.long q2), .second, .val (.int p3), .val (.int p4), .val (.ref b929), .val (.long ((q0 + ((p3 &&& (3 : Int32)).toInt64)) - (1 : Int64))), .second, .val (.long ((q1 + (((Jvm.Free.XT.ushr p3 (2 : Int32)) &&& (3 : Int32)).toInt64)) - (1 : Int64))), .second, .val (.int (if (isR_r ((q0 + ((p3 &&& (3 : Int32)).toInt64)) - (1 : Int64)) q0) = (if ((q0 + ((p3 &&& (3 : Int32)).toInt64)) - (1 : Int64)) = q0 then (1 : Int32) else (0 : Int32)) then (1 : Int32) else (0 : Int32))), .val (.int (if (isR_r q2 q0) = (if q2 = q0 then (1 : Int32) else (0 : Int32)) then (1 : Int32) else (0 : Int32))), .unset, .unset, .unset, .unset] [])) t
    refine XS.aload X1110.here hx rfl (hb hby at_120) rfl rfl ?_
    show Steps p.tables e below (T1110.setTop (mkF m 122 #[.val (.long q0), .second, .val (.long q1), .second, .val (.long q2), .second, .val (.int p3), .val (.int p4), .val (.ref b929), .val (.long ((q0 + ((p3 &&& (3 : Int32)).toInt64)) - (1 : Int64))), .second, .val (.long ((q1 + (((Jvm.Free.XT.ushr p3 (2 : Int32)) &&& (3 : Int32)).toInt64)) - (1 : Int64))), .second, .val (.int (if (isR_r ((q0 + ((p3 &&& (3 : Int32)).toInt64)) - (1 : Int64)) q0) = (if ((q0 + ((p3 &&& (3 : Int32)).toInt64)) - (1 : Int64)) = q0 then (1 : Int32) else (0 : Int32)) then (1 : Int32) else (0 : Int32))), .val (.int (if (isR_r q2 q0) = (if q2 = q0 then (1 : Int32) else (0 : Int32)) then (1 : Int32) else (0 : Int32))), .unset, .unset, .unset, .unset] [(.ref b929)])) t
    refine XS.lloadN X1110.here hx rfl (hb hby at_122) rfl ?_
    exact k
  obtain ⟨cq1134, kq1134, qa1134, qb1134, qc1134⟩ := isOf hZ rfl p1113
  obtain ⟨_, _, ⟨T1134, L1134, kk1134, nn1134⟩, -, X1134, ⟨Lc1134, hQ1134, l1134, y1134, z1134⟩, st1134⟩ := X1110.virtualBack hx (y := (⟨"com/example/perigo/perigo/engine/network/Node", "isReachedBy", "(J)Z"⟩ : MethodName)) (z := (⟨"com/example/perigo/perigo/engine/network/Node", "isReachedBy", "(J)Z"⟩ : MethodName)) hown (mvT hZ (hw _ (List.mem_of_getElem? (i := 141) rfl))) (mvT hZ (hw _ (List.mem_of_getElem? (i := 142) rfl))) (notFace_of_selects (args := #[]) (mvT hZ (hw _ (List.mem_of_getElem? (i := 144) rfl)))) (mvT hZ (hw _ (List.mem_of_getElem? (i := 144) rfl))) (mvT hZ (hw _ (List.mem_of_getElem? (i := 143) rfl))) (by decide) (backOf (W := 0) (isR l Z a0 hw [] b929 q1 q1 T1110.heap n0 Z1132 p1114) hZ (hw _ (List.mem_of_getElem? (i := 145) rfl)) (hw _ (List.mem_of_getElem? (i := 2) rfl)) (by decide) (by decide)) qa1134 qc1134 (g := (mkF m 123 #[.val (.long q0), .second, .val (.long q1), .second, .val (.long q2), .second, .val (.int p3), .val (.int p4), .val (.ref b929), .val (.long ((q0 + ((p3 &&& (3 : Int32)).toInt64)) - (1 : Int64))), .second, .val (.long ((q1 + (((Jvm.Free.XT.ushr p3 (2 : Int32)) &&& (3 : Int32)).toInt64)) - (1 : Int64))), .second, .val (.int (if (isR_r ((q0 + ((p3 &&& (3 : Int32)).toInt64)) - (1 : Int64)) q0) = (if ((q0 + ((p3 &&& (3 : Int32)).toInt64)) - (1 : Int64)) = q0 then (1 : Int32) else (0 : Int32)) then (1 : Int32) else (0 : Int32))), .val (.int (if (isR_r q2 q0) = (if q2 = q0 then (1 : Int32) else (0 : Int32)) then (1 : Int32) else (0 : Int32))), .unset, .unset, .unset, .unset] [(.long q1), (.ref b929)])) rfl (by rw [hml]; rfl) (Steps.refl _) (argsL := [(.long q1)]) (rest := []) (lenOf pd_213 rfl) rfl (by show 2 * 0 + _ ≤ _; exact Nat.le_of_eq rfl) (hb hby at_123) (fun _ _ => ⟨rfl, rfl, (by decide : 25 + 0 ≤ _), (by decide : 129 + 0 ≤ _)⟩)
  dsimp only [Pt.U, Pt.locs, Pt.cells, Pt.slots] at X1134 l1134 y1134 z1134 st1134 hQ1134
  subst l1134 y1134 z1134
  obtain ⟨rfl, N1135, e1134⟩ := hQ1134
  have N1137 := Fr.app N1116 N1135
  refine own_goTW st1134 ?_
  refine own_goW (S' := T1134.setTop (mkF m 132 #[.val (.long q0), .second, .val (.long q1), .second, .val (.long q2), .second, .val (.int p3), .val (.int p4), .val (.ref b929), .val (.long ((q0 + ((p3 &&& (3 : Int32)).toInt64)) - (1 : Int64))), .second, .val (.long ((q1 + (((Jvm.Free.XT.ushr p3 (2 : Int32)) &&& (3 : Int32)).toInt64)) - (1 : Int64))), .second, .val (.int (if (isR_r ((q0 + ((p3 &&& (3 : Int32)).toInt64)) - (1 : Int64)) q0) = (if ((q0 + ((p3 &&& (3 : Int32)).toInt64)) - (1 : Int64)) = q0 then (1 : Int32) else (0 : Int32)) then (1 : Int32) else (0 : Int32))), .val (.int (if (isR_r q2 q0) = (if q2 = q0 then (1 : Int32) else (0 : Int32)) then (1 : Int32) else (0 : Int32))), .val (.int (isR_r q1 q1)), .unset, .unset, .unset] [(.long ((q1 + (((Jvm.Free.XT.ushr p3 (2 : Int32)) &&& (3 : Int32)).toInt64)) - (1 : Int64))), (.ref b929)])) (fun t k => ?_) ?_
  · show Steps p.tables e below (T1134.setTop (mkF m 126 #[.val (.long q0), .second, .val (.long q1), .second, .val (.long q2), .second, .val (.int p3), .val (.int p4), .val (.ref b929), .val (.long ((q0 + ((p3 &&& (3 : Int32)).toInt64)) - (1 : Int64))), .second, .val (.long ((q1 + (((Jvm.Free.XT.ushr p3 (2 : Int32)) &&& (3 : Int32)).toInt64)) - (1 : Int64))), .second, .val (.int (if (isR_r ((q0 + ((p3 &&& (3 : Int32)).toInt64)) - (1 : Int64)) q0) = (if ((q0 + ((p3 &&& (3 : Int32)).toInt64)) - (1 : Int64)) = q0 then (1 : Int32) else (0 : Int32)) then (1 : Int32) else (0 : Int32))), .val (.int (if (isR_r q2 q0) = (if q2 = q0 then (1 : Int32) else (0 : Int32)) then (1 : Int32) else (0 : Int32))), .unset, .unset, .unset, .unset] [(.int (isR_r q1 q1))])) t
    refine XS.istore X1134.here hx rfl (hb hby at_126) rfl (l' := #[.val (.long q0), .second, .val (.long q1), .second, .val (.long q2), .second, .val (.int p3), .val (.int p4), .val (.ref b929), .val (.long ((q0 + ((p3 &&& (3 : Int32)).toInt64)) - (1 : Int64))), .second, .val (.long ((q1 + (((Jvm.Free.XT.ushr p3 (2 : Int32)) &&& (3 : Int32)).toInt64)) - (1 : Int64))), .second, .val (.int (if (isR_r ((q0 + ((p3 &&& (3 : Int32)).toInt64)) - (1 : Int64)) q0) = (if ((q0 + ((p3 &&& (3 : Int32)).toInt64)) - (1 : Int64)) = q0 then (1 : Int32) else (0 : Int32)) then (1 : Int32) else (0 : Int32))), .val (.int (if (isR_r q2 q0) = (if q2 = q0 then (1 : Int32) else (0 : Int32)) then (1 : Int32) else (0 : Int32))), .val (.int (isR_r q1 q1)), .unset, .unset, .unset]) rfl ?_
    show Steps p.tables e below (T1134.setTop (mkF m 128 #[.val (.long q0), .second, .val (.long q1), .second, .val (.long q2), .second, .val (.int p3), .val (.int p4), .val (.ref b929), .val (.long ((q0 + ((p3 &&& (3 : Int32)).toInt64)) - (1 : Int64))), .second, .val (.long ((q1 + (((Jvm.Free.XT.ushr p3 (2 : Int32)) &&& (3 : Int32)).toInt64)) - (1 : Int64))), .second, .val (.int (if (isR_r ((q0 + ((p3 &&& (3 : Int32)).toInt64)) - (1 : Int64)) q0) = (if ((q0 + ((p3 &&& (3 : Int32)).toInt64)) - (1 : Int64)) = q0 then (1 : Int32) else (0 : Int32)) then (1 : Int32) else (0 : Int32))), .val (.int (if (isR_r q2 q0) = (if q2 = q0 then (1 : Int32) else (0 : Int32)) then (1 : Int32) else (0 : Int32))), .val (.int (isR_r q1 q1)), .unset, .unset, .unset] [])) t
    refine XS.aload X1134.here hx rfl (hb hby at_128) rfl rfl ?_
    show Steps p.tables e below (T1134.setTop (mkF m 130 #[.val (.long q0), .second, .val (.long q1), .second, .val (.long q2), .second, .val (.int p3), .val (.int p4), .val (.ref b929), .val (.long ((q0 + ((p3 &&& (3 : Int32)).toInt64)) - (1 : Int64))), .second, .val (.long ((q1 + (((Jvm.Free.XT.ushr p3 (2 : Int32)) &&& (3 : Int32)).toInt64)) - (1 : Int64))), .second, .val (.int (if (isR_r ((q0 + ((p3 &&& (3 : Int32)).toInt64)) - (1 : Int64)) q0) = (if ((q0 + ((p3 &&& (3 : Int32)).toInt64)) - (1 : Int64)) = q0 then (1 : Int32) else (0 : Int32)) then (1 : Int32) else (0 : Int32))), .val (.int (if (isR_r q2 q0) = (if q2 = q0 then (1 : Int32) else (0 : Int32)) then (1 : Int32) else (0 : Int32))), .val (.int (isR_r q1 q1)), .unset, .unset, .unset] [(.ref b929)])) t
    refine XS.lload X1134.here hx rfl (hb hby at_130) rfl ?_
    exact k
  obtain ⟨cq1138, kq1138, qa1138, qb1138, qc1138⟩ := isOf hZ e1134 p1113
  obtain ⟨_, _, ⟨T1138, L1138, kk1138, nn1138⟩, -, X1138, ⟨Lc1138, hQ1138, l1138, y1138, z1138⟩, st1138⟩ := X1134.virtualBack hx (y := (⟨"com/example/perigo/perigo/engine/network/Node", "isReachedBy", "(J)Z"⟩ : MethodName)) (z := (⟨"com/example/perigo/perigo/engine/network/Node", "isReachedBy", "(J)Z"⟩ : MethodName)) hown (mvT hZ (hw _ (List.mem_of_getElem? (i := 141) rfl))) (mvT hZ (hw _ (List.mem_of_getElem? (i := 142) rfl))) (notFace_of_selects (args := #[]) (mvT hZ (hw _ (List.mem_of_getElem? (i := 144) rfl)))) (mvT hZ (hw _ (List.mem_of_getElem? (i := 144) rfl))) (mvT hZ (hw _ (List.mem_of_getElem? (i := 143) rfl))) (by decide) (backOf (W := 0) (isR l Z a0 hw [] b929 ((q1 + (((Jvm.Free.XT.ushr p3 (2 : Int32)) &&& (3 : Int32)).toInt64)) - (1 : Int64)) q1 T1110.heap n0 Z1132 p1114) hZ (hw _ (List.mem_of_getElem? (i := 145) rfl)) (hw _ (List.mem_of_getElem? (i := 2) rfl)) (by decide) (by decide)) qa1138 qc1138 (g := (mkF m 132 #[.val (.long q0), .second, .val (.long q1), .second, .val (.long q2), .second, .val (.int p3), .val (.int p4), .val (.ref b929), .val (.long ((q0 + ((p3 &&& (3 : Int32)).toInt64)) - (1 : Int64))), .second, .val (.long ((q1 + (((Jvm.Free.XT.ushr p3 (2 : Int32)) &&& (3 : Int32)).toInt64)) - (1 : Int64))), .second, .val (.int (if (isR_r ((q0 + ((p3 &&& (3 : Int32)).toInt64)) - (1 : Int64)) q0) = (if ((q0 + ((p3 &&& (3 : Int32)).toInt64)) - (1 : Int64)) = q0 then (1 : Int32) else (0 : Int32)) then (1 : Int32) else (0 : Int32))), .val (.int (if (isR_r q2 q0) = (if q2 = q0 then (1 : Int32) else (0 : Int32)) then (1 : Int32) else (0 : Int32))), .val (.int (isR_r q1 q1)), .unset, .unset, .unset] [(.long ((q1 + (((Jvm.Free.XT.ushr p3 (2 : Int32)) &&& (3 : Int32)).toInt64)) - (1 : Int64))), (.ref b929)])) rfl (by rw [hml]; rfl) (Steps.refl _) (argsL := [(.long ((q1 + (((Jvm.Free.XT.ushr p3 (2 : Int32)) &&& (3 : Int32)).toInt64)) - (1 : Int64)))]) (rest := []) (lenOf pd_213 rfl) rfl (by show 2 * 0 + _ ≤ _; exact Nat.le_of_eq rfl) (hb hby at_132) (fun _ _ => ⟨rfl, e1134, (by decide : 25 + 0 ≤ _), (by decide : 129 + 0 ≤ _)⟩)
  dsimp only [Pt.U, Pt.locs, Pt.cells, Pt.slots] at X1138 l1138 y1138 z1138 st1138 hQ1138
  subst l1138 y1138 z1138
  obtain ⟨rfl, N1139, e1138⟩ := hQ1138
  have N1141 := Fr.app N1137 N1139
  refine own_goTW st1138 ?_
  refine own_goW (S' := T1138.setTop (mkF m 139 #[.val (.long q0), .second, .val (.long q1), .second, .val (.long q2), .second, .val (.int p3), .val (.int p4), .val (.ref b929), .val (.long ((q0 + ((p3 &&& (3 : Int32)).toInt64)) - (1 : Int64))), .second, .val (.long ((q1 + (((Jvm.Free.XT.ushr p3 (2 : Int32)) &&& (3 : Int32)).toInt64)) - (1 : Int64))), .second, .val (.int (if (isR_r ((q0 + ((p3 &&& (3 : Int32)).toInt64)) - (1 : Int64)) q0) = (if ((q0 + ((p3 &&& (3 : Int32)).toInt64)) - (1 : Int64)) = q0 then (1 : Int32) else (0 : Int32)) then (1 : Int32) else (0 : Int32))), .val (.int (if (isR_r q2 q0) = (if q2 = q0 then (1 : Int32) else (0 : Int32)) then (1 : Int32) else (0 : Int32))), .val (.int (isR_r q1 q1)), .unset, .unset, .unset] [(.int (Jvm.Free.XT.cmpL ((q1 + (((Jvm.Free.XT.ushr p3 (2 : Int32)) &&& (3 : Int32)).toInt64)) - (1 : Int64)) q1)), (.int (isR_r ((q1 + (((Jvm.Free.XT.ushr p3 (2 : Int32)) &&& (3 : Int32)).toInt64)) - (1 : Int64)) q1))])) (fun t k => ?_) ?_
  · show Steps p.tables e below (T1138.setTop (mkF m 135 #[.val (.long q0), .second, .val (.long q1), .second, .val (.long q2), .second, .val (.int p3), .val (.int p4), .val (.ref b929), .val (.long ((q0 + ((p3 &&& (3 : Int32)).toInt64)) - (1 : Int64))), .second, .val (.long ((q1 + (((Jvm.Free.XT.ushr p3 (2 : Int32)) &&& (3 : Int32)).toInt64)) - (1 : Int64))), .second, .val (.int (if (isR_r ((q0 + ((p3 &&& (3 : Int32)).toInt64)) - (1 : Int64)) q0) = (if ((q0 + ((p3 &&& (3 : Int32)).toInt64)) - (1 : Int64)) = q0 then (1 : Int32) else (0 : Int32)) then (1 : Int32) else (0 : Int32))), .val (.int (if (isR_r q2 q0) = (if q2 = q0 then (1 : Int32) else (0 : Int32)) then (1 : Int32) else (0 : Int32))), .val (.int (isR_r q1 q1)), .unset, .unset, .unset] [(.int (isR_r ((q1 + (((Jvm.Free.XT.ushr p3 (2 : Int32)) &&& (3 : Int32)).toInt64)) - (1 : Int64)) q1))])) t
    refine XS.lload X1138.here hx rfl (hb hby at_135) rfl ?_
    show Steps p.tables e below (T1138.setTop (mkF m 137 #[.val (.long q0), .second, .val (.long q1), .second, .val (.long q2), .second, .val (.int p3), .val (.int p4), .val (.ref b929), .val (.long ((q0 + ((p3 &&& (3 : Int32)).toInt64)) - (1 : Int64))), .second, .val (.long ((q1 + (((Jvm.Free.XT.ushr p3 (2 : Int32)) &&& (3 : Int32)).toInt64)) - (1 : Int64))), .second, .val (.int (if (isR_r ((q0 + ((p3 &&& (3 : Int32)).toInt64)) - (1 : Int64)) q0) = (if ((q0 + ((p3 &&& (3 : Int32)).toInt64)) - (1 : Int64)) = q0 then (1 : Int32) else (0 : Int32)) then (1 : Int32) else (0 : Int32))), .val (.int (if (isR_r q2 q0) = (if q2 = q0 then (1 : Int32) else (0 : Int32)) then (1 : Int32) else (0 : Int32))), .val (.int (isR_r q1 q1)), .unset, .unset, .unset] [(.long ((q1 + (((Jvm.Free.XT.ushr p3 (2 : Int32)) &&& (3 : Int32)).toInt64)) - (1 : Int64))), (.int (isR_r ((q1 + (((Jvm.Free.XT.ushr p3 (2 : Int32)) &&& (3 : Int32)).toInt64)) - (1 : Int64)) q1))])) t
    refine XS.lloadN X1138.here hx rfl (hb hby at_137) rfl ?_
    show Steps p.tables e below (T1138.setTop (mkF m 138 #[.val (.long q0), .second, .val (.long q1), .second, .val (.long q2), .second, .val (.int p3), .val (.int p4), .val (.ref b929), .val (.long ((q0 + ((p3 &&& (3 : Int32)).toInt64)) - (1 : Int64))), .second, .val (.long ((q1 + (((Jvm.Free.XT.ushr p3 (2 : Int32)) &&& (3 : Int32)).toInt64)) - (1 : Int64))), .second, .val (.int (if (isR_r ((q0 + ((p3 &&& (3 : Int32)).toInt64)) - (1 : Int64)) q0) = (if ((q0 + ((p3 &&& (3 : Int32)).toInt64)) - (1 : Int64)) = q0 then (1 : Int32) else (0 : Int32)) then (1 : Int32) else (0 : Int32))), .val (.int (if (isR_r q2 q0) = (if q2 = q0 then (1 : Int32) else (0 : Int32)) then (1 : Int32) else (0 : Int32))), .val (.int (isR_r q1 q1)), .unset, .unset, .unset] [(.long q1), (.long ((q1 + (((Jvm.Free.XT.ushr p3 (2 : Int32)) &&& (3 : Int32)).toInt64)) - (1 : Int64))), (.int (isR_r ((q1 + (((Jvm.Free.XT.ushr p3 (2 : Int32)) &&& (3 : Int32)).toInt64)) - (1 : Int64)) q1))])) t
    refine XS.lcmp X1138.here hx rfl (hb hby at_138) rfl ?_
    exact k
  refine own_goW (S' := T1138.setTop (mkF m 147 #[.val (.long q0), .second, .val (.long q1), .second, .val (.long q2), .second, .val (.int p3), .val (.int p4), .val (.ref b929), .val (.long ((q0 + ((p3 &&& (3 : Int32)).toInt64)) - (1 : Int64))), .second, .val (.long ((q1 + (((Jvm.Free.XT.ushr p3 (2 : Int32)) &&& (3 : Int32)).toInt64)) - (1 : Int64))), .second, .val (.int (if (isR_r ((q0 + ((p3 &&& (3 : Int32)).toInt64)) - (1 : Int64)) q0) = (if ((q0 + ((p3 &&& (3 : Int32)).toInt64)) - (1 : Int64)) = q0 then (1 : Int32) else (0 : Int32)) then (1 : Int32) else (0 : Int32))), .val (.int (if (isR_r q2 q0) = (if q2 = q0 then (1 : Int32) else (0 : Int32)) then (1 : Int32) else (0 : Int32))), .val (.int (isR_r q1 q1)), .unset, .unset, .unset] [(.int (if ((q1 + (((Jvm.Free.XT.ushr p3 (2 : Int32)) &&& (3 : Int32)).toInt64)) - (1 : Int64)) = q1 then (1 : Int32) else (0 : Int32))), (.int (isR_r ((q1 + (((Jvm.Free.XT.ushr p3 (2 : Int32)) &&& (3 : Int32)).toInt64)) - (1 : Int64)) q1))])) (fun t k => ?_) ?_
  · show Steps p.tables e below (T1138.setTop (mkF m 139 #[.val (.long q0), .second, .val (.long q1), .second, .val (.long q2), .second, .val (.int p3), .val (.int p4), .val (.ref b929), .val (.long ((q0 + ((p3 &&& (3 : Int32)).toInt64)) - (1 : Int64))), .second, .val (.long ((q1 + (((Jvm.Free.XT.ushr p3 (2 : Int32)) &&& (3 : Int32)).toInt64)) - (1 : Int64))), .second, .val (.int (if (isR_r ((q0 + ((p3 &&& (3 : Int32)).toInt64)) - (1 : Int64)) q0) = (if ((q0 + ((p3 &&& (3 : Int32)).toInt64)) - (1 : Int64)) = q0 then (1 : Int32) else (0 : Int32)) then (1 : Int32) else (0 : Int32))), .val (.int (if (isR_r q2 q0) = (if q2 = q0 then (1 : Int32) else (0 : Int32)) then (1 : Int32) else (0 : Int32))), .val (.int (isR_r q1 q1)), .unset, .unset, .unset] [(.int (Jvm.Free.XT.cmpL ((q1 + (((Jvm.Free.XT.ushr p3 (2 : Int32)) &&& (3 : Int32)).toInt64)) - (1 : Int64)) q1)), (.int (isR_r ((q1 + (((Jvm.Free.XT.ushr p3 (2 : Int32)) &&& (3 : Int32)).toInt64)) - (1 : Int64)) q1))])) t
    by_cases hc139 : ((q1 + (((Jvm.Free.XT.ushr p3 (2 : Int32)) &&& (3 : Int32)).toInt64)) - (1 : Int64)) = q1
    · show Steps p.tables e below (T1138.setTop (mkF m 139 #[.val (.long q0), .second, .val (.long q1), .second, .val (.long q2), .second, .val (.int p3), .val (.int p4), .val (.ref b929), .val (.long ((q0 + ((p3 &&& (3 : Int32)).toInt64)) - (1 : Int64))), .second, .val (.long ((q1 + (((Jvm.Free.XT.ushr p3 (2 : Int32)) &&& (3 : Int32)).toInt64)) - (1 : Int64))), .second, .val (.int (if (isR_r ((q0 + ((p3 &&& (3 : Int32)).toInt64)) - (1 : Int64)) q0) = (if ((q0 + ((p3 &&& (3 : Int32)).toInt64)) - (1 : Int64)) = q0 then (1 : Int32) else (0 : Int32)) then (1 : Int32) else (0 : Int32))), .val (.int (if (isR_r q2 q0) = (if q2 = q0 then (1 : Int32) else (0 : Int32)) then (1 : Int32) else (0 : Int32))), .val (.int (isR_r q1 q1)), .unset, .unset, .unset] [(.int (Jvm.Free.XT.cmpL ((q1 + (((Jvm.Free.XT.ushr p3 (2 : Int32)) &&& (3 : Int32)).toInt64)) - (1 : Int64)) q1)), (.int (isR_r ((q1 + (((Jvm.Free.XT.ushr p3 (2 : Int32)) &&& (3 : Int32)).toInt64)) - (1 : Int64)) q1))])) t
      refine XS.ifNo X1138.here hx rfl (hb hby at_139) rfl (Jvm.Free.XT.ll_ne_f hc139) ?_
      show Steps p.tables e below (T1138.setTop (mkF m 142 #[.val (.long q0), .second, .val (.long q1), .second, .val (.long q2), .second, .val (.int p3), .val (.int p4), .val (.ref b929), .val (.long ((q0 + ((p3 &&& (3 : Int32)).toInt64)) - (1 : Int64))), .second, .val (.long ((q1 + (((Jvm.Free.XT.ushr p3 (2 : Int32)) &&& (3 : Int32)).toInt64)) - (1 : Int64))), .second, .val (.int (if (isR_r ((q0 + ((p3 &&& (3 : Int32)).toInt64)) - (1 : Int64)) q0) = (if ((q0 + ((p3 &&& (3 : Int32)).toInt64)) - (1 : Int64)) = q0 then (1 : Int32) else (0 : Int32)) then (1 : Int32) else (0 : Int32))), .val (.int (if (isR_r q2 q0) = (if q2 = q0 then (1 : Int32) else (0 : Int32)) then (1 : Int32) else (0 : Int32))), .val (.int (isR_r q1 q1)), .unset, .unset, .unset] [(.int (isR_r ((q1 + (((Jvm.Free.XT.ushr p3 (2 : Int32)) &&& (3 : Int32)).toInt64)) - (1 : Int64)) q1))])) t
      refine XS.iconst X1138.here hx rfl (hb hby at_142) ?_
      show Steps p.tables e below (T1138.setTop (mkF m 143 #[.val (.long q0), .second, .val (.long q1), .second, .val (.long q2), .second, .val (.int p3), .val (.int p4), .val (.ref b929), .val (.long ((q0 + ((p3 &&& (3 : Int32)).toInt64)) - (1 : Int64))), .second, .val (.long ((q1 + (((Jvm.Free.XT.ushr p3 (2 : Int32)) &&& (3 : Int32)).toInt64)) - (1 : Int64))), .second, .val (.int (if (isR_r ((q0 + ((p3 &&& (3 : Int32)).toInt64)) - (1 : Int64)) q0) = (if ((q0 + ((p3 &&& (3 : Int32)).toInt64)) - (1 : Int64)) = q0 then (1 : Int32) else (0 : Int32)) then (1 : Int32) else (0 : Int32))), .val (.int (if (isR_r q2 q0) = (if q2 = q0 then (1 : Int32) else (0 : Int32)) then (1 : Int32) else (0 : Int32))), .val (.int (isR_r q1 q1)), .unset, .unset, .unset] [(.int (1 : Int32)), (.int (isR_r ((q1 + (((Jvm.Free.XT.ushr p3 (2 : Int32)) &&& (3 : Int32)).toInt64)) - (1 : Int64)) q1))])) t
      refine XS.goto X1138.here hx rfl (pc0 := 143) (pc' := 147) rfl (hb hby at_143) (by decide) (by decide) ?_
      try simp only [if_pos hc139] at k
      try simp only [if_pos hc139]
      exact k
    · show Steps p.tables e below (T1138.setTop (mkF m 139 #[.val (.long q0), .second, .val (.long q1), .second, .val (.long q2), .second, .val (.int p3), .val (.int p4), .val (.ref b929), .val (.long ((q0 + ((p3 &&& (3 : Int32)).toInt64)) - (1 : Int64))), .second, .val (.long ((q1 + (((Jvm.Free.XT.ushr p3 (2 : Int32)) &&& (3 : Int32)).toInt64)) - (1 : Int64))), .second, .val (.int (if (isR_r ((q0 + ((p3 &&& (3 : Int32)).toInt64)) - (1 : Int64)) q0) = (if ((q0 + ((p3 &&& (3 : Int32)).toInt64)) - (1 : Int64)) = q0 then (1 : Int32) else (0 : Int32)) then (1 : Int32) else (0 : Int32))), .val (.int (if (isR_r q2 q0) = (if q2 = q0 then (1 : Int32) else (0 : Int32)) then (1 : Int32) else (0 : Int32))), .val (.int (isR_r q1 q1)), .unset, .unset, .unset] [(.int (Jvm.Free.XT.cmpL ((q1 + (((Jvm.Free.XT.ushr p3 (2 : Int32)) &&& (3 : Int32)).toInt64)) - (1 : Int64)) q1)), (.int (isR_r ((q1 + (((Jvm.Free.XT.ushr p3 (2 : Int32)) &&& (3 : Int32)).toInt64)) - (1 : Int64)) q1))])) t
      refine XS.ifYes X1138.here hx rfl (pc0 := 139) (pc' := 146) rfl (hb hby at_139) rfl (Jvm.Free.XT.ll_ne_t hc139) (by decide) (by decide) ?_
      show Steps p.tables e below (T1138.setTop (mkF m 146 #[.val (.long q0), .second, .val (.long q1), .second, .val (.long q2), .second, .val (.int p3), .val (.int p4), .val (.ref b929), .val (.long ((q0 + ((p3 &&& (3 : Int32)).toInt64)) - (1 : Int64))), .second, .val (.long ((q1 + (((Jvm.Free.XT.ushr p3 (2 : Int32)) &&& (3 : Int32)).toInt64)) - (1 : Int64))), .second, .val (.int (if (isR_r ((q0 + ((p3 &&& (3 : Int32)).toInt64)) - (1 : Int64)) q0) = (if ((q0 + ((p3 &&& (3 : Int32)).toInt64)) - (1 : Int64)) = q0 then (1 : Int32) else (0 : Int32)) then (1 : Int32) else (0 : Int32))), .val (.int (if (isR_r q2 q0) = (if q2 = q0 then (1 : Int32) else (0 : Int32)) then (1 : Int32) else (0 : Int32))), .val (.int (isR_r q1 q1)), .unset, .unset, .unset] [(.int (isR_r ((q1 + (((Jvm.Free.XT.ushr p3 (2 : Int32)) &&& (3 : Int32)).toInt64)) - (1 : Int64)) q1))])) t
      refine XS.iconst X1138.here hx rfl (hb hby at_146) ?_
      try simp only [if_neg hc139] at k
      try simp only [if_neg hc139]
      exact k
  refine own_goW (S' := T1138.setTop (mkF m 155 #[.val (.long q0), .second, .val (.long q1), .second, .val (.long q2), .second, .val (.int p3), .val (.int p4), .val (.ref b929), .val (.long ((q0 + ((p3 &&& (3 : Int32)).toInt64)) - (1 : Int64))), .second, .val (.long ((q1 + (((Jvm.Free.XT.ushr p3 (2 : Int32)) &&& (3 : Int32)).toInt64)) - (1 : Int64))), .second, .val (.int (if (isR_r ((q0 + ((p3 &&& (3 : Int32)).toInt64)) - (1 : Int64)) q0) = (if ((q0 + ((p3 &&& (3 : Int32)).toInt64)) - (1 : Int64)) = q0 then (1 : Int32) else (0 : Int32)) then (1 : Int32) else (0 : Int32))), .val (.int (if (isR_r q2 q0) = (if q2 = q0 then (1 : Int32) else (0 : Int32)) then (1 : Int32) else (0 : Int32))), .val (.int (isR_r q1 q1)), .unset, .unset, .unset] [(.int (if (isR_r ((q1 + (((Jvm.Free.XT.ushr p3 (2 : Int32)) &&& (3 : Int32)).toInt64)) - (1 : Int64)) q1) = (if ((q1 + (((Jvm.Free.XT.ushr p3 (2 : Int32)) &&& (3 : Int32)).toInt64)) - (1 : Int64)) = q1 then (1 : Int32) else (0 : Int32)) then (1 : Int32) else (0 : Int32)))])) (fun t k => ?_) ?_
  · show Steps p.tables e below (T1138.setTop (mkF m 147 #[.val (.long q0), .second, .val (.long q1), .second, .val (.long q2), .second, .val (.int p3), .val (.int p4), .val (.ref b929), .val (.long ((q0 + ((p3 &&& (3 : Int32)).toInt64)) - (1 : Int64))), .second, .val (.long ((q1 + (((Jvm.Free.XT.ushr p3 (2 : Int32)) &&& (3 : Int32)).toInt64)) - (1 : Int64))), .second, .val (.int (if (isR_r ((q0 + ((p3 &&& (3 : Int32)).toInt64)) - (1 : Int64)) q0) = (if ((q0 + ((p3 &&& (3 : Int32)).toInt64)) - (1 : Int64)) = q0 then (1 : Int32) else (0 : Int32)) then (1 : Int32) else (0 : Int32))), .val (.int (if (isR_r q2 q0) = (if q2 = q0 then (1 : Int32) else (0 : Int32)) then (1 : Int32) else (0 : Int32))), .val (.int (isR_r q1 q1)), .unset, .unset, .unset] [(.int (if ((q1 + (((Jvm.Free.XT.ushr p3 (2 : Int32)) &&& (3 : Int32)).toInt64)) - (1 : Int64)) = q1 then (1 : Int32) else (0 : Int32))), (.int (isR_r ((q1 + (((Jvm.Free.XT.ushr p3 (2 : Int32)) &&& (3 : Int32)).toInt64)) - (1 : Int64)) q1))])) t
    by_cases hc147 : (isR_r ((q1 + (((Jvm.Free.XT.ushr p3 (2 : Int32)) &&& (3 : Int32)).toInt64)) - (1 : Int64)) q1) = (if ((q1 + (((Jvm.Free.XT.ushr p3 (2 : Int32)) &&& (3 : Int32)).toInt64)) - (1 : Int64)) = q1 then (1 : Int32) else (0 : Int32))
    · show Steps p.tables e below (T1138.setTop (mkF m 147 #[.val (.long q0), .second, .val (.long q1), .second, .val (.long q2), .second, .val (.int p3), .val (.int p4), .val (.ref b929), .val (.long ((q0 + ((p3 &&& (3 : Int32)).toInt64)) - (1 : Int64))), .second, .val (.long ((q1 + (((Jvm.Free.XT.ushr p3 (2 : Int32)) &&& (3 : Int32)).toInt64)) - (1 : Int64))), .second, .val (.int (if (isR_r ((q0 + ((p3 &&& (3 : Int32)).toInt64)) - (1 : Int64)) q0) = (if ((q0 + ((p3 &&& (3 : Int32)).toInt64)) - (1 : Int64)) = q0 then (1 : Int32) else (0 : Int32)) then (1 : Int32) else (0 : Int32))), .val (.int (if (isR_r q2 q0) = (if q2 = q0 then (1 : Int32) else (0 : Int32)) then (1 : Int32) else (0 : Int32))), .val (.int (isR_r q1 q1)), .unset, .unset, .unset] [(.int (if ((q1 + (((Jvm.Free.XT.ushr p3 (2 : Int32)) &&& (3 : Int32)).toInt64)) - (1 : Int64)) = q1 then (1 : Int32) else (0 : Int32))), (.int (isR_r ((q1 + (((Jvm.Free.XT.ushr p3 (2 : Int32)) &&& (3 : Int32)).toInt64)) - (1 : Int64)) q1))])) t
      refine XS.icmpNo X1138.here hx rfl (hb hby at_147) rfl (teq hc147).2 ?_
      show Steps p.tables e below (T1138.setTop (mkF m 150 #[.val (.long q0), .second, .val (.long q1), .second, .val (.long q2), .second, .val (.int p3), .val (.int p4), .val (.ref b929), .val (.long ((q0 + ((p3 &&& (3 : Int32)).toInt64)) - (1 : Int64))), .second, .val (.long ((q1 + (((Jvm.Free.XT.ushr p3 (2 : Int32)) &&& (3 : Int32)).toInt64)) - (1 : Int64))), .second, .val (.int (if (isR_r ((q0 + ((p3 &&& (3 : Int32)).toInt64)) - (1 : Int64)) q0) = (if ((q0 + ((p3 &&& (3 : Int32)).toInt64)) - (1 : Int64)) = q0 then (1 : Int32) else (0 : Int32)) then (1 : Int32) else (0 : Int32))), .val (.int (if (isR_r q2 q0) = (if q2 = q0 then (1 : Int32) else (0 : Int32)) then (1 : Int32) else (0 : Int32))), .val (.int (isR_r q1 q1)), .unset, .unset, .unset] [])) t
      refine XS.iconst X1138.here hx rfl (hb hby at_150) ?_
      show Steps p.tables e below (T1138.setTop (mkF m 151 #[.val (.long q0), .second, .val (.long q1), .second, .val (.long q2), .second, .val (.int p3), .val (.int p4), .val (.ref b929), .val (.long ((q0 + ((p3 &&& (3 : Int32)).toInt64)) - (1 : Int64))), .second, .val (.long ((q1 + (((Jvm.Free.XT.ushr p3 (2 : Int32)) &&& (3 : Int32)).toInt64)) - (1 : Int64))), .second, .val (.int (if (isR_r ((q0 + ((p3 &&& (3 : Int32)).toInt64)) - (1 : Int64)) q0) = (if ((q0 + ((p3 &&& (3 : Int32)).toInt64)) - (1 : Int64)) = q0 then (1 : Int32) else (0 : Int32)) then (1 : Int32) else (0 : Int32))), .val (.int (if (isR_r q2 q0) = (if q2 = q0 then (1 : Int32) else (0 : Int32)) then (1 : Int32) else (0 : Int32))), .val (.int (isR_r q1 q1)), .unset, .unset, .unset] [(.int (1 : Int32))])) t
      refine XS.goto X1138.here hx rfl (pc0 := 151) (pc' := 155) rfl (hb hby at_151) (by decide) (by decide) ?_
      try simp only [if_pos hc147] at k
      try simp only [if_pos hc147]
      exact k
    · show Steps p.tables e below (T1138.setTop (mkF m 147 #[.val (.long q0), .second, .val (.long q1), .second, .val (.long q2), .second, .val (.int p3), .val (.int p4), .val (.ref b929), .val (.long ((q0 + ((p3 &&& (3 : Int32)).toInt64)) - (1 : Int64))), .second, .val (.long ((q1 + (((Jvm.Free.XT.ushr p3 (2 : Int32)) &&& (3 : Int32)).toInt64)) - (1 : Int64))), .second, .val (.int (if (isR_r ((q0 + ((p3 &&& (3 : Int32)).toInt64)) - (1 : Int64)) q0) = (if ((q0 + ((p3 &&& (3 : Int32)).toInt64)) - (1 : Int64)) = q0 then (1 : Int32) else (0 : Int32)) then (1 : Int32) else (0 : Int32))), .val (.int (if (isR_r q2 q0) = (if q2 = q0 then (1 : Int32) else (0 : Int32)) then (1 : Int32) else (0 : Int32))), .val (.int (isR_r q1 q1)), .unset, .unset, .unset] [(.int (if ((q1 + (((Jvm.Free.XT.ushr p3 (2 : Int32)) &&& (3 : Int32)).toInt64)) - (1 : Int64)) = q1 then (1 : Int32) else (0 : Int32))), (.int (isR_r ((q1 + (((Jvm.Free.XT.ushr p3 (2 : Int32)) &&& (3 : Int32)).toInt64)) - (1 : Int64)) q1))])) t
      refine XS.icmpYes X1138.here hx rfl (pc0 := 147) (pc' := 154) rfl (hb hby at_147) rfl (feq hc147).2 (by decide) (by decide) ?_
      show Steps p.tables e below (T1138.setTop (mkF m 154 #[.val (.long q0), .second, .val (.long q1), .second, .val (.long q2), .second, .val (.int p3), .val (.int p4), .val (.ref b929), .val (.long ((q0 + ((p3 &&& (3 : Int32)).toInt64)) - (1 : Int64))), .second, .val (.long ((q1 + (((Jvm.Free.XT.ushr p3 (2 : Int32)) &&& (3 : Int32)).toInt64)) - (1 : Int64))), .second, .val (.int (if (isR_r ((q0 + ((p3 &&& (3 : Int32)).toInt64)) - (1 : Int64)) q0) = (if ((q0 + ((p3 &&& (3 : Int32)).toInt64)) - (1 : Int64)) = q0 then (1 : Int32) else (0 : Int32)) then (1 : Int32) else (0 : Int32))), .val (.int (if (isR_r q2 q0) = (if q2 = q0 then (1 : Int32) else (0 : Int32)) then (1 : Int32) else (0 : Int32))), .val (.int (isR_r q1 q1)), .unset, .unset, .unset] [])) t
      refine XS.iconst X1138.here hx rfl (hb hby at_154) ?_
      try simp only [if_neg hc147] at k
      try simp only [if_neg hc147]
      exact k
  refine own_goW (S' := T1138.setTop (mkF m 160 #[.val (.long q0), .second, .val (.long q1), .second, .val (.long q2), .second, .val (.int p3), .val (.int p4), .val (.ref b929), .val (.long ((q0 + ((p3 &&& (3 : Int32)).toInt64)) - (1 : Int64))), .second, .val (.long ((q1 + (((Jvm.Free.XT.ushr p3 (2 : Int32)) &&& (3 : Int32)).toInt64)) - (1 : Int64))), .second, .val (.int (if (isR_r ((q0 + ((p3 &&& (3 : Int32)).toInt64)) - (1 : Int64)) q0) = (if ((q0 + ((p3 &&& (3 : Int32)).toInt64)) - (1 : Int64)) = q0 then (1 : Int32) else (0 : Int32)) then (1 : Int32) else (0 : Int32))), .val (.int (if (isR_r q2 q0) = (if q2 = q0 then (1 : Int32) else (0 : Int32)) then (1 : Int32) else (0 : Int32))), .val (.int (isR_r q1 q1)), .val (.int (if (isR_r ((q1 + (((Jvm.Free.XT.ushr p3 (2 : Int32)) &&& (3 : Int32)).toInt64)) - (1 : Int64)) q1) = (if ((q1 + (((Jvm.Free.XT.ushr p3 (2 : Int32)) &&& (3 : Int32)).toInt64)) - (1 : Int64)) = q1 then (1 : Int32) else (0 : Int32)) then (1 : Int32) else (0 : Int32))), .unset, .unset] [(.long q0), (.ref b929)])) (fun t k => ?_) ?_
  · show Steps p.tables e below (T1138.setTop (mkF m 155 #[.val (.long q0), .second, .val (.long q1), .second, .val (.long q2), .second, .val (.int p3), .val (.int p4), .val (.ref b929), .val (.long ((q0 + ((p3 &&& (3 : Int32)).toInt64)) - (1 : Int64))), .second, .val (.long ((q1 + (((Jvm.Free.XT.ushr p3 (2 : Int32)) &&& (3 : Int32)).toInt64)) - (1 : Int64))), .second, .val (.int (if (isR_r ((q0 + ((p3 &&& (3 : Int32)).toInt64)) - (1 : Int64)) q0) = (if ((q0 + ((p3 &&& (3 : Int32)).toInt64)) - (1 : Int64)) = q0 then (1 : Int32) else (0 : Int32)) then (1 : Int32) else (0 : Int32))), .val (.int (if (isR_r q2 q0) = (if q2 = q0 then (1 : Int32) else (0 : Int32)) then (1 : Int32) else (0 : Int32))), .val (.int (isR_r q1 q1)), .unset, .unset, .unset] [(.int (if (isR_r ((q1 + (((Jvm.Free.XT.ushr p3 (2 : Int32)) &&& (3 : Int32)).toInt64)) - (1 : Int64)) q1) = (if ((q1 + (((Jvm.Free.XT.ushr p3 (2 : Int32)) &&& (3 : Int32)).toInt64)) - (1 : Int64)) = q1 then (1 : Int32) else (0 : Int32)) then (1 : Int32) else (0 : Int32)))])) t
    refine XS.istore X1138.here hx rfl (hb hby at_155) rfl (l' := #[.val (.long q0), .second, .val (.long q1), .second, .val (.long q2), .second, .val (.int p3), .val (.int p4), .val (.ref b929), .val (.long ((q0 + ((p3 &&& (3 : Int32)).toInt64)) - (1 : Int64))), .second, .val (.long ((q1 + (((Jvm.Free.XT.ushr p3 (2 : Int32)) &&& (3 : Int32)).toInt64)) - (1 : Int64))), .second, .val (.int (if (isR_r ((q0 + ((p3 &&& (3 : Int32)).toInt64)) - (1 : Int64)) q0) = (if ((q0 + ((p3 &&& (3 : Int32)).toInt64)) - (1 : Int64)) = q0 then (1 : Int32) else (0 : Int32)) then (1 : Int32) else (0 : Int32))), .val (.int (if (isR_r q2 q0) = (if q2 = q0 then (1 : Int32) else (0 : Int32)) then (1 : Int32) else (0 : Int32))), .val (.int (isR_r q1 q1)), .val (.int (if (isR_r ((q1 + (((Jvm.Free.XT.ushr p3 (2 : Int32)) &&& (3 : Int32)).toInt64)) - (1 : Int64)) q1) = (if ((q1 + (((Jvm.Free.XT.ushr p3 (2 : Int32)) &&& (3 : Int32)).toInt64)) - (1 : Int64)) = q1 then (1 : Int32) else (0 : Int32)) then (1 : Int32) else (0 : Int32))), .unset, .unset]) rfl ?_
    show Steps p.tables e below (T1138.setTop (mkF m 157 #[.val (.long q0), .second, .val (.long q1), .second, .val (.long q2), .second, .val (.int p3), .val (.int p4), .val (.ref b929), .val (.long ((q0 + ((p3 &&& (3 : Int32)).toInt64)) - (1 : Int64))), .second, .val (.long ((q1 + (((Jvm.Free.XT.ushr p3 (2 : Int32)) &&& (3 : Int32)).toInt64)) - (1 : Int64))), .second, .val (.int (if (isR_r ((q0 + ((p3 &&& (3 : Int32)).toInt64)) - (1 : Int64)) q0) = (if ((q0 + ((p3 &&& (3 : Int32)).toInt64)) - (1 : Int64)) = q0 then (1 : Int32) else (0 : Int32)) then (1 : Int32) else (0 : Int32))), .val (.int (if (isR_r q2 q0) = (if q2 = q0 then (1 : Int32) else (0 : Int32)) then (1 : Int32) else (0 : Int32))), .val (.int (isR_r q1 q1)), .val (.int (if (isR_r ((q1 + (((Jvm.Free.XT.ushr p3 (2 : Int32)) &&& (3 : Int32)).toInt64)) - (1 : Int64)) q1) = (if ((q1 + (((Jvm.Free.XT.ushr p3 (2 : Int32)) &&& (3 : Int32)).toInt64)) - (1 : Int64)) = q1 then (1 : Int32) else (0 : Int32)) then (1 : Int32) else (0 : Int32))), .unset, .unset] [])) t
    refine XS.aload X1138.here hx rfl (hb hby at_157) rfl rfl ?_
    show Steps p.tables e below (T1138.setTop (mkF m 159 #[.val (.long q0), .second, .val (.long q1), .second, .val (.long q2), .second, .val (.int p3), .val (.int p4), .val (.ref b929), .val (.long ((q0 + ((p3 &&& (3 : Int32)).toInt64)) - (1 : Int64))), .second, .val (.long ((q1 + (((Jvm.Free.XT.ushr p3 (2 : Int32)) &&& (3 : Int32)).toInt64)) - (1 : Int64))), .second, .val (.int (if (isR_r ((q0 + ((p3 &&& (3 : Int32)).toInt64)) - (1 : Int64)) q0) = (if ((q0 + ((p3 &&& (3 : Int32)).toInt64)) - (1 : Int64)) = q0 then (1 : Int32) else (0 : Int32)) then (1 : Int32) else (0 : Int32))), .val (.int (if (isR_r q2 q0) = (if q2 = q0 then (1 : Int32) else (0 : Int32)) then (1 : Int32) else (0 : Int32))), .val (.int (isR_r q1 q1)), .val (.int (if (isR_r ((q1 + (((Jvm.Free.XT.ushr p3 (2 : Int32)) &&& (3 : Int32)).toInt64)) - (1 : Int64)) q1) = (if ((q1 + (((Jvm.Free.XT.ushr p3 (2 : Int32)) &&& (3 : Int32)).toInt64)) - (1 : Int64)) = q1 then (1 : Int32) else (0 : Int32)) then (1 : Int32) else (0 : Int32))), .unset, .unset] [(.ref b929)])) t
    refine XS.lloadN X1138.here hx rfl (hb hby at_159) rfl ?_
    exact k
  obtain ⟨cq1142, kq1142, qa1142, qb1142, qc1142⟩ := isOf hZ e1138 p1113
  obtain ⟨_, _, ⟨T1142, L1142, kk1142, nn1142⟩, -, X1142, ⟨Lc1142, hQ1142, l1142, y1142, z1142⟩, st1142⟩ := X1138.virtualBack hx (y := (⟨"com/example/perigo/perigo/engine/network/Node", "isReachedBy", "(J)Z"⟩ : MethodName)) (z := (⟨"com/example/perigo/perigo/engine/network/Node", "isReachedBy", "(J)Z"⟩ : MethodName)) hown (mvT hZ (hw _ (List.mem_of_getElem? (i := 141) rfl))) (mvT hZ (hw _ (List.mem_of_getElem? (i := 142) rfl))) (notFace_of_selects (args := #[]) (mvT hZ (hw _ (List.mem_of_getElem? (i := 144) rfl)))) (mvT hZ (hw _ (List.mem_of_getElem? (i := 144) rfl))) (mvT hZ (hw _ (List.mem_of_getElem? (i := 143) rfl))) (by decide) (backOf (W := 0) (isR l Z a0 hw [] b929 q0 q1 T1110.heap n0 Z1132 p1114) hZ (hw _ (List.mem_of_getElem? (i := 145) rfl)) (hw _ (List.mem_of_getElem? (i := 2) rfl)) (by decide) (by decide)) qa1142 qc1142 (g := (mkF m 160 #[.val (.long q0), .second, .val (.long q1), .second, .val (.long q2), .second, .val (.int p3), .val (.int p4), .val (.ref b929), .val (.long ((q0 + ((p3 &&& (3 : Int32)).toInt64)) - (1 : Int64))), .second, .val (.long ((q1 + (((Jvm.Free.XT.ushr p3 (2 : Int32)) &&& (3 : Int32)).toInt64)) - (1 : Int64))), .second, .val (.int (if (isR_r ((q0 + ((p3 &&& (3 : Int32)).toInt64)) - (1 : Int64)) q0) = (if ((q0 + ((p3 &&& (3 : Int32)).toInt64)) - (1 : Int64)) = q0 then (1 : Int32) else (0 : Int32)) then (1 : Int32) else (0 : Int32))), .val (.int (if (isR_r q2 q0) = (if q2 = q0 then (1 : Int32) else (0 : Int32)) then (1 : Int32) else (0 : Int32))), .val (.int (isR_r q1 q1)), .val (.int (if (isR_r ((q1 + (((Jvm.Free.XT.ushr p3 (2 : Int32)) &&& (3 : Int32)).toInt64)) - (1 : Int64)) q1) = (if ((q1 + (((Jvm.Free.XT.ushr p3 (2 : Int32)) &&& (3 : Int32)).toInt64)) - (1 : Int64)) = q1 then (1 : Int32) else (0 : Int32)) then (1 : Int32) else (0 : Int32))), .unset, .unset] [(.long q0), (.ref b929)])) rfl (by rw [hml]; rfl) (Steps.refl _) (argsL := [(.long q0)]) (rest := []) (lenOf pd_213 rfl) rfl (by show 2 * 0 + _ ≤ _; exact Nat.le_of_eq rfl) (hb hby at_160) (fun _ _ => ⟨rfl, e1138, (by decide : 25 + 0 ≤ _), (by decide : 129 + 0 ≤ _)⟩)
  dsimp only [Pt.U, Pt.locs, Pt.cells, Pt.slots] at X1142 l1142 y1142 z1142 st1142 hQ1142
  subst l1142 y1142 z1142
  obtain ⟨rfl, N1143, e1142⟩ := hQ1142
  have N1145 := Fr.app N1141 N1143
  refine own_goTW st1142 ?_
  refine own_goW (S' := T1142.setTop (mkF m 166 #[.val (.long q0), .second, .val (.long q1), .second, .val (.long q2), .second, .val (.int p3), .val (.int p4), .val (.ref b929), .val (.long ((q0 + ((p3 &&& (3 : Int32)).toInt64)) - (1 : Int64))), .second, .val (.long ((q1 + (((Jvm.Free.XT.ushr p3 (2 : Int32)) &&& (3 : Int32)).toInt64)) - (1 : Int64))), .second, .val (.int (if (isR_r ((q0 + ((p3 &&& (3 : Int32)).toInt64)) - (1 : Int64)) q0) = (if ((q0 + ((p3 &&& (3 : Int32)).toInt64)) - (1 : Int64)) = q0 then (1 : Int32) else (0 : Int32)) then (1 : Int32) else (0 : Int32))), .val (.int (if (isR_r q2 q0) = (if q2 = q0 then (1 : Int32) else (0 : Int32)) then (1 : Int32) else (0 : Int32))), .val (.int (isR_r q1 q1)), .val (.int (if (isR_r ((q1 + (((Jvm.Free.XT.ushr p3 (2 : Int32)) &&& (3 : Int32)).toInt64)) - (1 : Int64)) q1) = (if ((q1 + (((Jvm.Free.XT.ushr p3 (2 : Int32)) &&& (3 : Int32)).toInt64)) - (1 : Int64)) = q1 then (1 : Int32) else (0 : Int32)) then (1 : Int32) else (0 : Int32))), .unset, .unset] [(.int (Jvm.Free.XT.cmpL q0 q1)), (.int (isR_r q0 q1))])) (fun t k => ?_) ?_
  · show Steps p.tables e below (T1142.setTop (mkF m 163 #[.val (.long q0), .second, .val (.long q1), .second, .val (.long q2), .second, .val (.int p3), .val (.int p4), .val (.ref b929), .val (.long ((q0 + ((p3 &&& (3 : Int32)).toInt64)) - (1 : Int64))), .second, .val (.long ((q1 + (((Jvm.Free.XT.ushr p3 (2 : Int32)) &&& (3 : Int32)).toInt64)) - (1 : Int64))), .second, .val (.int (if (isR_r ((q0 + ((p3 &&& (3 : Int32)).toInt64)) - (1 : Int64)) q0) = (if ((q0 + ((p3 &&& (3 : Int32)).toInt64)) - (1 : Int64)) = q0 then (1 : Int32) else (0 : Int32)) then (1 : Int32) else (0 : Int32))), .val (.int (if (isR_r q2 q0) = (if q2 = q0 then (1 : Int32) else (0 : Int32)) then (1 : Int32) else (0 : Int32))), .val (.int (isR_r q1 q1)), .val (.int (if (isR_r ((q1 + (((Jvm.Free.XT.ushr p3 (2 : Int32)) &&& (3 : Int32)).toInt64)) - (1 : Int64)) q1) = (if ((q1 + (((Jvm.Free.XT.ushr p3 (2 : Int32)) &&& (3 : Int32)).toInt64)) - (1 : Int64)) = q1 then (1 : Int32) else (0 : Int32)) then (1 : Int32) else (0 : Int32))), .unset, .unset] [(.int (isR_r q0 q1))])) t
    refine XS.lloadN X1142.here hx rfl (hb hby at_163) rfl ?_
    show Steps p.tables e below (T1142.setTop (mkF m 164 #[.val (.long q0), .second, .val (.long q1), .second, .val (.long q2), .second, .val (.int p3), .val (.int p4), .val (.ref b929), .val (.long ((q0 + ((p3 &&& (3 : Int32)).toInt64)) - (1 : Int64))), .second, .val (.long ((q1 + (((Jvm.Free.XT.ushr p3 (2 : Int32)) &&& (3 : Int32)).toInt64)) - (1 : Int64))), .second, .val (.int (if (isR_r ((q0 + ((p3 &&& (3 : Int32)).toInt64)) - (1 : Int64)) q0) = (if ((q0 + ((p3 &&& (3 : Int32)).toInt64)) - (1 : Int64)) = q0 then (1 : Int32) else (0 : Int32)) then (1 : Int32) else (0 : Int32))), .val (.int (if (isR_r q2 q0) = (if q2 = q0 then (1 : Int32) else (0 : Int32)) then (1 : Int32) else (0 : Int32))), .val (.int (isR_r q1 q1)), .val (.int (if (isR_r ((q1 + (((Jvm.Free.XT.ushr p3 (2 : Int32)) &&& (3 : Int32)).toInt64)) - (1 : Int64)) q1) = (if ((q1 + (((Jvm.Free.XT.ushr p3 (2 : Int32)) &&& (3 : Int32)).toInt64)) - (1 : Int64)) = q1 then (1 : Int32) else (0 : Int32)) then (1 : Int32) else (0 : Int32))), .unset, .unset] [(.long q0), (.int (isR_r q0 q1))])) t
    refine XS.lloadN X1142.here hx rfl (hb hby at_164) rfl ?_
    show Steps p.tables e below (T1142.setTop (mkF m 165 #[.val (.long q0), .second, .val (.long q1), .second, .val (.long q2), .second, .val (.int p3), .val (.int p4), .val (.ref b929), .val (.long ((q0 + ((p3 &&& (3 : Int32)).toInt64)) - (1 : Int64))), .second, .val (.long ((q1 + (((Jvm.Free.XT.ushr p3 (2 : Int32)) &&& (3 : Int32)).toInt64)) - (1 : Int64))), .second, .val (.int (if (isR_r ((q0 + ((p3 &&& (3 : Int32)).toInt64)) - (1 : Int64)) q0) = (if ((q0 + ((p3 &&& (3 : Int32)).toInt64)) - (1 : Int64)) = q0 then (1 : Int32) else (0 : Int32)) then (1 : Int32) else (0 : Int32))), .val (.int (if (isR_r q2 q0) = (if q2 = q0 then (1 : Int32) else (0 : Int32)) then (1 : Int32) else (0 : Int32))), .val (.int (isR_r q1 q1)), .val (.int (if (isR_r ((q1 + (((Jvm.Free.XT.ushr p3 (2 : Int32)) &&& (3 : Int32)).toInt64)) - (1 : Int64)) q1) = (if ((q1 + (((Jvm.Free.XT.ushr p3 (2 : Int32)) &&& (3 : Int32)).toInt64)) - (1 : Int64)) = q1 then (1 : Int32) else (0 : Int32)) then (1 : Int32) else (0 : Int32))), .unset, .unset] [(.long q1), (.long q0), (.int (isR_r q0 q1))])) t
    refine XS.lcmp X1142.here hx rfl (hb hby at_165) rfl ?_
    exact k
  refine own_goW (S' := T1142.setTop (mkF m 174 #[.val (.long q0), .second, .val (.long q1), .second, .val (.long q2), .second, .val (.int p3), .val (.int p4), .val (.ref b929), .val (.long ((q0 + ((p3 &&& (3 : Int32)).toInt64)) - (1 : Int64))), .second, .val (.long ((q1 + (((Jvm.Free.XT.ushr p3 (2 : Int32)) &&& (3 : Int32)).toInt64)) - (1 : Int64))), .second, .val (.int (if (isR_r ((q0 + ((p3 &&& (3 : Int32)).toInt64)) - (1 : Int64)) q0) = (if ((q0 + ((p3 &&& (3 : Int32)).toInt64)) - (1 : Int64)) = q0 then (1 : Int32) else (0 : Int32)) then (1 : Int32) else (0 : Int32))), .val (.int (if (isR_r q2 q0) = (if q2 = q0 then (1 : Int32) else (0 : Int32)) then (1 : Int32) else (0 : Int32))), .val (.int (isR_r q1 q1)), .val (.int (if (isR_r ((q1 + (((Jvm.Free.XT.ushr p3 (2 : Int32)) &&& (3 : Int32)).toInt64)) - (1 : Int64)) q1) = (if ((q1 + (((Jvm.Free.XT.ushr p3 (2 : Int32)) &&& (3 : Int32)).toInt64)) - (1 : Int64)) = q1 then (1 : Int32) else (0 : Int32)) then (1 : Int32) else (0 : Int32))), .unset, .unset] [(.int (if q0 = q1 then (1 : Int32) else (0 : Int32))), (.int (isR_r q0 q1))])) (fun t k => ?_) ?_
  · show Steps p.tables e below (T1142.setTop (mkF m 166 #[.val (.long q0), .second, .val (.long q1), .second, .val (.long q2), .second, .val (.int p3), .val (.int p4), .val (.ref b929), .val (.long ((q0 + ((p3 &&& (3 : Int32)).toInt64)) - (1 : Int64))), .second, .val (.long ((q1 + (((Jvm.Free.XT.ushr p3 (2 : Int32)) &&& (3 : Int32)).toInt64)) - (1 : Int64))), .second, .val (.int (if (isR_r ((q0 + ((p3 &&& (3 : Int32)).toInt64)) - (1 : Int64)) q0) = (if ((q0 + ((p3 &&& (3 : Int32)).toInt64)) - (1 : Int64)) = q0 then (1 : Int32) else (0 : Int32)) then (1 : Int32) else (0 : Int32))), .val (.int (if (isR_r q2 q0) = (if q2 = q0 then (1 : Int32) else (0 : Int32)) then (1 : Int32) else (0 : Int32))), .val (.int (isR_r q1 q1)), .val (.int (if (isR_r ((q1 + (((Jvm.Free.XT.ushr p3 (2 : Int32)) &&& (3 : Int32)).toInt64)) - (1 : Int64)) q1) = (if ((q1 + (((Jvm.Free.XT.ushr p3 (2 : Int32)) &&& (3 : Int32)).toInt64)) - (1 : Int64)) = q1 then (1 : Int32) else (0 : Int32)) then (1 : Int32) else (0 : Int32))), .unset, .unset] [(.int (Jvm.Free.XT.cmpL q0 q1)), (.int (isR_r q0 q1))])) t
    by_cases hc166 : q0 = q1
    · show Steps p.tables e below (T1142.setTop (mkF m 166 #[.val (.long q0), .second, .val (.long q1), .second, .val (.long q2), .second, .val (.int p3), .val (.int p4), .val (.ref b929), .val (.long ((q0 + ((p3 &&& (3 : Int32)).toInt64)) - (1 : Int64))), .second, .val (.long ((q1 + (((Jvm.Free.XT.ushr p3 (2 : Int32)) &&& (3 : Int32)).toInt64)) - (1 : Int64))), .second, .val (.int (if (isR_r ((q0 + ((p3 &&& (3 : Int32)).toInt64)) - (1 : Int64)) q0) = (if ((q0 + ((p3 &&& (3 : Int32)).toInt64)) - (1 : Int64)) = q0 then (1 : Int32) else (0 : Int32)) then (1 : Int32) else (0 : Int32))), .val (.int (if (isR_r q2 q0) = (if q2 = q0 then (1 : Int32) else (0 : Int32)) then (1 : Int32) else (0 : Int32))), .val (.int (isR_r q1 q1)), .val (.int (if (isR_r ((q1 + (((Jvm.Free.XT.ushr p3 (2 : Int32)) &&& (3 : Int32)).toInt64)) - (1 : Int64)) q1) = (if ((q1 + (((Jvm.Free.XT.ushr p3 (2 : Int32)) &&& (3 : Int32)).toInt64)) - (1 : Int64)) = q1 then (1 : Int32) else (0 : Int32)) then (1 : Int32) else (0 : Int32))), .unset, .unset] [(.int (Jvm.Free.XT.cmpL q0 q1)), (.int (isR_r q0 q1))])) t
      refine XS.ifNo X1142.here hx rfl (hb hby at_166) rfl (Jvm.Free.XT.ll_ne_f hc166) ?_
      show Steps p.tables e below (T1142.setTop (mkF m 169 #[.val (.long q0), .second, .val (.long q1), .second, .val (.long q2), .second, .val (.int p3), .val (.int p4), .val (.ref b929), .val (.long ((q0 + ((p3 &&& (3 : Int32)).toInt64)) - (1 : Int64))), .second, .val (.long ((q1 + (((Jvm.Free.XT.ushr p3 (2 : Int32)) &&& (3 : Int32)).toInt64)) - (1 : Int64))), .second, .val (.int (if (isR_r ((q0 + ((p3 &&& (3 : Int32)).toInt64)) - (1 : Int64)) q0) = (if ((q0 + ((p3 &&& (3 : Int32)).toInt64)) - (1 : Int64)) = q0 then (1 : Int32) else (0 : Int32)) then (1 : Int32) else (0 : Int32))), .val (.int (if (isR_r q2 q0) = (if q2 = q0 then (1 : Int32) else (0 : Int32)) then (1 : Int32) else (0 : Int32))), .val (.int (isR_r q1 q1)), .val (.int (if (isR_r ((q1 + (((Jvm.Free.XT.ushr p3 (2 : Int32)) &&& (3 : Int32)).toInt64)) - (1 : Int64)) q1) = (if ((q1 + (((Jvm.Free.XT.ushr p3 (2 : Int32)) &&& (3 : Int32)).toInt64)) - (1 : Int64)) = q1 then (1 : Int32) else (0 : Int32)) then (1 : Int32) else (0 : Int32))), .unset, .unset] [(.int (isR_r q0 q1))])) t
      refine XS.iconst X1142.here hx rfl (hb hby at_169) ?_
      show Steps p.tables e below (T1142.setTop (mkF m 170 #[.val (.long q0), .second, .val (.long q1), .second, .val (.long q2), .second, .val (.int p3), .val (.int p4), .val (.ref b929), .val (.long ((q0 + ((p3 &&& (3 : Int32)).toInt64)) - (1 : Int64))), .second, .val (.long ((q1 + (((Jvm.Free.XT.ushr p3 (2 : Int32)) &&& (3 : Int32)).toInt64)) - (1 : Int64))), .second, .val (.int (if (isR_r ((q0 + ((p3 &&& (3 : Int32)).toInt64)) - (1 : Int64)) q0) = (if ((q0 + ((p3 &&& (3 : Int32)).toInt64)) - (1 : Int64)) = q0 then (1 : Int32) else (0 : Int32)) then (1 : Int32) else (0 : Int32))), .val (.int (if (isR_r q2 q0) = (if q2 = q0 then (1 : Int32) else (0 : Int32)) then (1 : Int32) else (0 : Int32))), .val (.int (isR_r q1 q1)), .val (.int (if (isR_r ((q1 + (((Jvm.Free.XT.ushr p3 (2 : Int32)) &&& (3 : Int32)).toInt64)) - (1 : Int64)) q1) = (if ((q1 + (((Jvm.Free.XT.ushr p3 (2 : Int32)) &&& (3 : Int32)).toInt64)) - (1 : Int64)) = q1 then (1 : Int32) else (0 : Int32)) then (1 : Int32) else (0 : Int32))), .unset, .unset] [(.int (1 : Int32)), (.int (isR_r q0 q1))])) t
      refine XS.goto X1142.here hx rfl (pc0 := 170) (pc' := 174) rfl (hb hby at_170) (by decide) (by decide) ?_
      try simp only [if_pos hc166] at k
      try simp only [if_pos hc166]
      exact k
    · show Steps p.tables e below (T1142.setTop (mkF m 166 #[.val (.long q0), .second, .val (.long q1), .second, .val (.long q2), .second, .val (.int p3), .val (.int p4), .val (.ref b929), .val (.long ((q0 + ((p3 &&& (3 : Int32)).toInt64)) - (1 : Int64))), .second, .val (.long ((q1 + (((Jvm.Free.XT.ushr p3 (2 : Int32)) &&& (3 : Int32)).toInt64)) - (1 : Int64))), .second, .val (.int (if (isR_r ((q0 + ((p3 &&& (3 : Int32)).toInt64)) - (1 : Int64)) q0) = (if ((q0 + ((p3 &&& (3 : Int32)).toInt64)) - (1 : Int64)) = q0 then (1 : Int32) else (0 : Int32)) then (1 : Int32) else (0 : Int32))), .val (.int (if (isR_r q2 q0) = (if q2 = q0 then (1 : Int32) else (0 : Int32)) then (1 : Int32) else (0 : Int32))), .val (.int (isR_r q1 q1)), .val (.int (if (isR_r ((q1 + (((Jvm.Free.XT.ushr p3 (2 : Int32)) &&& (3 : Int32)).toInt64)) - (1 : Int64)) q1) = (if ((q1 + (((Jvm.Free.XT.ushr p3 (2 : Int32)) &&& (3 : Int32)).toInt64)) - (1 : Int64)) = q1 then (1 : Int32) else (0 : Int32)) then (1 : Int32) else (0 : Int32))), .unset, .unset] [(.int (Jvm.Free.XT.cmpL q0 q1)), (.int (isR_r q0 q1))])) t
      refine XS.ifYes X1142.here hx rfl (pc0 := 166) (pc' := 173) rfl (hb hby at_166) rfl (Jvm.Free.XT.ll_ne_t hc166) (by decide) (by decide) ?_
      show Steps p.tables e below (T1142.setTop (mkF m 173 #[.val (.long q0), .second, .val (.long q1), .second, .val (.long q2), .second, .val (.int p3), .val (.int p4), .val (.ref b929), .val (.long ((q0 + ((p3 &&& (3 : Int32)).toInt64)) - (1 : Int64))), .second, .val (.long ((q1 + (((Jvm.Free.XT.ushr p3 (2 : Int32)) &&& (3 : Int32)).toInt64)) - (1 : Int64))), .second, .val (.int (if (isR_r ((q0 + ((p3 &&& (3 : Int32)).toInt64)) - (1 : Int64)) q0) = (if ((q0 + ((p3 &&& (3 : Int32)).toInt64)) - (1 : Int64)) = q0 then (1 : Int32) else (0 : Int32)) then (1 : Int32) else (0 : Int32))), .val (.int (if (isR_r q2 q0) = (if q2 = q0 then (1 : Int32) else (0 : Int32)) then (1 : Int32) else (0 : Int32))), .val (.int (isR_r q1 q1)), .val (.int (if (isR_r ((q1 + (((Jvm.Free.XT.ushr p3 (2 : Int32)) &&& (3 : Int32)).toInt64)) - (1 : Int64)) q1) = (if ((q1 + (((Jvm.Free.XT.ushr p3 (2 : Int32)) &&& (3 : Int32)).toInt64)) - (1 : Int64)) = q1 then (1 : Int32) else (0 : Int32)) then (1 : Int32) else (0 : Int32))), .unset, .unset] [(.int (isR_r q0 q1))])) t
      refine XS.iconst X1142.here hx rfl (hb hby at_173) ?_
      try simp only [if_neg hc166] at k
      try simp only [if_neg hc166]
      exact k
  refine own_goW (S' := T1142.setTop (mkF m 182 #[.val (.long q0), .second, .val (.long q1), .second, .val (.long q2), .second, .val (.int p3), .val (.int p4), .val (.ref b929), .val (.long ((q0 + ((p3 &&& (3 : Int32)).toInt64)) - (1 : Int64))), .second, .val (.long ((q1 + (((Jvm.Free.XT.ushr p3 (2 : Int32)) &&& (3 : Int32)).toInt64)) - (1 : Int64))), .second, .val (.int (if (isR_r ((q0 + ((p3 &&& (3 : Int32)).toInt64)) - (1 : Int64)) q0) = (if ((q0 + ((p3 &&& (3 : Int32)).toInt64)) - (1 : Int64)) = q0 then (1 : Int32) else (0 : Int32)) then (1 : Int32) else (0 : Int32))), .val (.int (if (isR_r q2 q0) = (if q2 = q0 then (1 : Int32) else (0 : Int32)) then (1 : Int32) else (0 : Int32))), .val (.int (isR_r q1 q1)), .val (.int (if (isR_r ((q1 + (((Jvm.Free.XT.ushr p3 (2 : Int32)) &&& (3 : Int32)).toInt64)) - (1 : Int64)) q1) = (if ((q1 + (((Jvm.Free.XT.ushr p3 (2 : Int32)) &&& (3 : Int32)).toInt64)) - (1 : Int64)) = q1 then (1 : Int32) else (0 : Int32)) then (1 : Int32) else (0 : Int32))), .unset, .unset] [(.int (if (isR_r q0 q1) = (if q0 = q1 then (1 : Int32) else (0 : Int32)) then (1 : Int32) else (0 : Int32)))])) (fun t k => ?_) ?_
  · show Steps p.tables e below (T1142.setTop (mkF m 174 #[.val (.long q0), .second, .val (.long q1), .second, .val (.long q2), .second, .val (.int p3), .val (.int p4), .val (.ref b929), .val (.long ((q0 + ((p3 &&& (3 : Int32)).toInt64)) - (1 : Int64))), .second, .val (.long ((q1 + (((Jvm.Free.XT.ushr p3 (2 : Int32)) &&& (3 : Int32)).toInt64)) - (1 : Int64))), .second, .val (.int (if (isR_r ((q0 + ((p3 &&& (3 : Int32)).toInt64)) - (1 : Int64)) q0) = (if ((q0 + ((p3 &&& (3 : Int32)).toInt64)) - (1 : Int64)) = q0 then (1 : Int32) else (0 : Int32)) then (1 : Int32) else (0 : Int32))), .val (.int (if (isR_r q2 q0) = (if q2 = q0 then (1 : Int32) else (0 : Int32)) then (1 : Int32) else (0 : Int32))), .val (.int (isR_r q1 q1)), .val (.int (if (isR_r ((q1 + (((Jvm.Free.XT.ushr p3 (2 : Int32)) &&& (3 : Int32)).toInt64)) - (1 : Int64)) q1) = (if ((q1 + (((Jvm.Free.XT.ushr p3 (2 : Int32)) &&& (3 : Int32)).toInt64)) - (1 : Int64)) = q1 then (1 : Int32) else (0 : Int32)) then (1 : Int32) else (0 : Int32))), .unset, .unset] [(.int (if q0 = q1 then (1 : Int32) else (0 : Int32))), (.int (isR_r q0 q1))])) t
    by_cases hc174 : (isR_r q0 q1) = (if q0 = q1 then (1 : Int32) else (0 : Int32))
    · show Steps p.tables e below (T1142.setTop (mkF m 174 #[.val (.long q0), .second, .val (.long q1), .second, .val (.long q2), .second, .val (.int p3), .val (.int p4), .val (.ref b929), .val (.long ((q0 + ((p3 &&& (3 : Int32)).toInt64)) - (1 : Int64))), .second, .val (.long ((q1 + (((Jvm.Free.XT.ushr p3 (2 : Int32)) &&& (3 : Int32)).toInt64)) - (1 : Int64))), .second, .val (.int (if (isR_r ((q0 + ((p3 &&& (3 : Int32)).toInt64)) - (1 : Int64)) q0) = (if ((q0 + ((p3 &&& (3 : Int32)).toInt64)) - (1 : Int64)) = q0 then (1 : Int32) else (0 : Int32)) then (1 : Int32) else (0 : Int32))), .val (.int (if (isR_r q2 q0) = (if q2 = q0 then (1 : Int32) else (0 : Int32)) then (1 : Int32) else (0 : Int32))), .val (.int (isR_r q1 q1)), .val (.int (if (isR_r ((q1 + (((Jvm.Free.XT.ushr p3 (2 : Int32)) &&& (3 : Int32)).toInt64)) - (1 : Int64)) q1) = (if ((q1 + (((Jvm.Free.XT.ushr p3 (2 : Int32)) &&& (3 : Int32)).toInt64)) - (1 : Int64)) = q1 then (1 : Int32) else (0 : Int32)) then (1 : Int32) else (0 : Int32))), .unset, .unset] [(.int (if q0 = q1 then (1 : Int32) else (0 : Int32))), (.int (isR_r q0 q1))])) t
      refine XS.icmpNo X1142.here hx rfl (hb hby at_174) rfl (teq hc174).2 ?_
      show Steps p.tables e below (T1142.setTop (mkF m 177 #[.val (.long q0), .second, .val (.long q1), .second, .val (.long q2), .second, .val (.int p3), .val (.int p4), .val (.ref b929), .val (.long ((q0 + ((p3 &&& (3 : Int32)).toInt64)) - (1 : Int64))), .second, .val (.long ((q1 + (((Jvm.Free.XT.ushr p3 (2 : Int32)) &&& (3 : Int32)).toInt64)) - (1 : Int64))), .second, .val (.int (if (isR_r ((q0 + ((p3 &&& (3 : Int32)).toInt64)) - (1 : Int64)) q0) = (if ((q0 + ((p3 &&& (3 : Int32)).toInt64)) - (1 : Int64)) = q0 then (1 : Int32) else (0 : Int32)) then (1 : Int32) else (0 : Int32))), .val (.int (if (isR_r q2 q0) = (if q2 = q0 then (1 : Int32) else (0 : Int32)) then (1 : Int32) else (0 : Int32))), .val (.int (isR_r q1 q1)), .val (.int (if (isR_r ((q1 + (((Jvm.Free.XT.ushr p3 (2 : Int32)) &&& (3 : Int32)).toInt64)) - (1 : Int64)) q1) = (if ((q1 + (((Jvm.Free.XT.ushr p3 (2 : Int32)) &&& (3 : Int32)).toInt64)) - (1 : Int64)) = q1 then (1 : Int32) else (0 : Int32)) then (1 : Int32) else (0 : Int32))), .unset, .unset] [])) t
      refine XS.iconst X1142.here hx rfl (hb hby at_177) ?_
      show Steps p.tables e below (T1142.setTop (mkF m 178 #[.val (.long q0), .second, .val (.long q1), .second, .val (.long q2), .second, .val (.int p3), .val (.int p4), .val (.ref b929), .val (.long ((q0 + ((p3 &&& (3 : Int32)).toInt64)) - (1 : Int64))), .second, .val (.long ((q1 + (((Jvm.Free.XT.ushr p3 (2 : Int32)) &&& (3 : Int32)).toInt64)) - (1 : Int64))), .second, .val (.int (if (isR_r ((q0 + ((p3 &&& (3 : Int32)).toInt64)) - (1 : Int64)) q0) = (if ((q0 + ((p3 &&& (3 : Int32)).toInt64)) - (1 : Int64)) = q0 then (1 : Int32) else (0 : Int32)) then (1 : Int32) else (0 : Int32))), .val (.int (if (isR_r q2 q0) = (if q2 = q0 then (1 : Int32) else (0 : Int32)) then (1 : Int32) else (0 : Int32))), .val (.int (isR_r q1 q1)), .val (.int (if (isR_r ((q1 + (((Jvm.Free.XT.ushr p3 (2 : Int32)) &&& (3 : Int32)).toInt64)) - (1 : Int64)) q1) = (if ((q1 + (((Jvm.Free.XT.ushr p3 (2 : Int32)) &&& (3 : Int32)).toInt64)) - (1 : Int64)) = q1 then (1 : Int32) else (0 : Int32)) then (1 : Int32) else (0 : Int32))), .unset, .unset] [(.int (1 : Int32))])) t
      refine XS.goto X1142.here hx rfl (pc0 := 178) (pc' := 182) rfl (hb hby at_178) (by decide) (by decide) ?_
      try simp only [if_pos hc174] at k
      try simp only [if_pos hc174]
      exact k
    · show Steps p.tables e below (T1142.setTop (mkF m 174 #[.val (.long q0), .second, .val (.long q1), .second, .val (.long q2), .second, .val (.int p3), .val (.int p4), .val (.ref b929), .val (.long ((q0 + ((p3 &&& (3 : Int32)).toInt64)) - (1 : Int64))), .second, .val (.long ((q1 + (((Jvm.Free.XT.ushr p3 (2 : Int32)) &&& (3 : Int32)).toInt64)) - (1 : Int64))), .second, .val (.int (if (isR_r ((q0 + ((p3 &&& (3 : Int32)).toInt64)) - (1 : Int64)) q0) = (if ((q0 + ((p3 &&& (3 : Int32)).toInt64)) - (1 : Int64)) = q0 then (1 : Int32) else (0 : Int32)) then (1 : Int32) else (0 : Int32))), .val (.int (if (isR_r q2 q0) = (if q2 = q0 then (1 : Int32) else (0 : Int32)) then (1 : Int32) else (0 : Int32))), .val (.int (isR_r q1 q1)), .val (.int (if (isR_r ((q1 + (((Jvm.Free.XT.ushr p3 (2 : Int32)) &&& (3 : Int32)).toInt64)) - (1 : Int64)) q1) = (if ((q1 + (((Jvm.Free.XT.ushr p3 (2 : Int32)) &&& (3 : Int32)).toInt64)) - (1 : Int64)) = q1 then (1 : Int32) else (0 : Int32)) then (1 : Int32) else (0 : Int32))), .unset, .unset] [(.int (if q0 = q1 then (1 : Int32) else (0 : Int32))), (.int (isR_r q0 q1))])) t
      refine XS.icmpYes X1142.here hx rfl (pc0 := 174) (pc' := 181) rfl (hb hby at_174) rfl (feq hc174).2 (by decide) (by decide) ?_
      show Steps p.tables e below (T1142.setTop (mkF m 181 #[.val (.long q0), .second, .val (.long q1), .second, .val (.long q2), .second, .val (.int p3), .val (.int p4), .val (.ref b929), .val (.long ((q0 + ((p3 &&& (3 : Int32)).toInt64)) - (1 : Int64))), .second, .val (.long ((q1 + (((Jvm.Free.XT.ushr p3 (2 : Int32)) &&& (3 : Int32)).toInt64)) - (1 : Int64))), .second, .val (.int (if (isR_r ((q0 + ((p3 &&& (3 : Int32)).toInt64)) - (1 : Int64)) q0) = (if ((q0 + ((p3 &&& (3 : Int32)).toInt64)) - (1 : Int64)) = q0 then (1 : Int32) else (0 : Int32)) then (1 : Int32) else (0 : Int32))), .val (.int (if (isR_r q2 q0) = (if q2 = q0 then (1 : Int32) else (0 : Int32)) then (1 : Int32) else (0 : Int32))), .val (.int (isR_r q1 q1)), .val (.int (if (isR_r ((q1 + (((Jvm.Free.XT.ushr p3 (2 : Int32)) &&& (3 : Int32)).toInt64)) - (1 : Int64)) q1) = (if ((q1 + (((Jvm.Free.XT.ushr p3 (2 : Int32)) &&& (3 : Int32)).toInt64)) - (1 : Int64)) = q1 then (1 : Int32) else (0 : Int32)) then (1 : Int32) else (0 : Int32))), .unset, .unset] [])) t
      refine XS.iconst X1142.here hx rfl (hb hby at_181) ?_
      try simp only [if_neg hc174] at k
      try simp only [if_neg hc174]
      exact k
  refine own_goW (S' := T1142.setTop (mkF m 188 #[.val (.long q0), .second, .val (.long q1), .second, .val (.long q2), .second, .val (.int p3), .val (.int p4), .val (.ref b929), .val (.long ((q0 + ((p3 &&& (3 : Int32)).toInt64)) - (1 : Int64))), .second, .val (.long ((q1 + (((Jvm.Free.XT.ushr p3 (2 : Int32)) &&& (3 : Int32)).toInt64)) - (1 : Int64))), .second, .val (.int (if (isR_r ((q0 + ((p3 &&& (3 : Int32)).toInt64)) - (1 : Int64)) q0) = (if ((q0 + ((p3 &&& (3 : Int32)).toInt64)) - (1 : Int64)) = q0 then (1 : Int32) else (0 : Int32)) then (1 : Int32) else (0 : Int32))), .val (.int (if (isR_r q2 q0) = (if q2 = q0 then (1 : Int32) else (0 : Int32)) then (1 : Int32) else (0 : Int32))), .val (.int (isR_r q1 q1)), .val (.int (if (isR_r ((q1 + (((Jvm.Free.XT.ushr p3 (2 : Int32)) &&& (3 : Int32)).toInt64)) - (1 : Int64)) q1) = (if ((q1 + (((Jvm.Free.XT.ushr p3 (2 : Int32)) &&& (3 : Int32)).toInt64)) - (1 : Int64)) = q1 then (1 : Int32) else (0 : Int32)) then (1 : Int32) else (0 : Int32))), .val (.int (if (isR_r q0 q1) = (if q0 = q1 then (1 : Int32) else (0 : Int32)) then (1 : Int32) else (0 : Int32))), .unset] [(.long q2), (.ref b929)])) (fun t k => ?_) ?_
  · show Steps p.tables e below (T1142.setTop (mkF m 182 #[.val (.long q0), .second, .val (.long q1), .second, .val (.long q2), .second, .val (.int p3), .val (.int p4), .val (.ref b929), .val (.long ((q0 + ((p3 &&& (3 : Int32)).toInt64)) - (1 : Int64))), .second, .val (.long ((q1 + (((Jvm.Free.XT.ushr p3 (2 : Int32)) &&& (3 : Int32)).toInt64)) - (1 : Int64))), .second, .val (.int (if (isR_r ((q0 + ((p3 &&& (3 : Int32)).toInt64)) - (1 : Int64)) q0) = (if ((q0 + ((p3 &&& (3 : Int32)).toInt64)) - (1 : Int64)) = q0 then (1 : Int32) else (0 : Int32)) then (1 : Int32) else (0 : Int32))), .val (.int (if (isR_r q2 q0) = (if q2 = q0 then (1 : Int32) else (0 : Int32)) then (1 : Int32) else (0 : Int32))), .val (.int (isR_r q1 q1)), .val (.int (if (isR_r ((q1 + (((Jvm.Free.XT.ushr p3 (2 : Int32)) &&& (3 : Int32)).toInt64)) - (1 : Int64)) q1) = (if ((q1 + (((Jvm.Free.XT.ushr p3 (2 : Int32)) &&& (3 : Int32)).toInt64)) - (1 : Int64)) = q1 then (1 : Int32) else (0 : Int32)) then (1 : Int32) else (0 : Int32))), .unset, .unset] [(.int (if (isR_r q0 q1) = (if q0 = q1 then (1 : Int32) else (0 : Int32)) then (1 : Int32) else (0 : Int32)))])) t
    refine XS.istore X1142.here hx rfl (hb hby at_182) rfl (l' := #[.val (.long q0), .second, .val (.long q1), .second, .val (.long q2), .second, .val (.int p3), .val (.int p4), .val (.ref b929), .val (.long ((q0 + ((p3 &&& (3 : Int32)).toInt64)) - (1 : Int64))), .second, .val (.long ((q1 + (((Jvm.Free.XT.ushr p3 (2 : Int32)) &&& (3 : Int32)).toInt64)) - (1 : Int64))), .second, .val (.int (if (isR_r ((q0 + ((p3 &&& (3 : Int32)).toInt64)) - (1 : Int64)) q0) = (if ((q0 + ((p3 &&& (3 : Int32)).toInt64)) - (1 : Int64)) = q0 then (1 : Int32) else (0 : Int32)) then (1 : Int32) else (0 : Int32))), .val (.int (if (isR_r q2 q0) = (if q2 = q0 then (1 : Int32) else (0 : Int32)) then (1 : Int32) else (0 : Int32))), .val (.int (isR_r q1 q1)), .val (.int (if (isR_r ((q1 + (((Jvm.Free.XT.ushr p3 (2 : Int32)) &&& (3 : Int32)).toInt64)) - (1 : Int64)) q1) = (if ((q1 + (((Jvm.Free.XT.ushr p3 (2 : Int32)) &&& (3 : Int32)).toInt64)) - (1 : Int64)) = q1 then (1 : Int32) else (0 : Int32)) then (1 : Int32) else (0 : Int32))), .val (.int (if (isR_r q0 q1) = (if q0 = q1 then (1 : Int32) else (0 : Int32)) then (1 : Int32) else (0 : Int32))), .unset]) rfl ?_
    show Steps p.tables e below (T1142.setTop (mkF m 184 #[.val (.long q0), .second, .val (.long q1), .second, .val (.long q2), .second, .val (.int p3), .val (.int p4), .val (.ref b929), .val (.long ((q0 + ((p3 &&& (3 : Int32)).toInt64)) - (1 : Int64))), .second, .val (.long ((q1 + (((Jvm.Free.XT.ushr p3 (2 : Int32)) &&& (3 : Int32)).toInt64)) - (1 : Int64))), .second, .val (.int (if (isR_r ((q0 + ((p3 &&& (3 : Int32)).toInt64)) - (1 : Int64)) q0) = (if ((q0 + ((p3 &&& (3 : Int32)).toInt64)) - (1 : Int64)) = q0 then (1 : Int32) else (0 : Int32)) then (1 : Int32) else (0 : Int32))), .val (.int (if (isR_r q2 q0) = (if q2 = q0 then (1 : Int32) else (0 : Int32)) then (1 : Int32) else (0 : Int32))), .val (.int (isR_r q1 q1)), .val (.int (if (isR_r ((q1 + (((Jvm.Free.XT.ushr p3 (2 : Int32)) &&& (3 : Int32)).toInt64)) - (1 : Int64)) q1) = (if ((q1 + (((Jvm.Free.XT.ushr p3 (2 : Int32)) &&& (3 : Int32)).toInt64)) - (1 : Int64)) = q1 then (1 : Int32) else (0 : Int32)) then (1 : Int32) else (0 : Int32))), .val (.int (if (isR_r q0 q1) = (if q0 = q1 then (1 : Int32) else (0 : Int32)) then (1 : Int32) else (0 : Int32))), .unset] [])) t
    refine XS.aload X1142.here hx rfl (hb hby at_184) rfl rfl ?_
    show Steps p.tables e below (T1142.setTop (mkF m 186 #[.val (.long q0), .second, .val (.long q1), .second, .val (.long q2), .second, .val (.int p3), .val (.int p4), .val (.ref b929), .val (.long ((q0 + ((p3 &&& (3 : Int32)).toInt64)) - (1 : Int64))), .second, .val (.long ((q1 + (((Jvm.Free.XT.ushr p3 (2 : Int32)) &&& (3 : Int32)).toInt64)) - (1 : Int64))), .second, .val (.int (if (isR_r ((q0 + ((p3 &&& (3 : Int32)).toInt64)) - (1 : Int64)) q0) = (if ((q0 + ((p3 &&& (3 : Int32)).toInt64)) - (1 : Int64)) = q0 then (1 : Int32) else (0 : Int32)) then (1 : Int32) else (0 : Int32))), .val (.int (if (isR_r q2 q0) = (if q2 = q0 then (1 : Int32) else (0 : Int32)) then (1 : Int32) else (0 : Int32))), .val (.int (isR_r q1 q1)), .val (.int (if (isR_r ((q1 + (((Jvm.Free.XT.ushr p3 (2 : Int32)) &&& (3 : Int32)).toInt64)) - (1 : Int64)) q1) = (if ((q1 + (((Jvm.Free.XT.ushr p3 (2 : Int32)) &&& (3 : Int32)).toInt64)) - (1 : Int64)) = q1 then (1 : Int32) else (0 : Int32)) then (1 : Int32) else (0 : Int32))), .val (.int (if (isR_r q0 q1) = (if q0 = q1 then (1 : Int32) else (0 : Int32)) then (1 : Int32) else (0 : Int32))), .unset] [(.ref b929)])) t
    refine XS.lload X1142.here hx rfl (hb hby at_186) rfl ?_
    exact k
  obtain ⟨cq1146, kq1146, qa1146, qb1146, qc1146⟩ := isOf hZ e1142 p1113
  obtain ⟨_, _, ⟨T1146, L1146, kk1146, nn1146⟩, -, X1146, ⟨Lc1146, hQ1146, l1146, y1146, z1146⟩, st1146⟩ := X1142.virtualBack hx (y := (⟨"com/example/perigo/perigo/engine/network/Node", "isReachedBy", "(J)Z"⟩ : MethodName)) (z := (⟨"com/example/perigo/perigo/engine/network/Node", "isReachedBy", "(J)Z"⟩ : MethodName)) hown (mvT hZ (hw _ (List.mem_of_getElem? (i := 141) rfl))) (mvT hZ (hw _ (List.mem_of_getElem? (i := 142) rfl))) (notFace_of_selects (args := #[]) (mvT hZ (hw _ (List.mem_of_getElem? (i := 144) rfl)))) (mvT hZ (hw _ (List.mem_of_getElem? (i := 144) rfl))) (mvT hZ (hw _ (List.mem_of_getElem? (i := 143) rfl))) (by decide) (backOf (W := 0) (isR l Z a0 hw [] b929 q2 q1 T1110.heap n0 Z1132 p1114) hZ (hw _ (List.mem_of_getElem? (i := 145) rfl)) (hw _ (List.mem_of_getElem? (i := 2) rfl)) (by decide) (by decide)) qa1146 qc1146 (g := (mkF m 188 #[.val (.long q0), .second, .val (.long q1), .second, .val (.long q2), .second, .val (.int p3), .val (.int p4), .val (.ref b929), .val (.long ((q0 + ((p3 &&& (3 : Int32)).toInt64)) - (1 : Int64))), .second, .val (.long ((q1 + (((Jvm.Free.XT.ushr p3 (2 : Int32)) &&& (3 : Int32)).toInt64)) - (1 : Int64))), .second, .val (.int (if (isR_r ((q0 + ((p3 &&& (3 : Int32)).toInt64)) - (1 : Int64)) q0) = (if ((q0 + ((p3 &&& (3 : Int32)).toInt64)) - (1 : Int64)) = q0 then (1 : Int32) else (0 : Int32)) then (1 : Int32) else (0 : Int32))), .val (.int (if (isR_r q2 q0) = (if q2 = q0 then (1 : Int32) else (0 : Int32)) then (1 : Int32) else (0 : Int32))), .val (.int (isR_r q1 q1)), .val (.int (if (isR_r ((q1 + (((Jvm.Free.XT.ushr p3 (2 : Int32)) &&& (3 : Int32)).toInt64)) - (1 : Int64)) q1) = (if ((q1 + (((Jvm.Free.XT.ushr p3 (2 : Int32)) &&& (3 : Int32)).toInt64)) - (1 : Int64)) = q1 then (1 : Int32) else (0 : Int32)) then (1 : Int32) else (0 : Int32))), .val (.int (if (isR_r q0 q1) = (if q0 = q1 then (1 : Int32) else (0 : Int32)) then (1 : Int32) else (0 : Int32))), .unset] [(.long q2), (.ref b929)])) rfl (by rw [hml]; rfl) (Steps.refl _) (argsL := [(.long q2)]) (rest := []) (lenOf pd_213 rfl) rfl (by show 2 * 0 + _ ≤ _; exact Nat.le_of_eq rfl) (hb hby at_188) (fun _ _ => ⟨rfl, e1142, (by decide : 25 + 0 ≤ _), (by decide : 129 + 0 ≤ _)⟩)
  dsimp only [Pt.U, Pt.locs, Pt.cells, Pt.slots] at X1146 l1146 y1146 z1146 st1146 hQ1146
  subst l1146 y1146 z1146
  obtain ⟨rfl, N1147, e1146⟩ := hQ1146
  have N1149 := Fr.app N1145 N1147
  refine own_goTW st1146 ?_
  refine own_goW (S' := T1146.setTop (mkF m 195 #[.val (.long q0), .second, .val (.long q1), .second, .val (.long q2), .second, .val (.int p3), .val (.int p4), .val (.ref b929), .val (.long ((q0 + ((p3 &&& (3 : Int32)).toInt64)) - (1 : Int64))), .second, .val (.long ((q1 + (((Jvm.Free.XT.ushr p3 (2 : Int32)) &&& (3 : Int32)).toInt64)) - (1 : Int64))), .second, .val (.int (if (isR_r ((q0 + ((p3 &&& (3 : Int32)).toInt64)) - (1 : Int64)) q0) = (if ((q0 + ((p3 &&& (3 : Int32)).toInt64)) - (1 : Int64)) = q0 then (1 : Int32) else (0 : Int32)) then (1 : Int32) else (0 : Int32))), .val (.int (if (isR_r q2 q0) = (if q2 = q0 then (1 : Int32) else (0 : Int32)) then (1 : Int32) else (0 : Int32))), .val (.int (isR_r q1 q1)), .val (.int (if (isR_r ((q1 + (((Jvm.Free.XT.ushr p3 (2 : Int32)) &&& (3 : Int32)).toInt64)) - (1 : Int64)) q1) = (if ((q1 + (((Jvm.Free.XT.ushr p3 (2 : Int32)) &&& (3 : Int32)).toInt64)) - (1 : Int64)) = q1 then (1 : Int32) else (0 : Int32)) then (1 : Int32) else (0 : Int32))), .val (.int (if (isR_r q0 q1) = (if q0 = q1 then (1 : Int32) else (0 : Int32)) then (1 : Int32) else (0 : Int32))), .unset] [(.int (Jvm.Free.XT.cmpL q2 q1)), (.int (isR_r q2 q1))])) (fun t k => ?_) ?_
  · show Steps p.tables e below (T1146.setTop (mkF m 191 #[.val (.long q0), .second, .val (.long q1), .second, .val (.long q2), .second, .val (.int p3), .val (.int p4), .val (.ref b929), .val (.long ((q0 + ((p3 &&& (3 : Int32)).toInt64)) - (1 : Int64))), .second, .val (.long ((q1 + (((Jvm.Free.XT.ushr p3 (2 : Int32)) &&& (3 : Int32)).toInt64)) - (1 : Int64))), .second, .val (.int (if (isR_r ((q0 + ((p3 &&& (3 : Int32)).toInt64)) - (1 : Int64)) q0) = (if ((q0 + ((p3 &&& (3 : Int32)).toInt64)) - (1 : Int64)) = q0 then (1 : Int32) else (0 : Int32)) then (1 : Int32) else (0 : Int32))), .val (.int (if (isR_r q2 q0) = (if q2 = q0 then (1 : Int32) else (0 : Int32)) then (1 : Int32) else (0 : Int32))), .val (.int (isR_r q1 q1)), .val (.int (if (isR_r ((q1 + (((Jvm.Free.XT.ushr p3 (2 : Int32)) &&& (3 : Int32)).toInt64)) - (1 : Int64)) q1) = (if ((q1 + (((Jvm.Free.XT.ushr p3 (2 : Int32)) &&& (3 : Int32)).toInt64)) - (1 : Int64)) = q1 then (1 : Int32) else (0 : Int32)) then (1 : Int32) else (0 : Int32))), .val (.int (if (isR_r q0 q1) = (if q0 = q1 then (1 : Int32) else (0 : Int32)) then (1 : Int32) else (0 : Int32))), .unset] [(.int (isR_r q2 q1))])) t
    refine XS.lload X1146.here hx rfl (hb hby at_191) rfl ?_
    show Steps p.tables e below (T1146.setTop (mkF m 193 #[.val (.long q0), .second, .val (.long q1), .second, .val (.long q2), .second, .val (.int p3), .val (.int p4), .val (.ref b929), .val (.long ((q0 + ((p3 &&& (3 : Int32)).toInt64)) - (1 : Int64))), .second, .val (.long ((q1 + (((Jvm.Free.XT.ushr p3 (2 : Int32)) &&& (3 : Int32)).toInt64)) - (1 : Int64))), .second, .val (.int (if (isR_r ((q0 + ((p3 &&& (3 : Int32)).toInt64)) - (1 : Int64)) q0) = (if ((q0 + ((p3 &&& (3 : Int32)).toInt64)) - (1 : Int64)) = q0 then (1 : Int32) else (0 : Int32)) then (1 : Int32) else (0 : Int32))), .val (.int (if (isR_r q2 q0) = (if q2 = q0 then (1 : Int32) else (0 : Int32)) then (1 : Int32) else (0 : Int32))), .val (.int (isR_r q1 q1)), .val (.int (if (isR_r ((q1 + (((Jvm.Free.XT.ushr p3 (2 : Int32)) &&& (3 : Int32)).toInt64)) - (1 : Int64)) q1) = (if ((q1 + (((Jvm.Free.XT.ushr p3 (2 : Int32)) &&& (3 : Int32)).toInt64)) - (1 : Int64)) = q1 then (1 : Int32) else (0 : Int32)) then (1 : Int32) else (0 : Int32))), .val (.int (if (isR_r q0 q1) = (if q0 = q1 then (1 : Int32) else (0 : Int32)) then (1 : Int32) else (0 : Int32))), .unset] [(.long q2), (.int (isR_r q2 q1))])) t
    refine XS.lloadN X1146.here hx rfl (hb hby at_193) rfl ?_
    show Steps p.tables e below (T1146.setTop (mkF m 194 #[.val (.long q0), .second, .val (.long q1), .second, .val (.long q2), .second, .val (.int p3), .val (.int p4), .val (.ref b929), .val (.long ((q0 + ((p3 &&& (3 : Int32)).toInt64)) - (1 : Int64))), .second, .val (.long ((q1 + (((Jvm.Free.XT.ushr p3 (2 : Int32)) &&& (3 : Int32)).toInt64)) - (1 : Int64))), .second, .val (.int (if (isR_r ((q0 + ((p3 &&& (3 : Int32)).toInt64)) - (1 : Int64)) q0) = (if ((q0 + ((p3 &&& (3 : Int32)).toInt64)) - (1 : Int64)) = q0 then (1 : Int32) else (0 : Int32)) then (1 : Int32) else (0 : Int32))), .val (.int (if (isR_r q2 q0) = (if q2 = q0 then (1 : Int32) else (0 : Int32)) then (1 : Int32) else (0 : Int32))), .val (.int (isR_r q1 q1)), .val (.int (if (isR_r ((q1 + (((Jvm.Free.XT.ushr p3 (2 : Int32)) &&& (3 : Int32)).toInt64)) - (1 : Int64)) q1) = (if ((q1 + (((Jvm.Free.XT.ushr p3 (2 : Int32)) &&& (3 : Int32)).toInt64)) - (1 : Int64)) = q1 then (1 : Int32) else (0 : Int32)) then (1 : Int32) else (0 : Int32))), .val (.int (if (isR_r q0 q1) = (if q0 = q1 then (1 : Int32) else (0 : Int32)) then (1 : Int32) else (0 : Int32))), .unset] [(.long q1), (.long q2), (.int (isR_r q2 q1))])) t
    refine XS.lcmp X1146.here hx rfl (hb hby at_194) rfl ?_
    exact k
  refine own_goW (S' := T1146.setTop (mkF m 203 #[.val (.long q0), .second, .val (.long q1), .second, .val (.long q2), .second, .val (.int p3), .val (.int p4), .val (.ref b929), .val (.long ((q0 + ((p3 &&& (3 : Int32)).toInt64)) - (1 : Int64))), .second, .val (.long ((q1 + (((Jvm.Free.XT.ushr p3 (2 : Int32)) &&& (3 : Int32)).toInt64)) - (1 : Int64))), .second, .val (.int (if (isR_r ((q0 + ((p3 &&& (3 : Int32)).toInt64)) - (1 : Int64)) q0) = (if ((q0 + ((p3 &&& (3 : Int32)).toInt64)) - (1 : Int64)) = q0 then (1 : Int32) else (0 : Int32)) then (1 : Int32) else (0 : Int32))), .val (.int (if (isR_r q2 q0) = (if q2 = q0 then (1 : Int32) else (0 : Int32)) then (1 : Int32) else (0 : Int32))), .val (.int (isR_r q1 q1)), .val (.int (if (isR_r ((q1 + (((Jvm.Free.XT.ushr p3 (2 : Int32)) &&& (3 : Int32)).toInt64)) - (1 : Int64)) q1) = (if ((q1 + (((Jvm.Free.XT.ushr p3 (2 : Int32)) &&& (3 : Int32)).toInt64)) - (1 : Int64)) = q1 then (1 : Int32) else (0 : Int32)) then (1 : Int32) else (0 : Int32))), .val (.int (if (isR_r q0 q1) = (if q0 = q1 then (1 : Int32) else (0 : Int32)) then (1 : Int32) else (0 : Int32))), .unset] [(.int (if q2 = q1 then (1 : Int32) else (0 : Int32))), (.int (isR_r q2 q1))])) (fun t k => ?_) ?_
  · show Steps p.tables e below (T1146.setTop (mkF m 195 #[.val (.long q0), .second, .val (.long q1), .second, .val (.long q2), .second, .val (.int p3), .val (.int p4), .val (.ref b929), .val (.long ((q0 + ((p3 &&& (3 : Int32)).toInt64)) - (1 : Int64))), .second, .val (.long ((q1 + (((Jvm.Free.XT.ushr p3 (2 : Int32)) &&& (3 : Int32)).toInt64)) - (1 : Int64))), .second, .val (.int (if (isR_r ((q0 + ((p3 &&& (3 : Int32)).toInt64)) - (1 : Int64)) q0) = (if ((q0 + ((p3 &&& (3 : Int32)).toInt64)) - (1 : Int64)) = q0 then (1 : Int32) else (0 : Int32)) then (1 : Int32) else (0 : Int32))), .val (.int (if (isR_r q2 q0) = (if q2 = q0 then (1 : Int32) else (0 : Int32)) then (1 : Int32) else (0 : Int32))), .val (.int (isR_r q1 q1)), .val (.int (if (isR_r ((q1 + (((Jvm.Free.XT.ushr p3 (2 : Int32)) &&& (3 : Int32)).toInt64)) - (1 : Int64)) q1) = (if ((q1 + (((Jvm.Free.XT.ushr p3 (2 : Int32)) &&& (3 : Int32)).toInt64)) - (1 : Int64)) = q1 then (1 : Int32) else (0 : Int32)) then (1 : Int32) else (0 : Int32))), .val (.int (if (isR_r q0 q1) = (if q0 = q1 then (1 : Int32) else (0 : Int32)) then (1 : Int32) else (0 : Int32))), .unset] [(.int (Jvm.Free.XT.cmpL q2 q1)), (.int (isR_r q2 q1))])) t
    by_cases hc195 : q2 = q1
    · show Steps p.tables e below (T1146.setTop (mkF m 195 #[.val (.long q0), .second, .val (.long q1), .second, .val (.long q2), .second, .val (.int p3), .val (.int p4), .val (.ref b929), .val (.long ((q0 + ((p3 &&& (3 : Int32)).toInt64)) - (1 : Int64))), .second, .val (.long ((q1 + (((Jvm.Free.XT.ushr p3 (2 : Int32)) &&& (3 : Int32)).toInt64)) - (1 : Int64))), .second, .val (.int (if (isR_r ((q0 + ((p3 &&& (3 : Int32)).toInt64)) - (1 : Int64)) q0) = (if ((q0 + ((p3 &&& (3 : Int32)).toInt64)) - (1 : Int64)) = q0 then (1 : Int32) else (0 : Int32)) then (1 : Int32) else (0 : Int32))), .val (.int (if (isR_r q2 q0) = (if q2 = q0 then (1 : Int32) else (0 : Int32)) then (1 : Int32) else (0 : Int32))), .val (.int (isR_r q1 q1)), .val (.int (if (isR_r ((q1 + (((Jvm.Free.XT.ushr p3 (2 : Int32)) &&& (3 : Int32)).toInt64)) - (1 : Int64)) q1) = (if ((q1 + (((Jvm.Free.XT.ushr p3 (2 : Int32)) &&& (3 : Int32)).toInt64)) - (1 : Int64)) = q1 then (1 : Int32) else (0 : Int32)) then (1 : Int32) else (0 : Int32))), .val (.int (if (isR_r q0 q1) = (if q0 = q1 then (1 : Int32) else (0 : Int32)) then (1 : Int32) else (0 : Int32))), .unset] [(.int (Jvm.Free.XT.cmpL q2 q1)), (.int (isR_r q2 q1))])) t
      refine XS.ifNo X1146.here hx rfl (hb hby at_195) rfl (Jvm.Free.XT.ll_ne_f hc195) ?_
      show Steps p.tables e below (T1146.setTop (mkF m 198 #[.val (.long q0), .second, .val (.long q1), .second, .val (.long q2), .second, .val (.int p3), .val (.int p4), .val (.ref b929), .val (.long ((q0 + ((p3 &&& (3 : Int32)).toInt64)) - (1 : Int64))), .second, .val (.long ((q1 + (((Jvm.Free.XT.ushr p3 (2 : Int32)) &&& (3 : Int32)).toInt64)) - (1 : Int64))), .second, .val (.int (if (isR_r ((q0 + ((p3 &&& (3 : Int32)).toInt64)) - (1 : Int64)) q0) = (if ((q0 + ((p3 &&& (3 : Int32)).toInt64)) - (1 : Int64)) = q0 then (1 : Int32) else (0 : Int32)) then (1 : Int32) else (0 : Int32))), .val (.int (if (isR_r q2 q0) = (if q2 = q0 then (1 : Int32) else (0 : Int32)) then (1 : Int32) else (0 : Int32))), .val (.int (isR_r q1 q1)), .val (.int (if (isR_r ((q1 + (((Jvm.Free.XT.ushr p3 (2 : Int32)) &&& (3 : Int32)).toInt64)) - (1 : Int64)) q1) = (if ((q1 + (((Jvm.Free.XT.ushr p3 (2 : Int32)) &&& (3 : Int32)).toInt64)) - (1 : Int64)) = q1 then (1 : Int32) else (0 : Int32)) then (1 : Int32) else (0 : Int32))), .val (.int (if (isR_r q0 q1) = (if q0 = q1 then (1 : Int32) else (0 : Int32)) then (1 : Int32) else (0 : Int32))), .unset] [(.int (isR_r q2 q1))])) t
      refine XS.iconst X1146.here hx rfl (hb hby at_198) ?_
      show Steps p.tables e below (T1146.setTop (mkF m 199 #[.val (.long q0), .second, .val (.long q1), .second, .val (.long q2), .second, .val (.int p3), .val (.int p4), .val (.ref b929), .val (.long ((q0 + ((p3 &&& (3 : Int32)).toInt64)) - (1 : Int64))), .second, .val (.long ((q1 + (((Jvm.Free.XT.ushr p3 (2 : Int32)) &&& (3 : Int32)).toInt64)) - (1 : Int64))), .second, .val (.int (if (isR_r ((q0 + ((p3 &&& (3 : Int32)).toInt64)) - (1 : Int64)) q0) = (if ((q0 + ((p3 &&& (3 : Int32)).toInt64)) - (1 : Int64)) = q0 then (1 : Int32) else (0 : Int32)) then (1 : Int32) else (0 : Int32))), .val (.int (if (isR_r q2 q0) = (if q2 = q0 then (1 : Int32) else (0 : Int32)) then (1 : Int32) else (0 : Int32))), .val (.int (isR_r q1 q1)), .val (.int (if (isR_r ((q1 + (((Jvm.Free.XT.ushr p3 (2 : Int32)) &&& (3 : Int32)).toInt64)) - (1 : Int64)) q1) = (if ((q1 + (((Jvm.Free.XT.ushr p3 (2 : Int32)) &&& (3 : Int32)).toInt64)) - (1 : Int64)) = q1 then (1 : Int32) else (0 : Int32)) then (1 : Int32) else (0 : Int32))), .val (.int (if (isR_r q0 q1) = (if q0 = q1 then (1 : Int32) else (0 : Int32)) then (1 : Int32) else (0 : Int32))), .unset] [(.int (1 : Int32)), (.int (isR_r q2 q1))])) t
      refine XS.goto X1146.here hx rfl (pc0 := 199) (pc' := 203) rfl (hb hby at_199) (by decide) (by decide) ?_
      try simp only [if_pos hc195] at k
      try simp only [if_pos hc195]
      exact k
    · show Steps p.tables e below (T1146.setTop (mkF m 195 #[.val (.long q0), .second, .val (.long q1), .second, .val (.long q2), .second, .val (.int p3), .val (.int p4), .val (.ref b929), .val (.long ((q0 + ((p3 &&& (3 : Int32)).toInt64)) - (1 : Int64))), .second, .val (.long ((q1 + (((Jvm.Free.XT.ushr p3 (2 : Int32)) &&& (3 : Int32)).toInt64)) - (1 : Int64))), .second, .val (.int (if (isR_r ((q0 + ((p3 &&& (3 : Int32)).toInt64)) - (1 : Int64)) q0) = (if ((q0 + ((p3 &&& (3 : Int32)).toInt64)) - (1 : Int64)) = q0 then (1 : Int32) else (0 : Int32)) then (1 : Int32) else (0 : Int32))), .val (.int (if (isR_r q2 q0) = (if q2 = q0 then (1 : Int32) else (0 : Int32)) then (1 : Int32) else (0 : Int32))), .val (.int (isR_r q1 q1)), .val (.int (if (isR_r ((q1 + (((Jvm.Free.XT.ushr p3 (2 : Int32)) &&& (3 : Int32)).toInt64)) - (1 : Int64)) q1) = (if ((q1 + (((Jvm.Free.XT.ushr p3 (2 : Int32)) &&& (3 : Int32)).toInt64)) - (1 : Int64)) = q1 then (1 : Int32) else (0 : Int32)) then (1 : Int32) else (0 : Int32))), .val (.int (if (isR_r q0 q1) = (if q0 = q1 then (1 : Int32) else (0 : Int32)) then (1 : Int32) else (0 : Int32))), .unset] [(.int (Jvm.Free.XT.cmpL q2 q1)), (.int (isR_r q2 q1))])) t
      refine XS.ifYes X1146.here hx rfl (pc0 := 195) (pc' := 202) rfl (hb hby at_195) rfl (Jvm.Free.XT.ll_ne_t hc195) (by decide) (by decide) ?_
      show Steps p.tables e below (T1146.setTop (mkF m 202 #[.val (.long q0), .second, .val (.long q1), .second, .val (.long q2), .second, .val (.int p3), .val (.int p4), .val (.ref b929), .val (.long ((q0 + ((p3 &&& (3 : Int32)).toInt64)) - (1 : Int64))), .second, .val (.long ((q1 + (((Jvm.Free.XT.ushr p3 (2 : Int32)) &&& (3 : Int32)).toInt64)) - (1 : Int64))), .second, .val (.int (if (isR_r ((q0 + ((p3 &&& (3 : Int32)).toInt64)) - (1 : Int64)) q0) = (if ((q0 + ((p3 &&& (3 : Int32)).toInt64)) - (1 : Int64)) = q0 then (1 : Int32) else (0 : Int32)) then (1 : Int32) else (0 : Int32))), .val (.int (if (isR_r q2 q0) = (if q2 = q0 then (1 : Int32) else (0 : Int32)) then (1 : Int32) else (0 : Int32))), .val (.int (isR_r q1 q1)), .val (.int (if (isR_r ((q1 + (((Jvm.Free.XT.ushr p3 (2 : Int32)) &&& (3 : Int32)).toInt64)) - (1 : Int64)) q1) = (if ((q1 + (((Jvm.Free.XT.ushr p3 (2 : Int32)) &&& (3 : Int32)).toInt64)) - (1 : Int64)) = q1 then (1 : Int32) else (0 : Int32)) then (1 : Int32) else (0 : Int32))), .val (.int (if (isR_r q0 q1) = (if q0 = q1 then (1 : Int32) else (0 : Int32)) then (1 : Int32) else (0 : Int32))), .unset] [(.int (isR_r q2 q1))])) t
      refine XS.iconst X1146.here hx rfl (hb hby at_202) ?_
      try simp only [if_neg hc195] at k
      try simp only [if_neg hc195]
      exact k
  refine own_goW (S' := T1146.setTop (mkF m 211 #[.val (.long q0), .second, .val (.long q1), .second, .val (.long q2), .second, .val (.int p3), .val (.int p4), .val (.ref b929), .val (.long ((q0 + ((p3 &&& (3 : Int32)).toInt64)) - (1 : Int64))), .second, .val (.long ((q1 + (((Jvm.Free.XT.ushr p3 (2 : Int32)) &&& (3 : Int32)).toInt64)) - (1 : Int64))), .second, .val (.int (if (isR_r ((q0 + ((p3 &&& (3 : Int32)).toInt64)) - (1 : Int64)) q0) = (if ((q0 + ((p3 &&& (3 : Int32)).toInt64)) - (1 : Int64)) = q0 then (1 : Int32) else (0 : Int32)) then (1 : Int32) else (0 : Int32))), .val (.int (if (isR_r q2 q0) = (if q2 = q0 then (1 : Int32) else (0 : Int32)) then (1 : Int32) else (0 : Int32))), .val (.int (isR_r q1 q1)), .val (.int (if (isR_r ((q1 + (((Jvm.Free.XT.ushr p3 (2 : Int32)) &&& (3 : Int32)).toInt64)) - (1 : Int64)) q1) = (if ((q1 + (((Jvm.Free.XT.ushr p3 (2 : Int32)) &&& (3 : Int32)).toInt64)) - (1 : Int64)) = q1 then (1 : Int32) else (0 : Int32)) then (1 : Int32) else (0 : Int32))), .val (.int (if (isR_r q0 q1) = (if q0 = q1 then (1 : Int32) else (0 : Int32)) then (1 : Int32) else (0 : Int32))), .unset] [(.int (if (isR_r q2 q1) = (if q2 = q1 then (1 : Int32) else (0 : Int32)) then (1 : Int32) else (0 : Int32)))])) (fun t k => ?_) ?_
  · show Steps p.tables e below (T1146.setTop (mkF m 203 #[.val (.long q0), .second, .val (.long q1), .second, .val (.long q2), .second, .val (.int p3), .val (.int p4), .val (.ref b929), .val (.long ((q0 + ((p3 &&& (3 : Int32)).toInt64)) - (1 : Int64))), .second, .val (.long ((q1 + (((Jvm.Free.XT.ushr p3 (2 : Int32)) &&& (3 : Int32)).toInt64)) - (1 : Int64))), .second, .val (.int (if (isR_r ((q0 + ((p3 &&& (3 : Int32)).toInt64)) - (1 : Int64)) q0) = (if ((q0 + ((p3 &&& (3 : Int32)).toInt64)) - (1 : Int64)) = q0 then (1 : Int32) else (0 : Int32)) then (1 : Int32) else (0 : Int32))), .val (.int (if (isR_r q2 q0) = (if q2 = q0 then (1 : Int32) else (0 : Int32)) then (1 : Int32) else (0 : Int32))), .val (.int (isR_r q1 q1)), .val (.int (if (isR_r ((q1 + (((Jvm.Free.XT.ushr p3 (2 : Int32)) &&& (3 : Int32)).toInt64)) - (1 : Int64)) q1) = (if ((q1 + (((Jvm.Free.XT.ushr p3 (2 : Int32)) &&& (3 : Int32)).toInt64)) - (1 : Int64)) = q1 then (1 : Int32) else (0 : Int32)) then (1 : Int32) else (0 : Int32))), .val (.int (if (isR_r q0 q1) = (if q0 = q1 then (1 : Int32) else (0 : Int32)) then (1 : Int32) else (0 : Int32))), .unset] [(.int (if q2 = q1 then (1 : Int32) else (0 : Int32))), (.int (isR_r q2 q1))])) t
    by_cases hc203 : (isR_r q2 q1) = (if q2 = q1 then (1 : Int32) else (0 : Int32))
    · show Steps p.tables e below (T1146.setTop (mkF m 203 #[.val (.long q0), .second, .val (.long q1), .second, .val (.long q2), .second, .val (.int p3), .val (.int p4), .val (.ref b929), .val (.long ((q0 + ((p3 &&& (3 : Int32)).toInt64)) - (1 : Int64))), .second, .val (.long ((q1 + (((Jvm.Free.XT.ushr p3 (2 : Int32)) &&& (3 : Int32)).toInt64)) - (1 : Int64))), .second, .val (.int (if (isR_r ((q0 + ((p3 &&& (3 : Int32)).toInt64)) - (1 : Int64)) q0) = (if ((q0 + ((p3 &&& (3 : Int32)).toInt64)) - (1 : Int64)) = q0 then (1 : Int32) else (0 : Int32)) then (1 : Int32) else (0 : Int32))), .val (.int (if (isR_r q2 q0) = (if q2 = q0 then (1 : Int32) else (0 : Int32)) then (1 : Int32) else (0 : Int32))), .val (.int (isR_r q1 q1)), .val (.int (if (isR_r ((q1 + (((Jvm.Free.XT.ushr p3 (2 : Int32)) &&& (3 : Int32)).toInt64)) - (1 : Int64)) q1) = (if ((q1 + (((Jvm.Free.XT.ushr p3 (2 : Int32)) &&& (3 : Int32)).toInt64)) - (1 : Int64)) = q1 then (1 : Int32) else (0 : Int32)) then (1 : Int32) else (0 : Int32))), .val (.int (if (isR_r q0 q1) = (if q0 = q1 then (1 : Int32) else (0 : Int32)) then (1 : Int32) else (0 : Int32))), .unset] [(.int (if q2 = q1 then (1 : Int32) else (0 : Int32))), (.int (isR_r q2 q1))])) t
      refine XS.icmpNo X1146.here hx rfl (hb hby at_203) rfl (teq hc203).2 ?_
      show Steps p.tables e below (T1146.setTop (mkF m 206 #[.val (.long q0), .second, .val (.long q1), .second, .val (.long q2), .second, .val (.int p3), .val (.int p4), .val (.ref b929), .val (.long ((q0 + ((p3 &&& (3 : Int32)).toInt64)) - (1 : Int64))), .second, .val (.long ((q1 + (((Jvm.Free.XT.ushr p3 (2 : Int32)) &&& (3 : Int32)).toInt64)) - (1 : Int64))), .second, .val (.int (if (isR_r ((q0 + ((p3 &&& (3 : Int32)).toInt64)) - (1 : Int64)) q0) = (if ((q0 + ((p3 &&& (3 : Int32)).toInt64)) - (1 : Int64)) = q0 then (1 : Int32) else (0 : Int32)) then (1 : Int32) else (0 : Int32))), .val (.int (if (isR_r q2 q0) = (if q2 = q0 then (1 : Int32) else (0 : Int32)) then (1 : Int32) else (0 : Int32))), .val (.int (isR_r q1 q1)), .val (.int (if (isR_r ((q1 + (((Jvm.Free.XT.ushr p3 (2 : Int32)) &&& (3 : Int32)).toInt64)) - (1 : Int64)) q1) = (if ((q1 + (((Jvm.Free.XT.ushr p3 (2 : Int32)) &&& (3 : Int32)).toInt64)) - (1 : Int64)) = q1 then (1 : Int32) else (0 : Int32)) then (1 : Int32) else (0 : Int32))), .val (.int (if (isR_r q0 q1) = (if q0 = q1 then (1 : Int32) else (0 : Int32)) then (1 : Int32) else (0 : Int32))), .unset] [])) t
      refine XS.iconst X1146.here hx rfl (hb hby at_206) ?_
      show Steps p.tables e below (T1146.setTop (mkF m 207 #[.val (.long q0), .second, .val (.long q1), .second, .val (.long q2), .second, .val (.int p3), .val (.int p4), .val (.ref b929), .val (.long ((q0 + ((p3 &&& (3 : Int32)).toInt64)) - (1 : Int64))), .second, .val (.long ((q1 + (((Jvm.Free.XT.ushr p3 (2 : Int32)) &&& (3 : Int32)).toInt64)) - (1 : Int64))), .second, .val (.int (if (isR_r ((q0 + ((p3 &&& (3 : Int32)).toInt64)) - (1 : Int64)) q0) = (if ((q0 + ((p3 &&& (3 : Int32)).toInt64)) - (1 : Int64)) = q0 then (1 : Int32) else (0 : Int32)) then (1 : Int32) else (0 : Int32))), .val (.int (if (isR_r q2 q0) = (if q2 = q0 then (1 : Int32) else (0 : Int32)) then (1 : Int32) else (0 : Int32))), .val (.int (isR_r q1 q1)), .val (.int (if (isR_r ((q1 + (((Jvm.Free.XT.ushr p3 (2 : Int32)) &&& (3 : Int32)).toInt64)) - (1 : Int64)) q1) = (if ((q1 + (((Jvm.Free.XT.ushr p3 (2 : Int32)) &&& (3 : Int32)).toInt64)) - (1 : Int64)) = q1 then (1 : Int32) else (0 : Int32)) then (1 : Int32) else (0 : Int32))), .val (.int (if (isR_r q0 q1) = (if q0 = q1 then (1 : Int32) else (0 : Int32)) then (1 : Int32) else (0 : Int32))), .unset] [(.int (1 : Int32))])) t
      refine XS.goto X1146.here hx rfl (pc0 := 207) (pc' := 211) rfl (hb hby at_207) (by decide) (by decide) ?_
      try simp only [if_pos hc203] at k
      try simp only [if_pos hc203]
      exact k
    · show Steps p.tables e below (T1146.setTop (mkF m 203 #[.val (.long q0), .second, .val (.long q1), .second, .val (.long q2), .second, .val (.int p3), .val (.int p4), .val (.ref b929), .val (.long ((q0 + ((p3 &&& (3 : Int32)).toInt64)) - (1 : Int64))), .second, .val (.long ((q1 + (((Jvm.Free.XT.ushr p3 (2 : Int32)) &&& (3 : Int32)).toInt64)) - (1 : Int64))), .second, .val (.int (if (isR_r ((q0 + ((p3 &&& (3 : Int32)).toInt64)) - (1 : Int64)) q0) = (if ((q0 + ((p3 &&& (3 : Int32)).toInt64)) - (1 : Int64)) = q0 then (1 : Int32) else (0 : Int32)) then (1 : Int32) else (0 : Int32))), .val (.int (if (isR_r q2 q0) = (if q2 = q0 then (1 : Int32) else (0 : Int32)) then (1 : Int32) else (0 : Int32))), .val (.int (isR_r q1 q1)), .val (.int (if (isR_r ((q1 + (((Jvm.Free.XT.ushr p3 (2 : Int32)) &&& (3 : Int32)).toInt64)) - (1 : Int64)) q1) = (if ((q1 + (((Jvm.Free.XT.ushr p3 (2 : Int32)) &&& (3 : Int32)).toInt64)) - (1 : Int64)) = q1 then (1 : Int32) else (0 : Int32)) then (1 : Int32) else (0 : Int32))), .val (.int (if (isR_r q0 q1) = (if q0 = q1 then (1 : Int32) else (0 : Int32)) then (1 : Int32) else (0 : Int32))), .unset] [(.int (if q2 = q1 then (1 : Int32) else (0 : Int32))), (.int (isR_r q2 q1))])) t
      refine XS.icmpYes X1146.here hx rfl (pc0 := 203) (pc' := 210) rfl (hb hby at_203) rfl (feq hc203).2 (by decide) (by decide) ?_
      show Steps p.tables e below (T1146.setTop (mkF m 210 #[.val (.long q0), .second, .val (.long q1), .second, .val (.long q2), .second, .val (.int p3), .val (.int p4), .val (.ref b929), .val (.long ((q0 + ((p3 &&& (3 : Int32)).toInt64)) - (1 : Int64))), .second, .val (.long ((q1 + (((Jvm.Free.XT.ushr p3 (2 : Int32)) &&& (3 : Int32)).toInt64)) - (1 : Int64))), .second, .val (.int (if (isR_r ((q0 + ((p3 &&& (3 : Int32)).toInt64)) - (1 : Int64)) q0) = (if ((q0 + ((p3 &&& (3 : Int32)).toInt64)) - (1 : Int64)) = q0 then (1 : Int32) else (0 : Int32)) then (1 : Int32) else (0 : Int32))), .val (.int (if (isR_r q2 q0) = (if q2 = q0 then (1 : Int32) else (0 : Int32)) then (1 : Int32) else (0 : Int32))), .val (.int (isR_r q1 q1)), .val (.int (if (isR_r ((q1 + (((Jvm.Free.XT.ushr p3 (2 : Int32)) &&& (3 : Int32)).toInt64)) - (1 : Int64)) q1) = (if ((q1 + (((Jvm.Free.XT.ushr p3 (2 : Int32)) &&& (3 : Int32)).toInt64)) - (1 : Int64)) = q1 then (1 : Int32) else (0 : Int32)) then (1 : Int32) else (0 : Int32))), .val (.int (if (isR_r q0 q1) = (if q0 = q1 then (1 : Int32) else (0 : Int32)) then (1 : Int32) else (0 : Int32))), .unset] [])) t
      refine XS.iconst X1146.here hx rfl (hb hby at_210) ?_
      try simp only [if_neg hc203] at k
      try simp only [if_neg hc203]
      exact k
  refine own_goW (S' := T1146.setTop (mkF m 215 #[.val (.long q0), .second, .val (.long q1), .second, .val (.long q2), .second, .val (.int p3), .val (.int p4), .val (.ref b929), .val (.long ((q0 + ((p3 &&& (3 : Int32)).toInt64)) - (1 : Int64))), .second, .val (.long ((q1 + (((Jvm.Free.XT.ushr p3 (2 : Int32)) &&& (3 : Int32)).toInt64)) - (1 : Int64))), .second, .val (.int (if (isR_r ((q0 + ((p3 &&& (3 : Int32)).toInt64)) - (1 : Int64)) q0) = (if ((q0 + ((p3 &&& (3 : Int32)).toInt64)) - (1 : Int64)) = q0 then (1 : Int32) else (0 : Int32)) then (1 : Int32) else (0 : Int32))), .val (.int (if (isR_r q2 q0) = (if q2 = q0 then (1 : Int32) else (0 : Int32)) then (1 : Int32) else (0 : Int32))), .val (.int (isR_r q1 q1)), .val (.int (if (isR_r ((q1 + (((Jvm.Free.XT.ushr p3 (2 : Int32)) &&& (3 : Int32)).toInt64)) - (1 : Int64)) q1) = (if ((q1 + (((Jvm.Free.XT.ushr p3 (2 : Int32)) &&& (3 : Int32)).toInt64)) - (1 : Int64)) = q1 then (1 : Int32) else (0 : Int32)) then (1 : Int32) else (0 : Int32))), .val (.int (if (isR_r q0 q1) = (if q0 = q1 then (1 : Int32) else (0 : Int32)) then (1 : Int32) else (0 : Int32))), .val (.int (if (isR_r q2 q1) = (if q2 = q1 then (1 : Int32) else (0 : Int32)) then (1 : Int32) else (0 : Int32)))] [(.int (if (isR_r ((q0 + ((p3 &&& (3 : Int32)).toInt64)) - (1 : Int64)) q0) = (if ((q0 + ((p3 &&& (3 : Int32)).toInt64)) - (1 : Int64)) = q0 then (1 : Int32) else (0 : Int32)) then (1 : Int32) else (0 : Int32)))])) (fun t k => ?_) ?_
  · show Steps p.tables e below (T1146.setTop (mkF m 211 #[.val (.long q0), .second, .val (.long q1), .second, .val (.long q2), .second, .val (.int p3), .val (.int p4), .val (.ref b929), .val (.long ((q0 + ((p3 &&& (3 : Int32)).toInt64)) - (1 : Int64))), .second, .val (.long ((q1 + (((Jvm.Free.XT.ushr p3 (2 : Int32)) &&& (3 : Int32)).toInt64)) - (1 : Int64))), .second, .val (.int (if (isR_r ((q0 + ((p3 &&& (3 : Int32)).toInt64)) - (1 : Int64)) q0) = (if ((q0 + ((p3 &&& (3 : Int32)).toInt64)) - (1 : Int64)) = q0 then (1 : Int32) else (0 : Int32)) then (1 : Int32) else (0 : Int32))), .val (.int (if (isR_r q2 q0) = (if q2 = q0 then (1 : Int32) else (0 : Int32)) then (1 : Int32) else (0 : Int32))), .val (.int (isR_r q1 q1)), .val (.int (if (isR_r ((q1 + (((Jvm.Free.XT.ushr p3 (2 : Int32)) &&& (3 : Int32)).toInt64)) - (1 : Int64)) q1) = (if ((q1 + (((Jvm.Free.XT.ushr p3 (2 : Int32)) &&& (3 : Int32)).toInt64)) - (1 : Int64)) = q1 then (1 : Int32) else (0 : Int32)) then (1 : Int32) else (0 : Int32))), .val (.int (if (isR_r q0 q1) = (if q0 = q1 then (1 : Int32) else (0 : Int32)) then (1 : Int32) else (0 : Int32))), .unset] [(.int (if (isR_r q2 q1) = (if q2 = q1 then (1 : Int32) else (0 : Int32)) then (1 : Int32) else (0 : Int32)))])) t
    refine XS.istore X1146.here hx rfl (hb hby at_211) rfl (l' := #[.val (.long q0), .second, .val (.long q1), .second, .val (.long q2), .second, .val (.int p3), .val (.int p4), .val (.ref b929), .val (.long ((q0 + ((p3 &&& (3 : Int32)).toInt64)) - (1 : Int64))), .second, .val (.long ((q1 + (((Jvm.Free.XT.ushr p3 (2 : Int32)) &&& (3 : Int32)).toInt64)) - (1 : Int64))), .second, .val (.int (if (isR_r ((q0 + ((p3 &&& (3 : Int32)).toInt64)) - (1 : Int64)) q0) = (if ((q0 + ((p3 &&& (3 : Int32)).toInt64)) - (1 : Int64)) = q0 then (1 : Int32) else (0 : Int32)) then (1 : Int32) else (0 : Int32))), .val (.int (if (isR_r q2 q0) = (if q2 = q0 then (1 : Int32) else (0 : Int32)) then (1 : Int32) else (0 : Int32))), .val (.int (isR_r q1 q1)), .val (.int (if (isR_r ((q1 + (((Jvm.Free.XT.ushr p3 (2 : Int32)) &&& (3 : Int32)).toInt64)) - (1 : Int64)) q1) = (if ((q1 + (((Jvm.Free.XT.ushr p3 (2 : Int32)) &&& (3 : Int32)).toInt64)) - (1 : Int64)) = q1 then (1 : Int32) else (0 : Int32)) then (1 : Int32) else (0 : Int32))), .val (.int (if (isR_r q0 q1) = (if q0 = q1 then (1 : Int32) else (0 : Int32)) then (1 : Int32) else (0 : Int32))), .val (.int (if (isR_r q2 q1) = (if q2 = q1 then (1 : Int32) else (0 : Int32)) then (1 : Int32) else (0 : Int32)))]) rfl ?_
    show Steps p.tables e below (T1146.setTop (mkF m 213 #[.val (.long q0), .second, .val (.long q1), .second, .val (.long q2), .second, .val (.int p3), .val (.int p4), .val (.ref b929), .val (.long ((q0 + ((p3 &&& (3 : Int32)).toInt64)) - (1 : Int64))), .second, .val (.long ((q1 + (((Jvm.Free.XT.ushr p3 (2 : Int32)) &&& (3 : Int32)).toInt64)) - (1 : Int64))), .second, .val (.int (if (isR_r ((q0 + ((p3 &&& (3 : Int32)).toInt64)) - (1 : Int64)) q0) = (if ((q0 + ((p3 &&& (3 : Int32)).toInt64)) - (1 : Int64)) = q0 then (1 : Int32) else (0 : Int32)) then (1 : Int32) else (0 : Int32))), .val (.int (if (isR_r q2 q0) = (if q2 = q0 then (1 : Int32) else (0 : Int32)) then (1 : Int32) else (0 : Int32))), .val (.int (isR_r q1 q1)), .val (.int (if (isR_r ((q1 + (((Jvm.Free.XT.ushr p3 (2 : Int32)) &&& (3 : Int32)).toInt64)) - (1 : Int64)) q1) = (if ((q1 + (((Jvm.Free.XT.ushr p3 (2 : Int32)) &&& (3 : Int32)).toInt64)) - (1 : Int64)) = q1 then (1 : Int32) else (0 : Int32)) then (1 : Int32) else (0 : Int32))), .val (.int (if (isR_r q0 q1) = (if q0 = q1 then (1 : Int32) else (0 : Int32)) then (1 : Int32) else (0 : Int32))), .val (.int (if (isR_r q2 q1) = (if q2 = q1 then (1 : Int32) else (0 : Int32)) then (1 : Int32) else (0 : Int32)))] [])) t
    refine XS.iload X1146.here hx rfl (hb hby at_213) rfl ?_
    exact k
  refine own_goW (S' := T1146.setTop (mkF m 248 #[.val (.long q0), .second, .val (.long q1), .second, .val (.long q2), .second, .val (.int p3), .val (.int p4), .val (.ref b929), .val (.long ((q0 + ((p3 &&& (3 : Int32)).toInt64)) - (1 : Int64))), .second, .val (.long ((q1 + (((Jvm.Free.XT.ushr p3 (2 : Int32)) &&& (3 : Int32)).toInt64)) - (1 : Int64))), .second, .val (.int (if (isR_r ((q0 + ((p3 &&& (3 : Int32)).toInt64)) - (1 : Int64)) q0) = (if ((q0 + ((p3 &&& (3 : Int32)).toInt64)) - (1 : Int64)) = q0 then (1 : Int32) else (0 : Int32)) then (1 : Int32) else (0 : Int32))), .val (.int (if (isR_r q2 q0) = (if q2 = q0 then (1 : Int32) else (0 : Int32)) then (1 : Int32) else (0 : Int32))), .val (.int (isR_r q1 q1)), .val (.int (if (isR_r ((q1 + (((Jvm.Free.XT.ushr p3 (2 : Int32)) &&& (3 : Int32)).toInt64)) - (1 : Int64)) q1) = (if ((q1 + (((Jvm.Free.XT.ushr p3 (2 : Int32)) &&& (3 : Int32)).toInt64)) - (1 : Int64)) = q1 then (1 : Int32) else (0 : Int32)) then (1 : Int32) else (0 : Int32))), .val (.int (if (isR_r q0 q1) = (if q0 = q1 then (1 : Int32) else (0 : Int32)) then (1 : Int32) else (0 : Int32))), .val (.int (if (isR_r q2 q1) = (if q2 = q1 then (1 : Int32) else (0 : Int32)) then (1 : Int32) else (0 : Int32)))] [(.int (if (if (isR_r ((q0 + ((p3 &&& (3 : Int32)).toInt64)) - (1 : Int64)) q0) = (if ((q0 + ((p3 &&& (3 : Int32)).toInt64)) - (1 : Int64)) = q0 then (1 : Int32) else (0 : Int32)) then (1 : Int32) else (0 : Int32)) = (0 : Int32) then (0 : Int32) else (if (if (isR_r q2 q0) = (if q2 = q0 then (1 : Int32) else (0 : Int32)) then (1 : Int32) else (0 : Int32)) = (0 : Int32) then (0 : Int32) else (if (isR_r q1 q1) = (0 : Int32) then (0 : Int32) else (if (if (isR_r ((q1 + (((Jvm.Free.XT.ushr p3 (2 : Int32)) &&& (3 : Int32)).toInt64)) - (1 : Int64)) q1) = (if ((q1 + (((Jvm.Free.XT.ushr p3 (2 : Int32)) &&& (3 : Int32)).toInt64)) - (1 : Int64)) = q1 then (1 : Int32) else (0 : Int32)) then (1 : Int32) else (0 : Int32)) = (0 : Int32) then (0 : Int32) else (if (if (isR_r q0 q1) = (if q0 = q1 then (1 : Int32) else (0 : Int32)) then (1 : Int32) else (0 : Int32)) = (0 : Int32) then (0 : Int32) else (if (if (isR_r q2 q1) = (if q2 = q1 then (1 : Int32) else (0 : Int32)) then (1 : Int32) else (0 : Int32)) = (0 : Int32) then (0 : Int32) else (1 : Int32))))))))])) (fun t k => ?_) ?_
  · show Steps p.tables e below (T1146.setTop (mkF m 215 #[.val (.long q0), .second, .val (.long q1), .second, .val (.long q2), .second, .val (.int p3), .val (.int p4), .val (.ref b929), .val (.long ((q0 + ((p3 &&& (3 : Int32)).toInt64)) - (1 : Int64))), .second, .val (.long ((q1 + (((Jvm.Free.XT.ushr p3 (2 : Int32)) &&& (3 : Int32)).toInt64)) - (1 : Int64))), .second, .val (.int (if (isR_r ((q0 + ((p3 &&& (3 : Int32)).toInt64)) - (1 : Int64)) q0) = (if ((q0 + ((p3 &&& (3 : Int32)).toInt64)) - (1 : Int64)) = q0 then (1 : Int32) else (0 : Int32)) then (1 : Int32) else (0 : Int32))), .val (.int (if (isR_r q2 q0) = (if q2 = q0 then (1 : Int32) else (0 : Int32)) then (1 : Int32) else (0 : Int32))), .val (.int (isR_r q1 q1)), .val (.int (if (isR_r ((q1 + (((Jvm.Free.XT.ushr p3 (2 : Int32)) &&& (3 : Int32)).toInt64)) - (1 : Int64)) q1) = (if ((q1 + (((Jvm.Free.XT.ushr p3 (2 : Int32)) &&& (3 : Int32)).toInt64)) - (1 : Int64)) = q1 then (1 : Int32) else (0 : Int32)) then (1 : Int32) else (0 : Int32))), .val (.int (if (isR_r q0 q1) = (if q0 = q1 then (1 : Int32) else (0 : Int32)) then (1 : Int32) else (0 : Int32))), .val (.int (if (isR_r q2 q1) = (if q2 = q1 then (1 : Int32) else (0 : Int32)) then (1 : Int32) else (0 : Int32)))] [(.int (if (isR_r ((q0 + ((p3 &&& (3 : Int32)).toInt64)) - (1 : Int64)) q0) = (if ((q0 + ((p3 &&& (3 : Int32)).toInt64)) - (1 : Int64)) = q0 then (1 : Int32) else (0 : Int32)) then (1 : Int32) else (0 : Int32)))])) t
    by_cases hc215 : (if (isR_r ((q0 + ((p3 &&& (3 : Int32)).toInt64)) - (1 : Int64)) q0) = (if ((q0 + ((p3 &&& (3 : Int32)).toInt64)) - (1 : Int64)) = q0 then (1 : Int32) else (0 : Int32)) then (1 : Int32) else (0 : Int32)) = (0 : Int32)
    · show Steps p.tables e below (T1146.setTop (mkF m 215 #[.val (.long q0), .second, .val (.long q1), .second, .val (.long q2), .second, .val (.int p3), .val (.int p4), .val (.ref b929), .val (.long ((q0 + ((p3 &&& (3 : Int32)).toInt64)) - (1 : Int64))), .second, .val (.long ((q1 + (((Jvm.Free.XT.ushr p3 (2 : Int32)) &&& (3 : Int32)).toInt64)) - (1 : Int64))), .second, .val (.int (if (isR_r ((q0 + ((p3 &&& (3 : Int32)).toInt64)) - (1 : Int64)) q0) = (if ((q0 + ((p3 &&& (3 : Int32)).toInt64)) - (1 : Int64)) = q0 then (1 : Int32) else (0 : Int32)) then (1 : Int32) else (0 : Int32))), .val (.int (if (isR_r q2 q0) = (if q2 = q0 then (1 : Int32) else (0 : Int32)) then (1 : Int32) else (0 : Int32))), .val (.int (isR_r q1 q1)), .val (.int (if (isR_r ((q1 + (((Jvm.Free.XT.ushr p3 (2 : Int32)) &&& (3 : Int32)).toInt64)) - (1 : Int64)) q1) = (if ((q1 + (((Jvm.Free.XT.ushr p3 (2 : Int32)) &&& (3 : Int32)).toInt64)) - (1 : Int64)) = q1 then (1 : Int32) else (0 : Int32)) then (1 : Int32) else (0 : Int32))), .val (.int (if (isR_r q0 q1) = (if q0 = q1 then (1 : Int32) else (0 : Int32)) then (1 : Int32) else (0 : Int32))), .val (.int (if (isR_r q2 q1) = (if q2 = q1 then (1 : Int32) else (0 : Int32)) then (1 : Int32) else (0 : Int32)))] [(.int (if (isR_r ((q0 + ((p3 &&& (3 : Int32)).toInt64)) - (1 : Int64)) q0) = (if ((q0 + ((p3 &&& (3 : Int32)).toInt64)) - (1 : Int64)) = q0 then (1 : Int32) else (0 : Int32)) then (1 : Int32) else (0 : Int32)))])) t
      refine XS.ifYes X1146.here hx rfl (pc0 := 215) (pc' := 247) rfl (hb hby at_215) rfl ((if0 _ _).trans (teq hc215).1) (by decide) (by decide) ?_
      show Steps p.tables e below (T1146.setTop (mkF m 247 #[.val (.long q0), .second, .val (.long q1), .second, .val (.long q2), .second, .val (.int p3), .val (.int p4), .val (.ref b929), .val (.long ((q0 + ((p3 &&& (3 : Int32)).toInt64)) - (1 : Int64))), .second, .val (.long ((q1 + (((Jvm.Free.XT.ushr p3 (2 : Int32)) &&& (3 : Int32)).toInt64)) - (1 : Int64))), .second, .val (.int (if (isR_r ((q0 + ((p3 &&& (3 : Int32)).toInt64)) - (1 : Int64)) q0) = (if ((q0 + ((p3 &&& (3 : Int32)).toInt64)) - (1 : Int64)) = q0 then (1 : Int32) else (0 : Int32)) then (1 : Int32) else (0 : Int32))), .val (.int (if (isR_r q2 q0) = (if q2 = q0 then (1 : Int32) else (0 : Int32)) then (1 : Int32) else (0 : Int32))), .val (.int (isR_r q1 q1)), .val (.int (if (isR_r ((q1 + (((Jvm.Free.XT.ushr p3 (2 : Int32)) &&& (3 : Int32)).toInt64)) - (1 : Int64)) q1) = (if ((q1 + (((Jvm.Free.XT.ushr p3 (2 : Int32)) &&& (3 : Int32)).toInt64)) - (1 : Int64)) = q1 then (1 : Int32) else (0 : Int32)) then (1 : Int32) else (0 : Int32))), .val (.int (if (isR_r q0 q1) = (if q0 = q1 then (1 : Int32) else (0 : Int32)) then (1 : Int32) else (0 : Int32))), .val (.int (if (isR_r q2 q1) = (if q2 = q1 then (1 : Int32) else (0 : Int32)) then (1 : Int32) else (0 : Int32)))] [])) t
      refine XS.iconst X1146.here hx rfl (hb hby at_247) ?_
      try simp only [if_pos hc215] at k
      try simp only [if_pos hc215]
      exact k
    · show Steps p.tables e below (T1146.setTop (mkF m 215 #[.val (.long q0), .second, .val (.long q1), .second, .val (.long q2), .second, .val (.int p3), .val (.int p4), .val (.ref b929), .val (.long ((q0 + ((p3 &&& (3 : Int32)).toInt64)) - (1 : Int64))), .second, .val (.long ((q1 + (((Jvm.Free.XT.ushr p3 (2 : Int32)) &&& (3 : Int32)).toInt64)) - (1 : Int64))), .second, .val (.int (if (isR_r ((q0 + ((p3 &&& (3 : Int32)).toInt64)) - (1 : Int64)) q0) = (if ((q0 + ((p3 &&& (3 : Int32)).toInt64)) - (1 : Int64)) = q0 then (1 : Int32) else (0 : Int32)) then (1 : Int32) else (0 : Int32))), .val (.int (if (isR_r q2 q0) = (if q2 = q0 then (1 : Int32) else (0 : Int32)) then (1 : Int32) else (0 : Int32))), .val (.int (isR_r q1 q1)), .val (.int (if (isR_r ((q1 + (((Jvm.Free.XT.ushr p3 (2 : Int32)) &&& (3 : Int32)).toInt64)) - (1 : Int64)) q1) = (if ((q1 + (((Jvm.Free.XT.ushr p3 (2 : Int32)) &&& (3 : Int32)).toInt64)) - (1 : Int64)) = q1 then (1 : Int32) else (0 : Int32)) then (1 : Int32) else (0 : Int32))), .val (.int (if (isR_r q0 q1) = (if q0 = q1 then (1 : Int32) else (0 : Int32)) then (1 : Int32) else (0 : Int32))), .val (.int (if (isR_r q2 q1) = (if q2 = q1 then (1 : Int32) else (0 : Int32)) then (1 : Int32) else (0 : Int32)))] [(.int (if (isR_r ((q0 + ((p3 &&& (3 : Int32)).toInt64)) - (1 : Int64)) q0) = (if ((q0 + ((p3 &&& (3 : Int32)).toInt64)) - (1 : Int64)) = q0 then (1 : Int32) else (0 : Int32)) then (1 : Int32) else (0 : Int32)))])) t
      refine XS.ifNo X1146.here hx rfl (hb hby at_215) rfl ((if0 _ _).trans (feq hc215).1) ?_
      show Steps p.tables e below (T1146.setTop (mkF m 218 #[.val (.long q0), .second, .val (.long q1), .second, .val (.long q2), .second, .val (.int p3), .val (.int p4), .val (.ref b929), .val (.long ((q0 + ((p3 &&& (3 : Int32)).toInt64)) - (1 : Int64))), .second, .val (.long ((q1 + (((Jvm.Free.XT.ushr p3 (2 : Int32)) &&& (3 : Int32)).toInt64)) - (1 : Int64))), .second, .val (.int (if (isR_r ((q0 + ((p3 &&& (3 : Int32)).toInt64)) - (1 : Int64)) q0) = (if ((q0 + ((p3 &&& (3 : Int32)).toInt64)) - (1 : Int64)) = q0 then (1 : Int32) else (0 : Int32)) then (1 : Int32) else (0 : Int32))), .val (.int (if (isR_r q2 q0) = (if q2 = q0 then (1 : Int32) else (0 : Int32)) then (1 : Int32) else (0 : Int32))), .val (.int (isR_r q1 q1)), .val (.int (if (isR_r ((q1 + (((Jvm.Free.XT.ushr p3 (2 : Int32)) &&& (3 : Int32)).toInt64)) - (1 : Int64)) q1) = (if ((q1 + (((Jvm.Free.XT.ushr p3 (2 : Int32)) &&& (3 : Int32)).toInt64)) - (1 : Int64)) = q1 then (1 : Int32) else (0 : Int32)) then (1 : Int32) else (0 : Int32))), .val (.int (if (isR_r q0 q1) = (if q0 = q1 then (1 : Int32) else (0 : Int32)) then (1 : Int32) else (0 : Int32))), .val (.int (if (isR_r q2 q1) = (if q2 = q1 then (1 : Int32) else (0 : Int32)) then (1 : Int32) else (0 : Int32)))] [])) t
      refine XS.iload X1146.here hx rfl (hb hby at_218) rfl ?_
      by_cases hc220 : (if (isR_r q2 q0) = (if q2 = q0 then (1 : Int32) else (0 : Int32)) then (1 : Int32) else (0 : Int32)) = (0 : Int32)
      · show Steps p.tables e below (T1146.setTop (mkF m 220 #[.val (.long q0), .second, .val (.long q1), .second, .val (.long q2), .second, .val (.int p3), .val (.int p4), .val (.ref b929), .val (.long ((q0 + ((p3 &&& (3 : Int32)).toInt64)) - (1 : Int64))), .second, .val (.long ((q1 + (((Jvm.Free.XT.ushr p3 (2 : Int32)) &&& (3 : Int32)).toInt64)) - (1 : Int64))), .second, .val (.int (if (isR_r ((q0 + ((p3 &&& (3 : Int32)).toInt64)) - (1 : Int64)) q0) = (if ((q0 + ((p3 &&& (3 : Int32)).toInt64)) - (1 : Int64)) = q0 then (1 : Int32) else (0 : Int32)) then (1 : Int32) else (0 : Int32))), .val (.int (if (isR_r q2 q0) = (if q2 = q0 then (1 : Int32) else (0 : Int32)) then (1 : Int32) else (0 : Int32))), .val (.int (isR_r q1 q1)), .val (.int (if (isR_r ((q1 + (((Jvm.Free.XT.ushr p3 (2 : Int32)) &&& (3 : Int32)).toInt64)) - (1 : Int64)) q1) = (if ((q1 + (((Jvm.Free.XT.ushr p3 (2 : Int32)) &&& (3 : Int32)).toInt64)) - (1 : Int64)) = q1 then (1 : Int32) else (0 : Int32)) then (1 : Int32) else (0 : Int32))), .val (.int (if (isR_r q0 q1) = (if q0 = q1 then (1 : Int32) else (0 : Int32)) then (1 : Int32) else (0 : Int32))), .val (.int (if (isR_r q2 q1) = (if q2 = q1 then (1 : Int32) else (0 : Int32)) then (1 : Int32) else (0 : Int32)))] [(.int (if (isR_r q2 q0) = (if q2 = q0 then (1 : Int32) else (0 : Int32)) then (1 : Int32) else (0 : Int32)))])) t
        refine XS.ifYes X1146.here hx rfl (pc0 := 220) (pc' := 247) rfl (hb hby at_220) rfl ((if0 _ _).trans (teq hc220).1) (by decide) (by decide) ?_
        show Steps p.tables e below (T1146.setTop (mkF m 247 #[.val (.long q0), .second, .val (.long q1), .second, .val (.long q2), .second, .val (.int p3), .val (.int p4), .val (.ref b929), .val (.long ((q0 + ((p3 &&& (3 : Int32)).toInt64)) - (1 : Int64))), .second, .val (.long ((q1 + (((Jvm.Free.XT.ushr p3 (2 : Int32)) &&& (3 : Int32)).toInt64)) - (1 : Int64))), .second, .val (.int (if (isR_r ((q0 + ((p3 &&& (3 : Int32)).toInt64)) - (1 : Int64)) q0) = (if ((q0 + ((p3 &&& (3 : Int32)).toInt64)) - (1 : Int64)) = q0 then (1 : Int32) else (0 : Int32)) then (1 : Int32) else (0 : Int32))), .val (.int (if (isR_r q2 q0) = (if q2 = q0 then (1 : Int32) else (0 : Int32)) then (1 : Int32) else (0 : Int32))), .val (.int (isR_r q1 q1)), .val (.int (if (isR_r ((q1 + (((Jvm.Free.XT.ushr p3 (2 : Int32)) &&& (3 : Int32)).toInt64)) - (1 : Int64)) q1) = (if ((q1 + (((Jvm.Free.XT.ushr p3 (2 : Int32)) &&& (3 : Int32)).toInt64)) - (1 : Int64)) = q1 then (1 : Int32) else (0 : Int32)) then (1 : Int32) else (0 : Int32))), .val (.int (if (isR_r q0 q1) = (if q0 = q1 then (1 : Int32) else (0 : Int32)) then (1 : Int32) else (0 : Int32))), .val (.int (if (isR_r q2 q1) = (if q2 = q1 then (1 : Int32) else (0 : Int32)) then (1 : Int32) else (0 : Int32)))] [])) t
        refine XS.iconst X1146.here hx rfl (hb hby at_247) ?_
        try simp only [if_neg hc215, if_pos hc220] at k
        try simp only [if_neg hc215, if_pos hc220]
        exact k
      · show Steps p.tables e below (T1146.setTop (mkF m 220 #[.val (.long q0), .second, .val (.long q1), .second, .val (.long q2), .second, .val (.int p3), .val (.int p4), .val (.ref b929), .val (.long ((q0 + ((p3 &&& (3 : Int32)).toInt64)) - (1 : Int64))), .second, .val (.long ((q1 + (((Jvm.Free.XT.ushr p3 (2 : Int32)) &&& (3 : Int32)).toInt64)) - (1 : Int64))), .second, .val (.int (if (isR_r ((q0 + ((p3 &&& (3 : Int32)).toInt64)) - (1 : Int64)) q0) = (if ((q0 + ((p3 &&& (3 : Int32)).toInt64)) - (1 : Int64)) = q0 then (1 : Int32) else (0 : Int32)) then (1 : Int32) else (0 : Int32))), .val (.int (if (isR_r q2 q0) = (if q2 = q0 then (1 : Int32) else (0 : Int32)) then (1 : Int32) else (0 : Int32))), .val (.int (isR_r q1 q1)), .val (.int (if (isR_r ((q1 + (((Jvm.Free.XT.ushr p3 (2 : Int32)) &&& (3 : Int32)).toInt64)) - (1 : Int64)) q1) = (if ((q1 + (((Jvm.Free.XT.ushr p3 (2 : Int32)) &&& (3 : Int32)).toInt64)) - (1 : Int64)) = q1 then (1 : Int32) else (0 : Int32)) then (1 : Int32) else (0 : Int32))), .val (.int (if (isR_r q0 q1) = (if q0 = q1 then (1 : Int32) else (0 : Int32)) then (1 : Int32) else (0 : Int32))), .val (.int (if (isR_r q2 q1) = (if q2 = q1 then (1 : Int32) else (0 : Int32)) then (1 : Int32) else (0 : Int32)))] [(.int (if (isR_r q2 q0) = (if q2 = q0 then (1 : Int32) else (0 : Int32)) then (1 : Int32) else (0 : Int32)))])) t
        refine XS.ifNo X1146.here hx rfl (hb hby at_220) rfl ((if0 _ _).trans (feq hc220).1) ?_
        show Steps p.tables e below (T1146.setTop (mkF m 223 #[.val (.long q0), .second, .val (.long q1), .second, .val (.long q2), .second, .val (.int p3), .val (.int p4), .val (.ref b929), .val (.long ((q0 + ((p3 &&& (3 : Int32)).toInt64)) - (1 : Int64))), .second, .val (.long ((q1 + (((Jvm.Free.XT.ushr p3 (2 : Int32)) &&& (3 : Int32)).toInt64)) - (1 : Int64))), .second, .val (.int (if (isR_r ((q0 + ((p3 &&& (3 : Int32)).toInt64)) - (1 : Int64)) q0) = (if ((q0 + ((p3 &&& (3 : Int32)).toInt64)) - (1 : Int64)) = q0 then (1 : Int32) else (0 : Int32)) then (1 : Int32) else (0 : Int32))), .val (.int (if (isR_r q2 q0) = (if q2 = q0 then (1 : Int32) else (0 : Int32)) then (1 : Int32) else (0 : Int32))), .val (.int (isR_r q1 q1)), .val (.int (if (isR_r ((q1 + (((Jvm.Free.XT.ushr p3 (2 : Int32)) &&& (3 : Int32)).toInt64)) - (1 : Int64)) q1) = (if ((q1 + (((Jvm.Free.XT.ushr p3 (2 : Int32)) &&& (3 : Int32)).toInt64)) - (1 : Int64)) = q1 then (1 : Int32) else (0 : Int32)) then (1 : Int32) else (0 : Int32))), .val (.int (if (isR_r q0 q1) = (if q0 = q1 then (1 : Int32) else (0 : Int32)) then (1 : Int32) else (0 : Int32))), .val (.int (if (isR_r q2 q1) = (if q2 = q1 then (1 : Int32) else (0 : Int32)) then (1 : Int32) else (0 : Int32)))] [])) t
        refine XS.iload X1146.here hx rfl (hb hby at_223) rfl ?_
        by_cases hc225 : (isR_r q1 q1) = (0 : Int32)
        · show Steps p.tables e below (T1146.setTop (mkF m 225 #[.val (.long q0), .second, .val (.long q1), .second, .val (.long q2), .second, .val (.int p3), .val (.int p4), .val (.ref b929), .val (.long ((q0 + ((p3 &&& (3 : Int32)).toInt64)) - (1 : Int64))), .second, .val (.long ((q1 + (((Jvm.Free.XT.ushr p3 (2 : Int32)) &&& (3 : Int32)).toInt64)) - (1 : Int64))), .second, .val (.int (if (isR_r ((q0 + ((p3 &&& (3 : Int32)).toInt64)) - (1 : Int64)) q0) = (if ((q0 + ((p3 &&& (3 : Int32)).toInt64)) - (1 : Int64)) = q0 then (1 : Int32) else (0 : Int32)) then (1 : Int32) else (0 : Int32))), .val (.int (if (isR_r q2 q0) = (if q2 = q0 then (1 : Int32) else (0 : Int32)) then (1 : Int32) else (0 : Int32))), .val (.int (isR_r q1 q1)), .val (.int (if (isR_r ((q1 + (((Jvm.Free.XT.ushr p3 (2 : Int32)) &&& (3 : Int32)).toInt64)) - (1 : Int64)) q1) = (if ((q1 + (((Jvm.Free.XT.ushr p3 (2 : Int32)) &&& (3 : Int32)).toInt64)) - (1 : Int64)) = q1 then (1 : Int32) else (0 : Int32)) then (1 : Int32) else (0 : Int32))), .val (.int (if (isR_r q0 q1) = (if q0 = q1 then (1 : Int32) else (0 : Int32)) then (1 : Int32) else (0 : Int32))), .val (.int (if (isR_r q2 q1) = (if q2 = q1 then (1 : Int32) else (0 : Int32)) then (1 : Int32) else (0 : Int32)))] [(.int (isR_r q1 q1))])) t
          refine XS.ifYes X1146.here hx rfl (pc0 := 225) (pc' := 247) rfl (hb hby at_225) rfl ((if0 _ _).trans (teq hc225).1) (by decide) (by decide) ?_
          show Steps p.tables e below (T1146.setTop (mkF m 247 #[.val (.long q0), .second, .val (.long q1), .second, .val (.long q2), .second, .val (.int p3), .val (.int p4), .val (.ref b929), .val (.long ((q0 + ((p3 &&& (3 : Int32)).toInt64)) - (1 : Int64))), .second, .val (.long ((q1 + (((Jvm.Free.XT.ushr p3 (2 : Int32)) &&& (3 : Int32)).toInt64)) - (1 : Int64))), .second, .val (.int (if (isR_r ((q0 + ((p3 &&& (3 : Int32)).toInt64)) - (1 : Int64)) q0) = (if ((q0 + ((p3 &&& (3 : Int32)).toInt64)) - (1 : Int64)) = q0 then (1 : Int32) else (0 : Int32)) then (1 : Int32) else (0 : Int32))), .val (.int (if (isR_r q2 q0) = (if q2 = q0 then (1 : Int32) else (0 : Int32)) then (1 : Int32) else (0 : Int32))), .val (.int (isR_r q1 q1)), .val (.int (if (isR_r ((q1 + (((Jvm.Free.XT.ushr p3 (2 : Int32)) &&& (3 : Int32)).toInt64)) - (1 : Int64)) q1) = (if ((q1 + (((Jvm.Free.XT.ushr p3 (2 : Int32)) &&& (3 : Int32)).toInt64)) - (1 : Int64)) = q1 then (1 : Int32) else (0 : Int32)) then (1 : Int32) else (0 : Int32))), .val (.int (if (isR_r q0 q1) = (if q0 = q1 then (1 : Int32) else (0 : Int32)) then (1 : Int32) else (0 : Int32))), .val (.int (if (isR_r q2 q1) = (if q2 = q1 then (1 : Int32) else (0 : Int32)) then (1 : Int32) else (0 : Int32)))] [])) t
          refine XS.iconst X1146.here hx rfl (hb hby at_247) ?_
          try simp only [if_neg hc215, if_neg hc220, if_pos hc225] at k
          try simp only [if_neg hc215, if_neg hc220, if_pos hc225]
          exact k
        · show Steps p.tables e below (T1146.setTop (mkF m 225 #[.val (.long q0), .second, .val (.long q1), .second, .val (.long q2), .second, .val (.int p3), .val (.int p4), .val (.ref b929), .val (.long ((q0 + ((p3 &&& (3 : Int32)).toInt64)) - (1 : Int64))), .second, .val (.long ((q1 + (((Jvm.Free.XT.ushr p3 (2 : Int32)) &&& (3 : Int32)).toInt64)) - (1 : Int64))), .second, .val (.int (if (isR_r ((q0 + ((p3 &&& (3 : Int32)).toInt64)) - (1 : Int64)) q0) = (if ((q0 + ((p3 &&& (3 : Int32)).toInt64)) - (1 : Int64)) = q0 then (1 : Int32) else (0 : Int32)) then (1 : Int32) else (0 : Int32))), .val (.int (if (isR_r q2 q0) = (if q2 = q0 then (1 : Int32) else (0 : Int32)) then (1 : Int32) else (0 : Int32))), .val (.int (isR_r q1 q1)), .val (.int (if (isR_r ((q1 + (((Jvm.Free.XT.ushr p3 (2 : Int32)) &&& (3 : Int32)).toInt64)) - (1 : Int64)) q1) = (if ((q1 + (((Jvm.Free.XT.ushr p3 (2 : Int32)) &&& (3 : Int32)).toInt64)) - (1 : Int64)) = q1 then (1 : Int32) else (0 : Int32)) then (1 : Int32) else (0 : Int32))), .val (.int (if (isR_r q0 q1) = (if q0 = q1 then (1 : Int32) else (0 : Int32)) then (1 : Int32) else (0 : Int32))), .val (.int (if (isR_r q2 q1) = (if q2 = q1 then (1 : Int32) else (0 : Int32)) then (1 : Int32) else (0 : Int32)))] [(.int (isR_r q1 q1))])) t
          refine XS.ifNo X1146.here hx rfl (hb hby at_225) rfl ((if0 _ _).trans (feq hc225).1) ?_
          show Steps p.tables e below (T1146.setTop (mkF m 228 #[.val (.long q0), .second, .val (.long q1), .second, .val (.long q2), .second, .val (.int p3), .val (.int p4), .val (.ref b929), .val (.long ((q0 + ((p3 &&& (3 : Int32)).toInt64)) - (1 : Int64))), .second, .val (.long ((q1 + (((Jvm.Free.XT.ushr p3 (2 : Int32)) &&& (3 : Int32)).toInt64)) - (1 : Int64))), .second, .val (.int (if (isR_r ((q0 + ((p3 &&& (3 : Int32)).toInt64)) - (1 : Int64)) q0) = (if ((q0 + ((p3 &&& (3 : Int32)).toInt64)) - (1 : Int64)) = q0 then (1 : Int32) else (0 : Int32)) then (1 : Int32) else (0 : Int32))), .val (.int (if (isR_r q2 q0) = (if q2 = q0 then (1 : Int32) else (0 : Int32)) then (1 : Int32) else (0 : Int32))), .val (.int (isR_r q1 q1)), .val (.int (if (isR_r ((q1 + (((Jvm.Free.XT.ushr p3 (2 : Int32)) &&& (3 : Int32)).toInt64)) - (1 : Int64)) q1) = (if ((q1 + (((Jvm.Free.XT.ushr p3 (2 : Int32)) &&& (3 : Int32)).toInt64)) - (1 : Int64)) = q1 then (1 : Int32) else (0 : Int32)) then (1 : Int32) else (0 : Int32))), .val (.int (if (isR_r q0 q1) = (if q0 = q1 then (1 : Int32) else (0 : Int32)) then (1 : Int32) else (0 : Int32))), .val (.int (if (isR_r q2 q1) = (if q2 = q1 then (1 : Int32) else (0 : Int32)) then (1 : Int32) else (0 : Int32)))] [])) t
          refine XS.iload X1146.here hx rfl (hb hby at_228) rfl ?_
          by_cases hc230 : (if (isR_r ((q1 + (((Jvm.Free.XT.ushr p3 (2 : Int32)) &&& (3 : Int32)).toInt64)) - (1 : Int64)) q1) = (if ((q1 + (((Jvm.Free.XT.ushr p3 (2 : Int32)) &&& (3 : Int32)).toInt64)) - (1 : Int64)) = q1 then (1 : Int32) else (0 : Int32)) then (1 : Int32) else (0 : Int32)) = (0 : Int32)
          · show Steps p.tables e below (T1146.setTop (mkF m 230 #[.val (.long q0), .second, .val (.long q1), .second, .val (.long q2), .second, .val (.int p3), .val (.int p4), .val (.ref b929), .val (.long ((q0 + ((p3 &&& (3 : Int32)).toInt64)) - (1 : Int64))), .second, .val (.long ((q1 + (((Jvm.Free.XT.ushr p3 (2 : Int32)) &&& (3 : Int32)).toInt64)) - (1 : Int64))), .second, .val (.int (if (isR_r ((q0 + ((p3 &&& (3 : Int32)).toInt64)) - (1 : Int64)) q0) = (if ((q0 + ((p3 &&& (3 : Int32)).toInt64)) - (1 : Int64)) = q0 then (1 : Int32) else (0 : Int32)) then (1 : Int32) else (0 : Int32))), .val (.int (if (isR_r q2 q0) = (if q2 = q0 then (1 : Int32) else (0 : Int32)) then (1 : Int32) else (0 : Int32))), .val (.int (isR_r q1 q1)), .val (.int (if (isR_r ((q1 + (((Jvm.Free.XT.ushr p3 (2 : Int32)) &&& (3 : Int32)).toInt64)) - (1 : Int64)) q1) = (if ((q1 + (((Jvm.Free.XT.ushr p3 (2 : Int32)) &&& (3 : Int32)).toInt64)) - (1 : Int64)) = q1 then (1 : Int32) else (0 : Int32)) then (1 : Int32) else (0 : Int32))), .val (.int (if (isR_r q0 q1) = (if q0 = q1 then (1 : Int32) else (0 : Int32)) then (1 : Int32) else (0 : Int32))), .val (.int (if (isR_r q2 q1) = (if q2 = q1 then (1 : Int32) else (0 : Int32)) then (1 : Int32) else (0 : Int32)))] [(.int (if (isR_r ((q1 + (((Jvm.Free.XT.ushr p3 (2 : Int32)) &&& (3 : Int32)).toInt64)) - (1 : Int64)) q1) = (if ((q1 + (((Jvm.Free.XT.ushr p3 (2 : Int32)) &&& (3 : Int32)).toInt64)) - (1 : Int64)) = q1 then (1 : Int32) else (0 : Int32)) then (1 : Int32) else (0 : Int32)))])) t
            refine XS.ifYes X1146.here hx rfl (pc0 := 230) (pc' := 247) rfl (hb hby at_230) rfl ((if0 _ _).trans (teq hc230).1) (by decide) (by decide) ?_
            show Steps p.tables e below (T1146.setTop (mkF m 247 #[.val (.long q0), .second, .val (.long q1), .second, .val (.long q2), .second, .val (.int p3), .val (.int p4), .val (.ref b929), .val (.long ((q0 + ((p3 &&& (3 : Int32)).toInt64)) - (1 : Int64))), .second, .val (.long ((q1 + (((Jvm.Free.XT.ushr p3 (2 : Int32)) &&& (3 : Int32)).toInt64)) - (1 : Int64))), .second, .val (.int (if (isR_r ((q0 + ((p3 &&& (3 : Int32)).toInt64)) - (1 : Int64)) q0) = (if ((q0 + ((p3 &&& (3 : Int32)).toInt64)) - (1 : Int64)) = q0 then (1 : Int32) else (0 : Int32)) then (1 : Int32) else (0 : Int32))), .val (.int (if (isR_r q2 q0) = (if q2 = q0 then (1 : Int32) else (0 : Int32)) then (1 : Int32) else (0 : Int32))), .val (.int (isR_r q1 q1)), .val (.int (if (isR_r ((q1 + (((Jvm.Free.XT.ushr p3 (2 : Int32)) &&& (3 : Int32)).toInt64)) - (1 : Int64)) q1) = (if ((q1 + (((Jvm.Free.XT.ushr p3 (2 : Int32)) &&& (3 : Int32)).toInt64)) - (1 : Int64)) = q1 then (1 : Int32) else (0 : Int32)) then (1 : Int32) else (0 : Int32))), .val (.int (if (isR_r q0 q1) = (if q0 = q1 then (1 : Int32) else (0 : Int32)) then (1 : Int32) else (0 : Int32))), .val (.int (if (isR_r q2 q1) = (if q2 = q1 then (1 : Int32) else (0 : Int32)) then (1 : Int32) else (0 : Int32)))] [])) t
            refine XS.iconst X1146.here hx rfl (hb hby at_247) ?_
            try simp only [if_neg hc215, if_neg hc220, if_neg hc225, if_pos hc230] at k
            try simp only [if_neg hc215, if_neg hc220, if_neg hc225, if_pos hc230]
            exact k
          · show Steps p.tables e below (T1146.setTop (mkF m 230 #[.val (.long q0), .second, .val (.long q1), .second, .val (.long q2), .second, .val (.int p3), .val (.int p4), .val (.ref b929), .val (.long ((q0 + ((p3 &&& (3 : Int32)).toInt64)) - (1 : Int64))), .second, .val (.long ((q1 + (((Jvm.Free.XT.ushr p3 (2 : Int32)) &&& (3 : Int32)).toInt64)) - (1 : Int64))), .second, .val (.int (if (isR_r ((q0 + ((p3 &&& (3 : Int32)).toInt64)) - (1 : Int64)) q0) = (if ((q0 + ((p3 &&& (3 : Int32)).toInt64)) - (1 : Int64)) = q0 then (1 : Int32) else (0 : Int32)) then (1 : Int32) else (0 : Int32))), .val (.int (if (isR_r q2 q0) = (if q2 = q0 then (1 : Int32) else (0 : Int32)) then (1 : Int32) else (0 : Int32))), .val (.int (isR_r q1 q1)), .val (.int (if (isR_r ((q1 + (((Jvm.Free.XT.ushr p3 (2 : Int32)) &&& (3 : Int32)).toInt64)) - (1 : Int64)) q1) = (if ((q1 + (((Jvm.Free.XT.ushr p3 (2 : Int32)) &&& (3 : Int32)).toInt64)) - (1 : Int64)) = q1 then (1 : Int32) else (0 : Int32)) then (1 : Int32) else (0 : Int32))), .val (.int (if (isR_r q0 q1) = (if q0 = q1 then (1 : Int32) else (0 : Int32)) then (1 : Int32) else (0 : Int32))), .val (.int (if (isR_r q2 q1) = (if q2 = q1 then (1 : Int32) else (0 : Int32)) then (1 : Int32) else (0 : Int32)))] [(.int (if (isR_r ((q1 + (((Jvm.Free.XT.ushr p3 (2 : Int32)) &&& (3 : Int32)).toInt64)) - (1 : Int64)) q1) = (if ((q1 + (((Jvm.Free.XT.ushr p3 (2 : Int32)) &&& (3 : Int32)).toInt64)) - (1 : Int64)) = q1 then (1 : Int32) else (0 : Int32)) then (1 : Int32) else (0 : Int32)))])) t
            refine XS.ifNo X1146.here hx rfl (hb hby at_230) rfl ((if0 _ _).trans (feq hc230).1) ?_
            show Steps p.tables e below (T1146.setTop (mkF m 233 #[.val (.long q0), .second, .val (.long q1), .second, .val (.long q2), .second, .val (.int p3), .val (.int p4), .val (.ref b929), .val (.long ((q0 + ((p3 &&& (3 : Int32)).toInt64)) - (1 : Int64))), .second, .val (.long ((q1 + (((Jvm.Free.XT.ushr p3 (2 : Int32)) &&& (3 : Int32)).toInt64)) - (1 : Int64))), .second, .val (.int (if (isR_r ((q0 + ((p3 &&& (3 : Int32)).toInt64)) - (1 : Int64)) q0) = (if ((q0 + ((p3 &&& (3 : Int32)).toInt64)) - (1 : Int64)) = q0 then (1 : Int32) else (0 : Int32)) then (1 : Int32) else (0 : Int32))), .val (.int (if (isR_r q2 q0) = (if q2 = q0 then (1 : Int32) else (0 : Int32)) then (1 : Int32) else (0 : Int32))), .val (.int (isR_r q1 q1)), .val (.int (if (isR_r ((q1 + (((Jvm.Free.XT.ushr p3 (2 : Int32)) &&& (3 : Int32)).toInt64)) - (1 : Int64)) q1) = (if ((q1 + (((Jvm.Free.XT.ushr p3 (2 : Int32)) &&& (3 : Int32)).toInt64)) - (1 : Int64)) = q1 then (1 : Int32) else (0 : Int32)) then (1 : Int32) else (0 : Int32))), .val (.int (if (isR_r q0 q1) = (if q0 = q1 then (1 : Int32) else (0 : Int32)) then (1 : Int32) else (0 : Int32))), .val (.int (if (isR_r q2 q1) = (if q2 = q1 then (1 : Int32) else (0 : Int32)) then (1 : Int32) else (0 : Int32)))] [])) t
            refine XS.iload X1146.here hx rfl (hb hby at_233) rfl ?_
            by_cases hc235 : (if (isR_r q0 q1) = (if q0 = q1 then (1 : Int32) else (0 : Int32)) then (1 : Int32) else (0 : Int32)) = (0 : Int32)
            · show Steps p.tables e below (T1146.setTop (mkF m 235 #[.val (.long q0), .second, .val (.long q1), .second, .val (.long q2), .second, .val (.int p3), .val (.int p4), .val (.ref b929), .val (.long ((q0 + ((p3 &&& (3 : Int32)).toInt64)) - (1 : Int64))), .second, .val (.long ((q1 + (((Jvm.Free.XT.ushr p3 (2 : Int32)) &&& (3 : Int32)).toInt64)) - (1 : Int64))), .second, .val (.int (if (isR_r ((q0 + ((p3 &&& (3 : Int32)).toInt64)) - (1 : Int64)) q0) = (if ((q0 + ((p3 &&& (3 : Int32)).toInt64)) - (1 : Int64)) = q0 then (1 : Int32) else (0 : Int32)) then (1 : Int32) else (0 : Int32))), .val (.int (if (isR_r q2 q0) = (if q2 = q0 then (1 : Int32) else (0 : Int32)) then (1 : Int32) else (0 : Int32))), .val (.int (isR_r q1 q1)), .val (.int (if (isR_r ((q1 + (((Jvm.Free.XT.ushr p3 (2 : Int32)) &&& (3 : Int32)).toInt64)) - (1 : Int64)) q1) = (if ((q1 + (((Jvm.Free.XT.ushr p3 (2 : Int32)) &&& (3 : Int32)).toInt64)) - (1 : Int64)) = q1 then (1 : Int32) else (0 : Int32)) then (1 : Int32) else (0 : Int32))), .val (.int (if (isR_r q0 q1) = (if q0 = q1 then (1 : Int32) else (0 : Int32)) then (1 : Int32) else (0 : Int32))), .val (.int (if (isR_r q2 q1) = (if q2 = q1 then (1 : Int32) else (0 : Int32)) then (1 : Int32) else (0 : Int32)))] [(.int (if (isR_r q0 q1) = (if q0 = q1 then (1 : Int32) else (0 : Int32)) then (1 : Int32) else (0 : Int32)))])) t
              refine XS.ifYes X1146.here hx rfl (pc0 := 235) (pc' := 247) rfl (hb hby at_235) rfl ((if0 _ _).trans (teq hc235).1) (by decide) (by decide) ?_
              show Steps p.tables e below (T1146.setTop (mkF m 247 #[.val (.long q0), .second, .val (.long q1), .second, .val (.long q2), .second, .val (.int p3), .val (.int p4), .val (.ref b929), .val (.long ((q0 + ((p3 &&& (3 : Int32)).toInt64)) - (1 : Int64))), .second, .val (.long ((q1 + (((Jvm.Free.XT.ushr p3 (2 : Int32)) &&& (3 : Int32)).toInt64)) - (1 : Int64))), .second, .val (.int (if (isR_r ((q0 + ((p3 &&& (3 : Int32)).toInt64)) - (1 : Int64)) q0) = (if ((q0 + ((p3 &&& (3 : Int32)).toInt64)) - (1 : Int64)) = q0 then (1 : Int32) else (0 : Int32)) then (1 : Int32) else (0 : Int32))), .val (.int (if (isR_r q2 q0) = (if q2 = q0 then (1 : Int32) else (0 : Int32)) then (1 : Int32) else (0 : Int32))), .val (.int (isR_r q1 q1)), .val (.int (if (isR_r ((q1 + (((Jvm.Free.XT.ushr p3 (2 : Int32)) &&& (3 : Int32)).toInt64)) - (1 : Int64)) q1) = (if ((q1 + (((Jvm.Free.XT.ushr p3 (2 : Int32)) &&& (3 : Int32)).toInt64)) - (1 : Int64)) = q1 then (1 : Int32) else (0 : Int32)) then (1 : Int32) else (0 : Int32))), .val (.int (if (isR_r q0 q1) = (if q0 = q1 then (1 : Int32) else (0 : Int32)) then (1 : Int32) else (0 : Int32))), .val (.int (if (isR_r q2 q1) = (if q2 = q1 then (1 : Int32) else (0 : Int32)) then (1 : Int32) else (0 : Int32)))] [])) t
              refine XS.iconst X1146.here hx rfl (hb hby at_247) ?_
              try simp only [if_neg hc215, if_neg hc220, if_neg hc225, if_neg hc230, if_pos hc235] at k
              try simp only [if_neg hc215, if_neg hc220, if_neg hc225, if_neg hc230, if_pos hc235]
              exact k
            · show Steps p.tables e below (T1146.setTop (mkF m 235 #[.val (.long q0), .second, .val (.long q1), .second, .val (.long q2), .second, .val (.int p3), .val (.int p4), .val (.ref b929), .val (.long ((q0 + ((p3 &&& (3 : Int32)).toInt64)) - (1 : Int64))), .second, .val (.long ((q1 + (((Jvm.Free.XT.ushr p3 (2 : Int32)) &&& (3 : Int32)).toInt64)) - (1 : Int64))), .second, .val (.int (if (isR_r ((q0 + ((p3 &&& (3 : Int32)).toInt64)) - (1 : Int64)) q0) = (if ((q0 + ((p3 &&& (3 : Int32)).toInt64)) - (1 : Int64)) = q0 then (1 : Int32) else (0 : Int32)) then (1 : Int32) else (0 : Int32))), .val (.int (if (isR_r q2 q0) = (if q2 = q0 then (1 : Int32) else (0 : Int32)) then (1 : Int32) else (0 : Int32))), .val (.int (isR_r q1 q1)), .val (.int (if (isR_r ((q1 + (((Jvm.Free.XT.ushr p3 (2 : Int32)) &&& (3 : Int32)).toInt64)) - (1 : Int64)) q1) = (if ((q1 + (((Jvm.Free.XT.ushr p3 (2 : Int32)) &&& (3 : Int32)).toInt64)) - (1 : Int64)) = q1 then (1 : Int32) else (0 : Int32)) then (1 : Int32) else (0 : Int32))), .val (.int (if (isR_r q0 q1) = (if q0 = q1 then (1 : Int32) else (0 : Int32)) then (1 : Int32) else (0 : Int32))), .val (.int (if (isR_r q2 q1) = (if q2 = q1 then (1 : Int32) else (0 : Int32)) then (1 : Int32) else (0 : Int32)))] [(.int (if (isR_r q0 q1) = (if q0 = q1 then (1 : Int32) else (0 : Int32)) then (1 : Int32) else (0 : Int32)))])) t
              refine XS.ifNo X1146.here hx rfl (hb hby at_235) rfl ((if0 _ _).trans (feq hc235).1) ?_
              show Steps p.tables e below (T1146.setTop (mkF m 238 #[.val (.long q0), .second, .val (.long q1), .second, .val (.long q2), .second, .val (.int p3), .val (.int p4), .val (.ref b929), .val (.long ((q0 + ((p3 &&& (3 : Int32)).toInt64)) - (1 : Int64))), .second, .val (.long ((q1 + (((Jvm.Free.XT.ushr p3 (2 : Int32)) &&& (3 : Int32)).toInt64)) - (1 : Int64))), .second, .val (.int (if (isR_r ((q0 + ((p3 &&& (3 : Int32)).toInt64)) - (1 : Int64)) q0) = (if ((q0 + ((p3 &&& (3 : Int32)).toInt64)) - (1 : Int64)) = q0 then (1 : Int32) else (0 : Int32)) then (1 : Int32) else (0 : Int32))), .val (.int (if (isR_r q2 q0) = (if q2 = q0 then (1 : Int32) else (0 : Int32)) then (1 : Int32) else (0 : Int32))), .val (.int (isR_r q1 q1)), .val (.int (if (isR_r ((q1 + (((Jvm.Free.XT.ushr p3 (2 : Int32)) &&& (3 : Int32)).toInt64)) - (1 : Int64)) q1) = (if ((q1 + (((Jvm.Free.XT.ushr p3 (2 : Int32)) &&& (3 : Int32)).toInt64)) - (1 : Int64)) = q1 then (1 : Int32) else (0 : Int32)) then (1 : Int32) else (0 : Int32))), .val (.int (if (isR_r q0 q1) = (if q0 = q1 then (1 : Int32) else (0 : Int32)) then (1 : Int32) else (0 : Int32))), .val (.int (if (isR_r q2 q1) = (if q2 = q1 then (1 : Int32) else (0 : Int32)) then (1 : Int32) else (0 : Int32)))] [])) t
              refine XS.iload X1146.here hx rfl (hb hby at_238) rfl ?_
              by_cases hc240 : (if (isR_r q2 q1) = (if q2 = q1 then (1 : Int32) else (0 : Int32)) then (1 : Int32) else (0 : Int32)) = (0 : Int32)
              · show Steps p.tables e below (T1146.setTop (mkF m 240 #[.val (.long q0), .second, .val (.long q1), .second, .val (.long q2), .second, .val (.int p3), .val (.int p4), .val (.ref b929), .val (.long ((q0 + ((p3 &&& (3 : Int32)).toInt64)) - (1 : Int64))), .second, .val (.long ((q1 + (((Jvm.Free.XT.ushr p3 (2 : Int32)) &&& (3 : Int32)).toInt64)) - (1 : Int64))), .second, .val (.int (if (isR_r ((q0 + ((p3 &&& (3 : Int32)).toInt64)) - (1 : Int64)) q0) = (if ((q0 + ((p3 &&& (3 : Int32)).toInt64)) - (1 : Int64)) = q0 then (1 : Int32) else (0 : Int32)) then (1 : Int32) else (0 : Int32))), .val (.int (if (isR_r q2 q0) = (if q2 = q0 then (1 : Int32) else (0 : Int32)) then (1 : Int32) else (0 : Int32))), .val (.int (isR_r q1 q1)), .val (.int (if (isR_r ((q1 + (((Jvm.Free.XT.ushr p3 (2 : Int32)) &&& (3 : Int32)).toInt64)) - (1 : Int64)) q1) = (if ((q1 + (((Jvm.Free.XT.ushr p3 (2 : Int32)) &&& (3 : Int32)).toInt64)) - (1 : Int64)) = q1 then (1 : Int32) else (0 : Int32)) then (1 : Int32) else (0 : Int32))), .val (.int (if (isR_r q0 q1) = (if q0 = q1 then (1 : Int32) else (0 : Int32)) then (1 : Int32) else (0 : Int32))), .val (.int (if (isR_r q2 q1) = (if q2 = q1 then (1 : Int32) else (0 : Int32)) then (1 : Int32) else (0 : Int32)))] [(.int (if (isR_r q2 q1) = (if q2 = q1 then (1 : Int32) else (0 : Int32)) then (1 : Int32) else (0 : Int32)))])) t
                refine XS.ifYes X1146.here hx rfl (pc0 := 240) (pc' := 247) rfl (hb hby at_240) rfl ((if0 _ _).trans (teq hc240).1) (by decide) (by decide) ?_
                show Steps p.tables e below (T1146.setTop (mkF m 247 #[.val (.long q0), .second, .val (.long q1), .second, .val (.long q2), .second, .val (.int p3), .val (.int p4), .val (.ref b929), .val (.long ((q0 + ((p3 &&& (3 : Int32)).toInt64)) - (1 : Int64))), .second, .val (.long ((q1 + (((Jvm.Free.XT.ushr p3 (2 : Int32)) &&& (3 : Int32)).toInt64)) - (1 : Int64))), .second, .val (.int (if (isR_r ((q0 + ((p3 &&& (3 : Int32)).toInt64)) - (1 : Int64)) q0) = (if ((q0 + ((p3 &&& (3 : Int32)).toInt64)) - (1 : Int64)) = q0 then (1 : Int32) else (0 : Int32)) then (1 : Int32) else (0 : Int32))), .val (.int (if (isR_r q2 q0) = (if q2 = q0 then (1 : Int32) else (0 : Int32)) then (1 : Int32) else (0 : Int32))), .val (.int (isR_r q1 q1)), .val (.int (if (isR_r ((q1 + (((Jvm.Free.XT.ushr p3 (2 : Int32)) &&& (3 : Int32)).toInt64)) - (1 : Int64)) q1) = (if ((q1 + (((Jvm.Free.XT.ushr p3 (2 : Int32)) &&& (3 : Int32)).toInt64)) - (1 : Int64)) = q1 then (1 : Int32) else (0 : Int32)) then (1 : Int32) else (0 : Int32))), .val (.int (if (isR_r q0 q1) = (if q0 = q1 then (1 : Int32) else (0 : Int32)) then (1 : Int32) else (0 : Int32))), .val (.int (if (isR_r q2 q1) = (if q2 = q1 then (1 : Int32) else (0 : Int32)) then (1 : Int32) else (0 : Int32)))] [])) t
                refine XS.iconst X1146.here hx rfl (hb hby at_247) ?_
                try simp only [if_neg hc215, if_neg hc220, if_neg hc225, if_neg hc230, if_neg hc235, if_pos hc240] at k
                try simp only [if_neg hc215, if_neg hc220, if_neg hc225, if_neg hc230, if_neg hc235, if_pos hc240]
                exact k
              · show Steps p.tables e below (T1146.setTop (mkF m 240 #[.val (.long q0), .second, .val (.long q1), .second, .val (.long q2), .second, .val (.int p3), .val (.int p4), .val (.ref b929), .val (.long ((q0 + ((p3 &&& (3 : Int32)).toInt64)) - (1 : Int64))), .second, .val (.long ((q1 + (((Jvm.Free.XT.ushr p3 (2 : Int32)) &&& (3 : Int32)).toInt64)) - (1 : Int64))), .second, .val (.int (if (isR_r ((q0 + ((p3 &&& (3 : Int32)).toInt64)) - (1 : Int64)) q0) = (if ((q0 + ((p3 &&& (3 : Int32)).toInt64)) - (1 : Int64)) = q0 then (1 : Int32) else (0 : Int32)) then (1 : Int32) else (0 : Int32))), .val (.int (if (isR_r q2 q0) = (if q2 = q0 then (1 : Int32) else (0 : Int32)) then (1 : Int32) else (0 : Int32))), .val (.int (isR_r q1 q1)), .val (.int (if (isR_r ((q1 + (((Jvm.Free.XT.ushr p3 (2 : Int32)) &&& (3 : Int32)).toInt64)) - (1 : Int64)) q1) = (if ((q1 + (((Jvm.Free.XT.ushr p3 (2 : Int32)) &&& (3 : Int32)).toInt64)) - (1 : Int64)) = q1 then (1 : Int32) else (0 : Int32)) then (1 : Int32) else (0 : Int32))), .val (.int (if (isR_r q0 q1) = (if q0 = q1 then (1 : Int32) else (0 : Int32)) then (1 : Int32) else (0 : Int32))), .val (.int (if (isR_r q2 q1) = (if q2 = q1 then (1 : Int32) else (0 : Int32)) then (1 : Int32) else (0 : Int32)))] [(.int (if (isR_r q2 q1) = (if q2 = q1 then (1 : Int32) else (0 : Int32)) then (1 : Int32) else (0 : Int32)))])) t
                refine XS.ifNo X1146.here hx rfl (hb hby at_240) rfl ((if0 _ _).trans (feq hc240).1) ?_
                show Steps p.tables e below (T1146.setTop (mkF m 243 #[.val (.long q0), .second, .val (.long q1), .second, .val (.long q2), .second, .val (.int p3), .val (.int p4), .val (.ref b929), .val (.long ((q0 + ((p3 &&& (3 : Int32)).toInt64)) - (1 : Int64))), .second, .val (.long ((q1 + (((Jvm.Free.XT.ushr p3 (2 : Int32)) &&& (3 : Int32)).toInt64)) - (1 : Int64))), .second, .val (.int (if (isR_r ((q0 + ((p3 &&& (3 : Int32)).toInt64)) - (1 : Int64)) q0) = (if ((q0 + ((p3 &&& (3 : Int32)).toInt64)) - (1 : Int64)) = q0 then (1 : Int32) else (0 : Int32)) then (1 : Int32) else (0 : Int32))), .val (.int (if (isR_r q2 q0) = (if q2 = q0 then (1 : Int32) else (0 : Int32)) then (1 : Int32) else (0 : Int32))), .val (.int (isR_r q1 q1)), .val (.int (if (isR_r ((q1 + (((Jvm.Free.XT.ushr p3 (2 : Int32)) &&& (3 : Int32)).toInt64)) - (1 : Int64)) q1) = (if ((q1 + (((Jvm.Free.XT.ushr p3 (2 : Int32)) &&& (3 : Int32)).toInt64)) - (1 : Int64)) = q1 then (1 : Int32) else (0 : Int32)) then (1 : Int32) else (0 : Int32))), .val (.int (if (isR_r q0 q1) = (if q0 = q1 then (1 : Int32) else (0 : Int32)) then (1 : Int32) else (0 : Int32))), .val (.int (if (isR_r q2 q1) = (if q2 = q1 then (1 : Int32) else (0 : Int32)) then (1 : Int32) else (0 : Int32)))] [])) t
                refine XS.iconst X1146.here hx rfl (hb hby at_243) ?_
                show Steps p.tables e below (T1146.setTop (mkF m 244 #[.val (.long q0), .second, .val (.long q1), .second, .val (.long q2), .second, .val (.int p3), .val (.int p4), .val (.ref b929), .val (.long ((q0 + ((p3 &&& (3 : Int32)).toInt64)) - (1 : Int64))), .second, .val (.long ((q1 + (((Jvm.Free.XT.ushr p3 (2 : Int32)) &&& (3 : Int32)).toInt64)) - (1 : Int64))), .second, .val (.int (if (isR_r ((q0 + ((p3 &&& (3 : Int32)).toInt64)) - (1 : Int64)) q0) = (if ((q0 + ((p3 &&& (3 : Int32)).toInt64)) - (1 : Int64)) = q0 then (1 : Int32) else (0 : Int32)) then (1 : Int32) else (0 : Int32))), .val (.int (if (isR_r q2 q0) = (if q2 = q0 then (1 : Int32) else (0 : Int32)) then (1 : Int32) else (0 : Int32))), .val (.int (isR_r q1 q1)), .val (.int (if (isR_r ((q1 + (((Jvm.Free.XT.ushr p3 (2 : Int32)) &&& (3 : Int32)).toInt64)) - (1 : Int64)) q1) = (if ((q1 + (((Jvm.Free.XT.ushr p3 (2 : Int32)) &&& (3 : Int32)).toInt64)) - (1 : Int64)) = q1 then (1 : Int32) else (0 : Int32)) then (1 : Int32) else (0 : Int32))), .val (.int (if (isR_r q0 q1) = (if q0 = q1 then (1 : Int32) else (0 : Int32)) then (1 : Int32) else (0 : Int32))), .val (.int (if (isR_r q2 q1) = (if q2 = q1 then (1 : Int32) else (0 : Int32)) then (1 : Int32) else (0 : Int32)))] [(.int (1 : Int32))])) t
                refine XS.goto X1146.here hx rfl (pc0 := 244) (pc' := 248) rfl (hb hby at_244) (by decide) (by decide) ?_
                try simp only [if_neg hc215, if_neg hc220, if_neg hc225, if_neg hc230, if_neg hc235, if_neg hc240] at k
                try simp only [if_neg hc215, if_neg hc220, if_neg hc225, if_neg hc230, if_neg hc235, if_neg hc240]
                exact k
  have hfin : (if (if (isR_r ((q0 + ((p3 &&& (3 : Int32)).toInt64)) - (1 : Int64)) q0) = (if ((q0 + ((p3 &&& (3 : Int32)).toInt64)) - (1 : Int64)) = q0 then (1 : Int32) else (0 : Int32)) then (1 : Int32) else (0 : Int32)) = (0 : Int32) then (0 : Int32) else (if (if (isR_r q2 q0) = (if q2 = q0 then (1 : Int32) else (0 : Int32)) then (1 : Int32) else (0 : Int32)) = (0 : Int32) then (0 : Int32) else (if (isR_r q1 q1) = (0 : Int32) then (0 : Int32) else (if (if (isR_r ((q1 + (((Jvm.Free.XT.ushr p3 (2 : Int32)) &&& (3 : Int32)).toInt64)) - (1 : Int64)) q1) = (if ((q1 + (((Jvm.Free.XT.ushr p3 (2 : Int32)) &&& (3 : Int32)).toInt64)) - (1 : Int64)) = q1 then (1 : Int32) else (0 : Int32)) then (1 : Int32) else (0 : Int32)) = (0 : Int32) then (0 : Int32) else (if (if (isR_r q0 q1) = (if q0 = q1 then (1 : Int32) else (0 : Int32)) then (1 : Int32) else (0 : Int32)) = (0 : Int32) then (0 : Int32) else (if (if (isR_r q2 q1) = (if q2 = q1 then (1 : Int32) else (0 : Int32)) then (1 : Int32) else (0 : Int32)) = (0 : Int32) then (0 : Int32) else (1 : Int32))))))) = (1 : Int32) := by simp [own_isR]
  rw [hfin]
  obtain ⟨fs, hr, hrun, hended, hW, hsame⟩ := X1146.leave (v := some (.int (1 : Int32))) (fun h => by rw [Bd.returns] at h; cases h)
  refine own_endW (v := some (.int (1 : Int32))) ?_ hrun hended ?_ (hS.ended hW (by show _ ≤ T1146.heap.size; rw [e1146]; exact hk1133) hsame) (by decide) (by decide)
  · show Steps p.tables e below (T1146.setTop (mkF m 248 #[.val (.long q0), .second, .val (.long q1), .second, .val (.long q2), .second, .val (.int p3), .val (.int p4), .val (.ref b929), .val (.long ((q0 + ((p3 &&& (3 : Int32)).toInt64)) - (1 : Int64))), .second, .val (.long ((q1 + (((Jvm.Free.XT.ushr p3 (2 : Int32)) &&& (3 : Int32)).toInt64)) - (1 : Int64))), .second, .val (.int (if (isR_r ((q0 + ((p3 &&& (3 : Int32)).toInt64)) - (1 : Int64)) q0) = (if ((q0 + ((p3 &&& (3 : Int32)).toInt64)) - (1 : Int64)) = q0 then (1 : Int32) else (0 : Int32)) then (1 : Int32) else (0 : Int32))), .val (.int (if (isR_r q2 q0) = (if q2 = q0 then (1 : Int32) else (0 : Int32)) then (1 : Int32) else (0 : Int32))), .val (.int (isR_r q1 q1)), .val (.int (if (isR_r ((q1 + (((Jvm.Free.XT.ushr p3 (2 : Int32)) &&& (3 : Int32)).toInt64)) - (1 : Int64)) q1) = (if ((q1 + (((Jvm.Free.XT.ushr p3 (2 : Int32)) &&& (3 : Int32)).toInt64)) - (1 : Int64)) = q1 then (1 : Int32) else (0 : Int32)) then (1 : Int32) else (0 : Int32))), .val (.int (if (isR_r q0 q1) = (if q0 = q1 then (1 : Int32) else (0 : Int32)) then (1 : Int32) else (0 : Int32))), .val (.int (if (isR_r q2 q1) = (if q2 = q1 then (1 : Int32) else (0 : Int32)) then (1 : Int32) else (0 : Int32)))] [(.int (1 : Int32))])) _
    exact retN X1146 hx (t := .boolean) Bd.returns (by simp) (hb hby at_248) hr
  · show Qrm0 Z q0 q1 q2 p3 p4 w_s_COMPACT_STRINGS w_s_SIOOBE_FORMATTER h0 n0 _ T1146.heap _
    rw [e1146]
    exact ⟨rfl, N1149⟩
set_option maxRecDepth 65536 in
set_option maxHeartbeats 40000000 in
theorem comes_1 {Post : Tables → Env → Array Value → State → Outcome → State → Prop} (hpost : ∀ tb e args s v u, (limb_1_1.after args s (.returned v) u = true ∧ limb_1_2.after args s (.returned v) u = true ∧ True) → ReturnedEndW s (.returned v) u (Jvm.fieldLocs frame_1_writes args s ++ Jvm.arrayLocs frame_1_arrays args s ++ Jvm.staticLocs frame_1_statics s) 56 4352 → Post tb e args s (.returned v) u) :
    ArmFor flags0 classFile x code maxLocals ret World_1 tables_1 room_1 Calls_1 rest_1 Pre_1 Post := by
  intro l hfl _ _ p e ha hc hk s m args below hf hA hF happ hP
  obtain ⟨hcalls, hrest, hpre⟩ := hP
  obtain ⟨-, -, -, hnamed, -, -, -, hat⟩ := (Spec.applies_iff hf).mp happ
  obtain ⟨hg, hn⟩ := and_e (Cond.before_iff.mp (show (Jvm.Cond.and given_1 narrow_1).before args s = true from hpre))
  obtain ⟨g1150, g1151⟩ := and_e hg
  obtain ⟨g1152, g1153⟩ := and_e g1151
  obtain ⟨g1154, g1155⟩ := and_e g1153
  obtain ⟨g1156, g1157⟩ := and_e g1155
  obtain ⟨g1158, g1159⟩ := and_e g1157
  obtain ⟨w0, w1, w2, w3, w4, rfl⟩ : ∃ w0 w1 w2 w3 w4 : Value, args = #[w0, w1, w2, w3, w4] := by
    have hs : args.size = 5 := by simpa [Cond.value, given_1] using g1150
    obtain ⟨L⟩ := args
    match L, hs with
    | [w0, w1, w2, w3, w4], _ => exact ⟨w0, w1, w2, w3, w4, rfl⟩
  have hw := fun d (hd : d ∈ tables_1) => atoms_spec (ws := Jvm.Cond.code x code maxLocals ret :: tables_1) hat d (List.mem_cons_of_mem _ hd)
  have hfit : Fit s := fun {y c} hc i hi => by
    obtain ⟨ha, rfl⟩ := Array.getElem?_eq_some_iff.mp hc
    have q := List.all_eq_true.mp ((Array.all_eq_true_iff_forall_mem.mp hF) _ (Array.getElem_mem ha)) i (List.mem_range.mpr hi)
    simpa [Array.getElem?_eq_getElem hi] using q
  obtain ⟨hsets, hown0⟩ := atoms_of _ (rest_1_c_eq ▸ (show rest_1_c.before _ s = true from hrest))
  have hr0 := Cond.before_iff.mp hown0
  obtain ⟨i0, ei0⟩ := isL_v g1152
  obtain rfl : w0 = (.long i0) := Option.some.inj ei0
  obtain ⟨i1, ei1⟩ := isL_v g1154
  obtain rfl : w1 = (.long i1) := Option.some.inj ei1
  obtain ⟨i2, ei2⟩ := isL_v g1156
  obtain rfl : w2 = (.long i2) := Option.some.inj ei2
  obtain ⟨i3, ei3⟩ := is_v g1158
  obtain rfl : w3 = (.int i3) := Option.some.inj ei3
  obtain ⟨i4, ei4⟩ := is_v g1159
  obtain rfl : w4 = (.int i4) := Option.some.inj ei4
  obtain ⟨i_cs, e_cs⟩ := is_v (Cond.before_iff.mp (hsets _ (List.mem_of_getElem? (i := 1) rfl)))
  have S_cs : Sta s s.heap "java/lang/String" "COMPACT_STRINGS" "Z" (.int i_cs) := Sta.start e_cs (Or.inl (hsets _ (List.mem_of_getElem? (i := 0) rfl)))
  have c_cs : ¬ (i_cs = (0 : Int32)) := gotF (Cond.eq_ints e_cs (Term.int_eval (0))) (not_v (Cond.before_iff.mp (hsets _ (List.mem_of_getElem? (i := 2) rfl))))
  obtain ⟨v_si, e_si, r_si⟩ := isR_v (Cond.before_iff.mp (hsets _ (List.mem_of_getElem? (i := 8) rfl)))
  have S_si : Sta s s.heap "jdk/internal/util/Preconditions" "SIOOBE_FORMATTER" "Ljava/util/function/BiFunction;" v_si := Sta.start e_si (Or.inl (hsets _ (List.mem_of_getElem? (i := 7) rfl)))
  obtain ⟨n, o, h1, h2, h3, _, L, rfl, ⟨rfl, N⟩, hq⟩ := rm0 l s _ hw tables_1 i0 i1 i2 i3 i4 i_cs v_si s.heap s.heap.size (Nat.le_refl _) c_cs (Old.start s) (hcalls.1 _ (List.mem_of_getElem? (i := 2) rfl)) (hcalls.1 _ (List.mem_of_getElem? (i := 3) rfl)) (hsets _ (List.mem_of_getElem? (i := 2) rfl)) S_cs r_si S_si p e ha hc hk s m _ below hf ((Spec.applies_iff_loose hf).mp happ).1 ⟨rfl, State.Warmed39.refl s, rfl, IB.start⟩ trivial
  refine ⟨n, _, h1, h2, h3, hpost _ _ _ _ _ _ ⟨Cond.after_iff.mpr rfl, Cond.after_iff.mpr (eq_i res_at (Term.int_eval (1)) rfl), trivial⟩ ⟨hq.1, hq.2.1, hq.2.2.1, (hq.2.2.2.sift fun y hy => Or.inr (N y hy)).mono (by decide) (by decide)⟩⟩
theorem main_1_1 : Claimed_1_1 := comes_1 fun _ _ _ _ _ _ h hF => ⟨h.1, hF⟩
theorem main_1_2 : Claimed_1_2 := comes_1 fun _ _ _ _ _ _ h hF => ⟨h.2.1, hF⟩
end Jvm.Pilot.@@N@@
namespace Jvm.Pilot.@@N@@
open Jvm Jvm.ClassFile Sem Op Lib Jvm.Free Jvm.Stand Jvm.Pilot.@@N@@.Jvm.D
/-! MADE BY PROGRAM (witnessworld.py) out of the Statement's table words and the real class files: 26 classes; the members and pool entries that the words name. The judged class is class 1, her method 1. -/
namespace start1
open Jvm.ClassFile
def u (s : String) : CpInfo := .utf8 (stringToUtf16 s)
/-- a pool by its gaps: so many unusable entries, then the entry; so many at the end -/
def gap : Nat → List CpInfo → List CpInfo
  | 0, r => r
  | n + 1, r => .unusable :: gap n r
def poolList (es : List (Nat × CpInfo)) (last : Nat) : List CpInfo := es.foldr (fun e r => gap e.1 (e.2 :: r)) (gap last [])
def pool (es : List (Nat × CpInfo)) (last : Nat) : Array CpInfo := ⟨poolList es last⟩
def fileOf (pool : Array CpInfo) (this : Nat) (attrs : Array Attribute := #[]) (ms : Array MethodInfo := #[]) (fl : Nat := 33) (sup : Nat := 0) (ifs : Array Nat := #[]) (fds : Array FieldInfo := #[]) : ClassFile where
  minorVersion := 0
  majorVersion := 65
  constantPool := pool
  accessFlags := fl
  thisClass := this
  superClass := sup
  interfaces := ifs
  fields := fds
  methods := ms
  attributes := attrs
def plain (name : String) (sup : Option ClassId) : Class where
  name := name
  kind := .ordinary
  loader := none
  accessFlags := 33
  super := sup
  interfaces := #[]
  cf := none
  fields := #[]
  methods := #[]
  instanceTypes := #[]
  staticTypes := #[]
  resolved := #[]
  callSites := []
  init := .initialized
  statics := none
  mirror := none

def pool0 : Array CpInfo := pool [(5, u "<init>"), (0, u "()V"), (1, .class_ 10), (1, u "java/lang/Object")] 113

def k0c0 : Code := { maxStack := 0, maxLocals := 1, code := object_method_1_code, exceptionTable := #[], attributes := #[] }
def k0m0 : Method := { name := "<init>", desc := "()V", sig := { parameters := [], returnType := none }, accessFlags := 1, code := some k0c0 }
/-- java/lang/Object -/
def k0 : Class := { plain "java/lang/Object" none with
  accessFlags := 33
  interfaces := #[]
  cf := some (fileOf pool0 8 #[] #[{ accessFlags := 1, nameIndex := 5, descriptorIndex := 6, attributes := #[] }] 33 0 #[] #[])
  fields := #[]
  methods := #[k0m0]
  instanceTypes := #[]
  staticTypes := #[]
  resolved := Array.replicate 124 none
  statics := none }

def pool1 : Array CpInfo := pool [(2, .class_ 4), (1, u "java/lang/Object"), (0, u "<init>"), (0, u "()V"), (0, .class_ 8), (0, u "com/example/perigo/perigo/engine/network/Node"), (0, .class_ 10), (0, u "com/example/perigo/perigo/engine/event/Medium"), (0, .string 12), (0, u "card"), (0, .string 14), (0, u "1"), (0, .methodref 9 16), (0, .nameAndType 5 17), (0, u "(Ljava/lang/String;Ljava/lang/String;)V"), (0, .methodref 7 19), (0, .nameAndType 5 20), (0, u "(Lcom/example/perigo/perigo/engine/event/Medium;)V"), (0, .methodref 7 22), (0, .nameAndType 23 24), (0, u "markReached"), (0, u "(JI)V"), (0, .methodref 7 26), (0, .nameAndType 27 28), (0, u "isReachedBy"), (0, u "(J)Z"), (0, .class_ 30), (0, u "com/example/perigo/perigo/engine/network/NodeIsReachedByPinLaw"), (2, u "law"), (0, u "(JJJII)Z")] 3

def k1m0 : Method := { name := "<init>", desc := "()V", sig := { parameters := [], returnType := none }, accessFlags := 1, code := none }
def k1c1 : Code := { maxStack := 6, maxLocals := 19, code := code, exceptionTable := #[], attributes := #[] }
def k1m1 : Method := { name := "law", desc := "(JJJII)Z", sig := { parameters := [.long, .long, .long, .int, .int], returnType := some .boolean }, accessFlags := 9, code := some k1c1 }
/-- com/example/perigo/perigo/engine/network/NodeIsReachedByPinLaw -/
def k1 : Class := { plain "com/example/perigo/perigo/engine/network/NodeIsReachedByPinLaw" (some 0) with
  accessFlags := 49
  interfaces := #[]
  cf := some (fileOf pool1 29 #[] #[{ accessFlags := 1, nameIndex := 5, descriptorIndex := 6, attributes := #[] }, { accessFlags := 9, nameIndex := 33, descriptorIndex := 34, attributes := #[] }] 49 2 #[] #[])
  fields := #[]
  methods := #[k1m0, k1m1]
  instanceTypes := #[]
  staticTypes := #[]
  resolved := Array.replicate 38 none
  statics := none }

def pool2 : Array CpInfo := pool [(1, .methodref 2 3), (0, .class_ 4), (0, .nameAndType 5 6), (0, u "java/lang/Object"), (0, u "<init>"), (0, u "()V"), (0, .class_ 8), (0, u "com/example/perigo/perigo/engine/network/Timeline"), (0, .methodref 7 3), (0, .fieldref 11 12), (0, .class_ 13), (0, .nameAndType 14 15), (0, u "com/example/perigo/perigo/engine/network/Node"), (0, u "events"), (0, u "Lcom/example/perigo/perigo/engine/network/Timeline;"), (0, .class_ 17), (0, u "java/util/HashMap"), (0, .methodref 16 3), (0, .fieldref 11 20), (0, .nameAndType 21 22), (0, u "eventsByType"), (0, u "Ljava/util/Map;"), (0, .fieldref 11 24), (0, .nameAndType 25 15), (0, u "frauds"), (0, .fieldref 11 27), (0, .nameAndType 28 29), (0, u "knownSeconds"), (0, u "[J"), (0, .fieldref 11 31), (0, .nameAndType 32 33), (0, u "knownNanos"), (0, u "[I"), (0, .fieldref 11 35), (0, .nameAndType 36 37), (0, u "others"), (0, u "[Lcom/example/perigo/perigo/engine/network/Node;"), (0, .fieldref 11 39), (0, .nameAndType 40 41), (0, u "besideInTimeOrder"), (0, u "Z"), (0, .fieldref 11 43), (0, .nameAndType 44 22), (0, u "firstJoins"), (0, .fieldref 11 46), (0, .nameAndType 47 48), (0, u "medium"), (0, u "Lcom/example/perigo/perigo/engine/event/Medium;"), (4, .methodref 54 55), (0, .class_ 56), (0, .nameAndType 57 58), (0, u "com/example/perigo/perigo/engine/event/Medium"), (0, u "value"), (0, u "()Ljava/lang/String;"), (0, .methodref 60 61), (0, .class_ 62), (0, .nameAndType 63 64), (0, u "java/lang/String"), (0, u "length"), (0, u "()I"), (0, .methodref 60 66), (0, .nameAndType 67 68), (0, u "charAt"), (0, u "(I)C"), (0, .fieldref 11 70), (0, .nameAndType 71 72), (0, u "valueKey"), (0, u "J"), (32, u "wideEvents"), (39, u "othersSize"), (0, u "I"), (12, .fieldref 11 160), (0, .nameAndType 161 72), (0, u "reachedBy"), (0, .fieldref 11 163), (0, .nameAndType 164 146), (0, u "reachedWith"), (27, u "MOST_MEDIA_KEPT_BESIDE"), (2, u "NOT_KEPT_BESIDE"), (4, u "(Lcom/example/perigo/perigo/engine/event/Medium;)V"), (19, u "isReachedBy"), (0, u "(J)Z"), (0, u "markReached"), (0, u "(JI)V")] 40

def k2c0 : Code := { maxStack := 4, maxLocals := 6, code := prog_53_method_1_code, exceptionTable := #[], attributes := #[] }
def k2m0 : Method := { name := "<init>", desc := "(Lcom/example/perigo/perigo/engine/event/Medium;)V", sig := { parameters := [(.object "com/example/perigo/perigo/engine/event/Medium")], returnType := none }, accessFlags := 0, code := some k2c0 }
def k2c1 : Code := { maxStack := 4, maxLocals := 3, code := prog_53_method_15_code, exceptionTable := #[], attributes := #[] }
def k2m1 : Method := { name := "isReachedBy", desc := "(J)Z", sig := { parameters := [.long], returnType := some .boolean }, accessFlags := 0, code := some k2c1 }
def k2c2 : Code := { maxStack := 3, maxLocals := 4, code := prog_53_method_16_code, exceptionTable := #[], attributes := #[] }
def k2m2 : Method := { name := "markReached", desc := "(JI)V", sig := { parameters := [.long, .int], returnType := none }, accessFlags := 0, code := some k2c2 }
/-- com/example/perigo/perigo/engine/network/Node -/
def k2 : Class := { plain "com/example/perigo/perigo/engine/network/Node" (some 0) with
  accessFlags := 48
  interfaces := #[]
  cf := some (fileOf pool2 11 #[] #[{ accessFlags := 0, nameIndex := 5, descriptorIndex := 200, attributes := #[] }, { accessFlags := 0, nameIndex := 220, descriptorIndex := 221, attributes := #[] }, { accessFlags := 0, nameIndex := 222, descriptorIndex := 223, attributes := #[] }] 48 2 #[] #[{ accessFlags := 24, nameIndex := 192, descriptorIndex := 146, attributes := #[] }, { accessFlags := 24, nameIndex := 195, descriptorIndex := 146, attributes := #[] }, { accessFlags := 18, nameIndex := 47, descriptorIndex := 48, attributes := #[] }, { accessFlags := 18, nameIndex := 71, descriptorIndex := 72, attributes := #[] }, { accessFlags := 18, nameIndex := 14, descriptorIndex := 15, attributes := #[] }, { accessFlags := 18, nameIndex := 21, descriptorIndex := 22, attributes := #[] }, { accessFlags := 18, nameIndex := 25, descriptorIndex := 15, attributes := #[] }, { accessFlags := 2, nameIndex := 28, descriptorIndex := 29, attributes := #[] }, { accessFlags := 2, nameIndex := 32, descriptorIndex := 33, attributes := #[] }, { accessFlags := 2, nameIndex := 36, descriptorIndex := 37, attributes := #[] }, { accessFlags := 2, nameIndex := 145, descriptorIndex := 146, attributes := #[] }, { accessFlags := 2, nameIndex := 40, descriptorIndex := 41, attributes := #[] }, { accessFlags := 18, nameIndex := 44, descriptorIndex := 22, attributes := #[] }, { accessFlags := 2, nameIndex := 105, descriptorIndex := 15, attributes := #[] }, { accessFlags := 2, nameIndex := 161, descriptorIndex := 72, attributes := #[] }, { accessFlags := 2, nameIndex := 164, descriptorIndex := 146, attributes := #[] }])
  fields := #[{ name := "MOST_MEDIA_KEPT_BESIDE", type := .int, accessFlags := 24, slot := 0, constantValue := 0 }, { name := "NOT_KEPT_BESIDE", type := .int, accessFlags := 24, slot := 1, constantValue := 0 }, { name := "medium", type := (.object "com/example/perigo/perigo/engine/event/Medium"), accessFlags := 18, slot := 0, constantValue := 0 }, { name := "valueKey", type := .long, accessFlags := 18, slot := 1, constantValue := 0 }, { name := "events", type := (.object "com/example/perigo/perigo/engine/network/Timeline"), accessFlags := 18, slot := 2, constantValue := 0 }, { name := "eventsByType", type := (.object "java/util/Map"), accessFlags := 18, slot := 3, constantValue := 0 }, { name := "frauds", type := (.object "com/example/perigo/perigo/engine/network/Timeline"), accessFlags := 18, slot := 4, constantValue := 0 }, { name := "knownSeconds", type := (.array .long), accessFlags := 2, slot := 5, constantValue := 0 }, { name := "knownNanos", type := (.array .int), accessFlags := 2, slot := 6, constantValue := 0 }, { name := "others", type := (.array (.object "com/example/perigo/perigo/engine/network/Node")), accessFlags := 2, slot := 7, constantValue := 0 }, { name := "othersSize", type := .int, accessFlags := 2, slot := 8, constantValue := 0 }, { name := "besideInTimeOrder", type := .boolean, accessFlags := 2, slot := 9, constantValue := 0 }, { name := "firstJoins", type := (.object "java/util/Map"), accessFlags := 18, slot := 10, constantValue := 0 }, { name := "wideEvents", type := (.object "com/example/perigo/perigo/engine/network/Timeline"), accessFlags := 2, slot := 11, constantValue := 0 }, { name := "reachedBy", type := .long, accessFlags := 2, slot := 12, constantValue := 0 }, { name := "reachedWith", type := .int, accessFlags := 2, slot := 13, constantValue := 0 }]
  methods := #[k2m0, k2m1, k2m2]
  instanceTypes := #[(.object "com/example/perigo/perigo/engine/event/Medium"), .long, (.object "com/example/perigo/perigo/engine/network/Timeline"), (.object "java/util/Map"), (.object "com/example/perigo/perigo/engine/network/Timeline"), (.array .long), (.array .int), (.array (.object "com/example/perigo/perigo/engine/network/Node")), .int, .boolean, (.object "java/util/Map"), (.object "com/example/perigo/perigo/engine/network/Timeline"), .long, .int]
  staticTypes := #[.int, .int]
  resolved := Array.replicate 264 none
  statics := none }

def pool3 : Array CpInfo := pool [(1, .methodref 2 3), (0, .class_ 4), (0, .nameAndType 5 6), (0, u "java/lang/Object"), (0, u "<init>"), (0, u "()V"), (0, .string 8), (0, u "kind"), (0, .methodref 10 11), (0, .class_ 12), (0, .nameAndType 13 14), (0, u "java/util/Objects"), (0, u "requireNonNull"), (0, u "(Ljava/lang/Object;Ljava/lang/String;)Ljava/lang/Object;"), (0, .class_ 16), (0, u "java/lang/String"), (0, .fieldref 18 19), (0, .class_ 20), (0, .nameAndType 8 21), (0, u "com/example/perigo/perigo/engine/event/Medium"), (0, u "Ljava/lang/String;"), (0, .string 23), (0, u "value"), (0, .fieldref 18 25), (0, .nameAndType 23 21), (10, u "written"), (4, u "(Ljava/lang/String;Ljava/lang/String;)V"), (2, u "()Ljava/lang/String;")] 19

def k3c0 : Code := { maxStack := 3, maxLocals := 3, code := prog_24_method_1_code, exceptionTable := #[], attributes := #[] }
def k3m0 : Method := { name := "<init>", desc := "(Ljava/lang/String;Ljava/lang/String;)V", sig := { parameters := [(.object "java/lang/String"), (.object "java/lang/String")], returnType := none }, accessFlags := 1, code := some k3c0 }
def k3c1 : Code := { maxStack := 1, maxLocals := 1, code := prog_24_method_3_code, exceptionTable := #[], attributes := #[] }
def k3m1 : Method := { name := "value", desc := "()Ljava/lang/String;", sig := { parameters := [], returnType := some (.object "java/lang/String") }, accessFlags := 1, code := some k3c1 }
/-- com/example/perigo/perigo/engine/event/Medium -/
def k3 : Class := { plain "com/example/perigo/perigo/engine/event/Medium" (some 0) with
  accessFlags := 49
  interfaces := #[]
  cf := some (fileOf pool3 18 #[] #[{ accessFlags := 1, nameIndex := 5, descriptorIndex := 41, attributes := #[] }, { accessFlags := 1, nameIndex := 23, descriptorIndex := 44, attributes := #[] }] 49 2 #[] #[{ accessFlags := 18, nameIndex := 8, descriptorIndex := 21, attributes := #[] }, { accessFlags := 18, nameIndex := 23, descriptorIndex := 21, attributes := #[] }, { accessFlags := 2, nameIndex := 36, descriptorIndex := 21, attributes := #[] }])
  fields := #[{ name := "kind", type := (.object "java/lang/String"), accessFlags := 18, slot := 0, constantValue := 0 }, { name := "value", type := (.object "java/lang/String"), accessFlags := 18, slot := 1, constantValue := 0 }, { name := "written", type := (.object "java/lang/String"), accessFlags := 2, slot := 2, constantValue := 0 }]
  methods := #[k3m0, k3m1]
  instanceTypes := #[(.object "java/lang/String"), (.object "java/lang/String"), (.object "java/lang/String")]
  staticTypes := #[]
  resolved := Array.replicate 64 none
  statics := none }

def pool4 : Array CpInfo := pool [(1, .class_ 2), (0, u "java/io/Serializable"), (0, .class_ 4), (0, u "java/lang/Object")] 2

/-- java/io/Serializable -/
def k4 : Class := { plain "java/io/Serializable" (some 0) with
  accessFlags := 1537
  interfaces := #[]
  cf := some (fileOf pool4 1 #[] #[] 1537 3 #[] #[])
  fields := #[]
  methods := #[]
  instanceTypes := #[]
  staticTypes := #[]
  resolved := Array.replicate 7 none
  statics := none }

def pool5 : Array CpInfo := pool [(1, .class_ 2), (0, u "java/lang/Comparable"), (0, .class_ 4), (0, u "java/lang/Object")] 7

/-- java/lang/Comparable -/
def k5 : Class := { plain "java/lang/Comparable" (some 0) with
  accessFlags := 1537
  interfaces := #[]
  cf := some (fileOf pool5 1 #[] #[] 1537 3 #[] #[])
  fields := #[]
  methods := #[]
  instanceTypes := #[]
  staticTypes := #[]
  resolved := Array.replicate 12 none
  statics := none }

def pool6 : Array CpInfo := pool [(2, .class_ 4), (1, u "java/lang/CharSequence"), (42, .class_ 48), (0, u "java/lang/CharSequence$1CodePointIterator"), (10, .class_ 60), (0, u "java/lang/CharSequence$1CharIterator"), (5, .class_ 67), (0, u "java/lang/Object")] 63

/-- java/lang/CharSequence -/
def k6 : Class := { plain "java/lang/CharSequence" (some 0) with
  accessFlags := 1537
  interfaces := #[]
  cf := some (fileOf pool6 2 #[.nestMembers #[47, 59]] #[] 1537 66 #[] #[])
  fields := #[]
  methods := #[]
  instanceTypes := #[]
  staticTypes := #[]
  resolved := Array.replicate 131 none
  statics := none }

def pool7 : Array CpInfo := pool [(1, .class_ 2), (0, u "java/lang/constant/Constable"), (0, .class_ 4), (0, u "java/lang/Object")] 6

/-- java/lang/constant/Constable -/
def k7 : Class := { plain "java/lang/constant/Constable" (some 0) with
  accessFlags := 1537
  interfaces := #[]
  cf := some (fileOf pool7 1 #[] #[] 1537 3 #[] #[])
  fields := #[]
  methods := #[]
  instanceTypes := #[]
  staticTypes := #[]
  resolved := Array.replicate 11 none
  statics := none }

def pool8 : Array CpInfo := pool [(1, .class_ 2), (0, u "java/lang/constant/ConstantDesc"), (0, .class_ 4), (0, u "java/lang/Object")] 32

/-- java/lang/constant/ConstantDesc -/
def k8 : Class := { plain "java/lang/constant/ConstantDesc" (some 0) with
  accessFlags := 1537
  interfaces := #[]
  cf := some (fileOf pool8 1 #[] #[] 1537 3 #[] #[])
  fields := #[]
  methods := #[]
  instanceTypes := #[]
  staticTypes := #[]
  resolved := Array.replicate 37 none
  statics := none }

def pool9 : Array CpInfo := pool [(2, .class_ 4), (1, u "java/lang/Object"), (0, u "<init>"), (0, u "()V"), (2, .fieldref 10 11), (0, .class_ 12), (0, .nameAndType 13 14), (0, u "java/lang/String"), (0, u "value"), (0, u "[B"), (0, .fieldref 10 16), (0, .nameAndType 17 18), (0, u "coder"), (0, u "B"), (2, u "hash"), (0, u "I"), (2, u "hashIsZero"), (0, u "Z"), (11, .fieldref 10 39), (0, .nameAndType 40 26), (0, u "COMPACT_STRINGS"), (66, .class_ 109), (1, u "java/lang/StringLatin1"), (32, u "()Z"), (191, u "()I"), (0, .methodref 10 336), (0, .nameAndType 17 337), (0, u "()B"), (25, u "([BI)C"), (27, u "(II)V"), (35, u "(I)C"), (64, .methodref 10 493), (0, .nameAndType 494 142), (0, u "isLatin1"), (0, .methodref 107 496), (0, .nameAndType 497 363), (0, u "charAt"), (3, u "checkIndex"), (5, u "length"), (67, .class_ 576), (0, u "java/lang/CharSequence"), (22, u "CASE_INSENSITIVE_ORDER"), (0, u "Ljava/util/Comparator;"), (452, .fieldref 1054 1055), (0, .class_ 1056), (0, .nameAndType 1057 1058), (0, u "jdk/internal/util/Preconditions"), (0, u "SIOOBE_FORMATTER"), (0, u "Ljava/util/function/BiFunction;"), (0, .methodref 1054 1060), (0, .nameAndType 501 1061), (0, u "(IILjava/util/function/BiFunction;)I"), (39, u "serialPersistentFields"), (0, u "[Ljava/io/ObjectStreamField;"), (0, .class_ 1104), (0, u "java/lang/String$CaseInsensitiveComparator"), (1, .class_ 1107), (0, u "java/io/Serializable"), (0, .class_ 1109), (0, u "java/lang/Comparable"), (0, .class_ 1111), (0, u "java/lang/constant/Constable"), (0, .class_ 1113), (0, u "java/lang/constant/ConstantDesc"), (2, u "serialVersionUID"), (0, u "J"), (3, u "REPL"), (0, u "C"), (2, u "LATIN1"), (1, u "UTF16")] 323

def k9m0 : Method := { name := "<init>", desc := "()V", sig := { parameters := [], returnType := none }, accessFlags := 1, code := none }
def k9c1 : Code := { maxStack := 2, maxLocals := 1, code := jdk_42_method_54_code, exceptionTable := #[], attributes := #[] }
def k9m1 : Method := { name := "length", desc := "()I", sig := { parameters := [], returnType := some .int }, accessFlags := 1, code := some k9c1 }
def k9c2 : Code := { maxStack := 2, maxLocals := 2, code := jdk_42_method_56_code, exceptionTable := #[], attributes := #[] }
def k9m2 : Method := { name := "charAt", desc := "(I)C", sig := { parameters := [.int], returnType := some .char }, accessFlags := 1, code := some k9c2 }
def k9c3 : Code := { maxStack := 1, maxLocals := 1, code := jdk_42_method_152_code, exceptionTable := #[], attributes := #[] }
def k9m3 : Method := { name := "coder", desc := "()B", sig := { parameters := [], returnType := some .byte }, accessFlags := 0, code := some k9c3 }
def k9c4 : Code := { maxStack := 1, maxLocals := 1, code := jdk_42_method_154_code, exceptionTable := #[], attributes := #[] }
def k9m4 : Method := { name := "isLatin1", desc := "()Z", sig := { parameters := [], returnType := some .boolean }, accessFlags := 0, code := some k9c4 }
def k9c5 : Code := { maxStack := 3, maxLocals := 2, code := jdk_42_method_155_code, exceptionTable := #[], attributes := #[] }
def k9m5 : Method := { name := "checkIndex", desc := "(II)V", sig := { parameters := [.int, .int], returnType := none }, accessFlags := 8, code := some k9c5 }
/-- java/lang/String -/
def k9 : Class := { plain "java/lang/String" (some 0) with
  accessFlags := 49
  interfaces := #[4, 5, 6, 7, 8]
  cf := some (fileOf pool9 10 #[.nestMembers #[1103]] #[{ accessFlags := 1, nameIndex := 5, descriptorIndex := 6, attributes := #[] }, { accessFlags := 1, nameIndex := 507, descriptorIndex := 334, attributes := #[] }, { accessFlags := 1, nameIndex := 497, descriptorIndex := 427, attributes := #[] }, { accessFlags := 0, nameIndex := 17, descriptorIndex := 337, attributes := #[] }, { accessFlags := 0, nameIndex := 494, descriptorIndex := 142, attributes := #[] }, { accessFlags := 8, nameIndex := 501, descriptorIndex := 391, attributes := #[] }] 49 2 #[1106, 1108, 575, 1110, 1112] #[{ accessFlags := 18, nameIndex := 13, descriptorIndex := 14, attributes := #[] }, { accessFlags := 18, nameIndex := 17, descriptorIndex := 18, attributes := #[] }, { accessFlags := 2, nameIndex := 21, descriptorIndex := 22, attributes := #[] }, { accessFlags := 2, nameIndex := 25, descriptorIndex := 26, attributes := #[] }, { accessFlags := 26, nameIndex := 1116, descriptorIndex := 1117, attributes := #[] }, { accessFlags := 24, nameIndex := 40, descriptorIndex := 26, attributes := #[] }, { accessFlags := 26, nameIndex := 1101, descriptorIndex := 1102, attributes := #[] }, { accessFlags := 26, nameIndex := 1121, descriptorIndex := 1122, attributes := #[] }, { accessFlags := 25, nameIndex := 599, descriptorIndex := 600, attributes := #[] }, { accessFlags := 24, nameIndex := 1125, descriptorIndex := 18, attributes := #[] }, { accessFlags := 24, nameIndex := 1127, descriptorIndex := 18, attributes := #[] }])
  fields := #[{ name := "value", type := (.array .byte), accessFlags := 18, slot := 0, constantValue := 0 }, { name := "coder", type := .byte, accessFlags := 18, slot := 1, constantValue := 0 }, { name := "hash", type := .int, accessFlags := 2, slot := 2, constantValue := 0 }, { name := "hashIsZero", type := .boolean, accessFlags := 2, slot := 3, constantValue := 0 }, { name := "serialVersionUID", type := .long, accessFlags := 26, slot := 0, constantValue := 0 }, { name := "COMPACT_STRINGS", type := .boolean, accessFlags := 24, slot := 1, constantValue := 0 }, { name := "serialPersistentFields", type := (.array (.object "java/io/ObjectStreamField")), accessFlags := 26, slot := 2, constantValue := 0 }, { name := "REPL", type := .char, accessFlags := 26, slot := 3, constantValue := 0 }, { name := "CASE_INSENSITIVE_ORDER", type := (.object "java/util/Comparator"), accessFlags := 25, slot := 4, constantValue := 0 }, { name := "LATIN1", type := .byte, accessFlags := 24, slot := 5, constantValue := 0 }, { name := "UTF16", type := .byte, accessFlags := 24, slot := 6, constantValue := 0 }]
  methods := #[k9m0, k9m1, k9m2, k9m3, k9m4, k9m5]
  instanceTypes := #[(.array .byte), .byte, .int, .boolean]
  staticTypes := #[.long, .boolean, (.array (.object "java/io/ObjectStreamField")), .char, (.object "java/util/Comparator"), .byte, .byte]
  resolved := Array.replicate 1451 none
  statics := some 0 }

def pool10 : Array CpInfo := pool [(2, .class_ 4), (1, u "java/lang/Object"), (0, u "<init>"), (0, u "()V"), (35, .class_ 44), (1, u "java/util/Objects"), (0, u "requireNonNull"), (48, u "(Ljava/lang/Object;Ljava/lang/String;)Ljava/lang/Object;")] 89

def k10m0 : Method := { name := "<init>", desc := "()V", sig := { parameters := [], returnType := none }, accessFlags := 2, code := none }
def k10c1 : Code := { maxStack := 3, maxLocals := 2, code := jdk_31_method_11_code, exceptionTable := #[], attributes := #[] }
def k10m1 : Method := { name := "requireNonNull", desc := "(Ljava/lang/Object;Ljava/lang/String;)Ljava/lang/Object;", sig := { parameters := [(.object "java/lang/Object"), (.object "java/lang/String")], returnType := some (.object "java/lang/Object") }, accessFlags := 9, code := some k10c1 }
/-- java/util/Objects -/
def k10 : Class := { plain "java/util/Objects" (some 0) with
  accessFlags := 49
  interfaces := #[]
  cf := some (fileOf pool10 42 #[] #[{ accessFlags := 2, nameIndex := 5, descriptorIndex := 6, attributes := #[] }, { accessFlags := 9, nameIndex := 45, descriptorIndex := 94, attributes := #[] }] 49 2 #[] #[])
  fields := #[]
  methods := #[k10m0, k10m1]
  instanceTypes := #[]
  staticTypes := #[]
  resolved := Array.replicate 184 none
  statics := none }

def pool11 : Array CpInfo := pool [(1, .methodref 2 3), (0, .class_ 4), (0, .nameAndType 5 6), (0, u "java/lang/Object"), (0, u "<init>"), (0, u "()V"), (0, .fieldref 8 9), (0, .class_ 10), (0, .nameAndType 11 12), (0, u "com/example/perigo/perigo/engine/network/Timeline"), (0, u "numbers"), (0, u "[I"), (0, .fieldref 8 14), (0, .nameAndType 15 16), (0, u "seconds"), (0, u "[J"), (0, .fieldref 8 18), (0, .nameAndType 19 12), (0, u "nanos"), (0, .fieldref 8 21), (0, .nameAndType 22 12), (0, u "tags"), (6, u "size"), (0, u "I"), (28, .class_ 60), (0, u "com/example/perigo/perigo/engine/network/Timeline$Span"), (19, u "lastStart")] 18

def k11c0 : Code := { maxStack := 2, maxLocals := 1, code := prog_56_method_1_code, exceptionTable := #[], attributes := #[] }
def k11m0 : Method := { name := "<init>", desc := "()V", sig := { parameters := [], returnType := none }, accessFlags := 0, code := some k11c0 }
/-- com/example/perigo/perigo/engine/network/Timeline -/
def k11 : Class := { plain "com/example/perigo/perigo/engine/network/Timeline" (some 0) with
  accessFlags := 48
  interfaces := #[]
  cf := some (fileOf pool11 8 #[.nestMembers #[59]] #[{ accessFlags := 0, nameIndex := 5, descriptorIndex := 6, attributes := #[] }] 48 2 #[] #[{ accessFlags := 2, nameIndex := 29, descriptorIndex := 30, attributes := #[] }, { accessFlags := 2, nameIndex := 11, descriptorIndex := 12, attributes := #[] }, { accessFlags := 2, nameIndex := 15, descriptorIndex := 16, attributes := #[] }, { accessFlags := 2, nameIndex := 19, descriptorIndex := 12, attributes := #[] }, { accessFlags := 2, nameIndex := 22, descriptorIndex := 12, attributes := #[] }, { accessFlags := 2, nameIndex := 80, descriptorIndex := 30, attributes := #[] }])
  fields := #[{ name := "size", type := .int, accessFlags := 2, slot := 0, constantValue := 0 }, { name := "numbers", type := (.array .int), accessFlags := 2, slot := 1, constantValue := 0 }, { name := "seconds", type := (.array .long), accessFlags := 2, slot := 2, constantValue := 0 }, { name := "nanos", type := (.array .int), accessFlags := 2, slot := 3, constantValue := 0 }, { name := "tags", type := (.array .int), accessFlags := 2, slot := 4, constantValue := 0 }, { name := "lastStart", type := .int, accessFlags := 2, slot := 5, constantValue := 0 }]
  methods := #[k11m0]
  instanceTypes := #[.int, (.array .int), (.array .long), (.array .int), (.array .int), .int]
  staticTypes := #[]
  resolved := Array.replicate 99 none
  statics := none }

def pool12 : Array CpInfo := pool [(2, .class_ 4), (1, u "java/util/Map"), (31, .class_ 37), (0, u "java/util/Map$Entry"), (55, .class_ 94), (0, u "java/lang/Object")] 168

/-- java/util/Map -/
def k12 : Class := { plain "java/util/Map" (some 0) with
  accessFlags := 1537
  interfaces := #[]
  cf := some (fileOf pool12 2 #[.nestMembers #[36]] #[] 1537 93 #[] #[])
  fields := #[]
  methods := #[]
  instanceTypes := #[]
  staticTypes := #[]
  resolved := Array.replicate 263 none
  statics := none }

def pool13 : Array CpInfo := pool [(1, .methodref 2 3), (0, .class_ 4), (0, .nameAndType 5 6), (0, u "java/lang/Object"), (0, u "<init>"), (0, u "()V"), (1, .class_ 10), (1, u "java/util/AbstractMap"), (42, .class_ 54), (0, u "java/util/Map"), (9, u "keySet"), (0, u "Ljava/util/Set;"), (0, .class_ 67), (0, u "java/util/AbstractMap$1"), (5, u "values"), (0, u "Ljava/util/Collection;"), (0, .class_ 76), (0, u "java/util/AbstractMap$2"), (104, .class_ 182), (0, u "java/util/AbstractMap$ViewCollection"), (0, .class_ 184), (0, u "java/util/AbstractMap$SimpleImmutableEntry"), (0, .class_ 186), (0, u "java/util/AbstractMap$SimpleEntry"), (0, .class_ 188), (0, u "java/util/AbstractMap$2$1"), (0, .class_ 190), (0, u "java/util/AbstractMap$1$1")] 5

def k13c0 : Code := { maxStack := 1, maxLocals := 1, code := jdk_71_method_1_code, exceptionTable := #[], attributes := #[] }
def k13m0 : Method := { name := "<init>", desc := "()V", sig := { parameters := [], returnType := none }, accessFlags := 4, code := some k13c0 }
/-- java/util/AbstractMap -/
def k13 : Class := { plain "java/util/AbstractMap" (some 0) with
  accessFlags := 1057
  interfaces := #[12]
  cf := some (fileOf pool13 8 #[.nestMembers #[181, 183, 185, 75, 187, 66, 189]] #[{ accessFlags := 4, nameIndex := 5, descriptorIndex := 6, attributes := #[] }] 1057 2 #[53] #[{ accessFlags := 128, nameIndex := 64, descriptorIndex := 65, attributes := #[] }, { accessFlags := 128, nameIndex := 73, descriptorIndex := 74, attributes := #[] }])
  fields := #[{ name := "keySet", type := (.object "java/util/Set"), accessFlags := 128, slot := 0, constantValue := 0 }, { name := "values", type := (.object "java/util/Collection"), accessFlags := 128, slot := 1, constantValue := 0 }]
  methods := #[k13m0]
  instanceTypes := #[(.object "java/util/Set"), (.object "java/util/Collection")]
  staticTypes := #[]
  resolved := Array.replicate 196 none
  statics := none }

def pool14 : Array CpInfo := pool [(1, .class_ 2), (0, u "java/lang/Cloneable"), (0, .class_ 4), (0, u "java/lang/Object")] 2

/-- java/lang/Cloneable -/
def k14 : Class := { plain "java/lang/Cloneable" (some 0) with
  accessFlags := 1537
  interfaces := #[]
  cf := some (fileOf pool14 1 #[] #[] 1537 3 #[] #[])
  fields := #[]
  methods := #[]
  instanceTypes := #[]
  staticTypes := #[]
  resolved := Array.replicate 7 none
  statics := none }

def pool15 : Array CpInfo := pool [(40, .class_ 41), (0, u "java/util/HashMap"), (1, .methodref 44 45), (0, .class_ 46), (0, .nameAndType 47 48), (0, u "java/util/AbstractMap"), (0, u "<init>"), (0, u "()V"), (32, .fieldref 40 82), (0, .nameAndType 83 84), (0, u "loadFactor"), (0, u "F"), (5, u "threshold"), (0, u "I"), (0, .float 1061158912), (8, .class_ 103), (1, u "java/util/Map"), (0, u "size"), (2, u "table"), (0, u "[Ljava/util/HashMap$Node;"), (14, u "entrySet"), (39, .class_ 165), (1, u "java/util/HashMap$Node"), (14, .class_ 181), (0, u "java/util/HashMap$TreeNode"), (22, u "modCount"), (37, u "Ljava/util/Set;"), (0, .class_ 244), (0, u "java/util/HashMap$KeySet"), (18, .class_ 264), (0, u "java/util/HashMap$Values"), (3, .class_ 269), (0, u "java/util/HashMap$EntrySet"), (76, .class_ 348), (1, u "java/util/HashMap$UnsafeHolder"), (43, .class_ 393), (0, u "java/lang/Cloneable"), (0, .class_ 395), (0, u "java/io/Serializable"), (0, u "serialVersionUID"), (0, u "J"), (3, u "DEFAULT_INITIAL_CAPACITY"), (1, u "MAXIMUM_CAPACITY"), (0, u "DEFAULT_LOAD_FACTOR"), (0, u "TREEIFY_THRESHOLD"), (1, u "UNTREEIFY_THRESHOLD"), (1, u "MIN_TREEIFY_CAPACITY"), (186, .class_ 597), (0, u "java/util/HashMap$EntrySpliterator"), (0, .class_ 599), (0, u "java/util/HashMap$ValueSpliterator"), (0, .class_ 601), (0, u "java/util/HashMap$KeySpliterator"), (0, .class_ 603), (0, u "java/util/HashMap$HashMapSpliterator"), (0, .class_ 605), (0, u "java/util/HashMap$EntryIterator"), (0, .class_ 607), (0, u "java/util/HashMap$ValueIterator"), (0, .class_ 609), (0, u "java/util/HashMap$KeyIterator"), (0, .class_ 611), (0, u "java/util/HashMap$HashIterator")] 17

def k15c0 : Code := { maxStack := 2, maxLocals := 1, code := jdk_69_method_7_code, exceptionTable := #[], attributes := #[] }
def k15m0 : Method := { name := "<init>", desc := "()V", sig := { parameters := [], returnType := none }, accessFlags := 1, code := some k15c0 }
/-- java/util/HashMap -/
def k15 : Class := { plain "java/util/HashMap" (some 13) with
  accessFlags := 33
  interfaces := #[12, 14, 4]
  cf := some (fileOf pool15 40 #[.nestMembers #[180, 596, 598, 600, 602, 604, 606, 608, 610, 346, 268, 263, 243, 163]] #[{ accessFlags := 1, nameIndex := 47, descriptorIndex := 48, attributes := #[] }] 33 44 #[101, 392, 394] #[{ accessFlags := 26, nameIndex := 396, descriptorIndex := 397, attributes := #[] }, { accessFlags := 24, nameIndex := 401, descriptorIndex := 91, attributes := #[] }, { accessFlags := 24, nameIndex := 403, descriptorIndex := 91, attributes := #[] }, { accessFlags := 24, nameIndex := 404, descriptorIndex := 84, attributes := #[] }, { accessFlags := 24, nameIndex := 405, descriptorIndex := 91, attributes := #[] }, { accessFlags := 24, nameIndex := 407, descriptorIndex := 91, attributes := #[] }, { accessFlags := 24, nameIndex := 409, descriptorIndex := 91, attributes := #[] }, { accessFlags := 128, nameIndex := 107, descriptorIndex := 108, attributes := #[] }, { accessFlags := 128, nameIndex := 123, descriptorIndex := 242, attributes := #[] }, { accessFlags := 128, nameIndex := 104, descriptorIndex := 91, attributes := #[] }, { accessFlags := 128, nameIndex := 204, descriptorIndex := 91, attributes := #[] }, { accessFlags := 0, nameIndex := 90, descriptorIndex := 91, attributes := #[] }, { accessFlags := 16, nameIndex := 83, descriptorIndex := 84, attributes := #[] }])
  fields := #[{ name := "serialVersionUID", type := .long, accessFlags := 26, slot := 0, constantValue := 0 }, { name := "DEFAULT_INITIAL_CAPACITY", type := .int, accessFlags := 24, slot := 1, constantValue := 0 }, { name := "MAXIMUM_CAPACITY", type := .int, accessFlags := 24, slot := 2, constantValue := 0 }, { name := "DEFAULT_LOAD_FACTOR", type := .float, accessFlags := 24, slot := 3, constantValue := 0 }, { name := "TREEIFY_THRESHOLD", type := .int, accessFlags := 24, slot := 4, constantValue := 0 }, { name := "UNTREEIFY_THRESHOLD", type := .int, accessFlags := 24, slot := 5, constantValue := 0 }, { name := "MIN_TREEIFY_CAPACITY", type := .int, accessFlags := 24, slot := 6, constantValue := 0 }, { name := "table", type := (.array (.object "java/util/HashMap$Node")), accessFlags := 128, slot := 2, constantValue := 0 }, { name := "entrySet", type := (.object "java/util/Set"), accessFlags := 128, slot := 3, constantValue := 0 }, { name := "size", type := .int, accessFlags := 128, slot := 4, constantValue := 0 }, { name := "modCount", type := .int, accessFlags := 128, slot := 5, constantValue := 0 }, { name := "threshold", type := .int, accessFlags := 0, slot := 6, constantValue := 0 }, { name := "loadFactor", type := .float, accessFlags := 16, slot := 7, constantValue := 0 }]
  methods := #[k15m0]
  instanceTypes := #[(.object "java/util/Set"), (.object "java/util/Collection"), (.array (.object "java/util/HashMap$Node")), (.object "java/util/Set"), .int, .int, .int, .float]
  staticTypes := #[.long, .int, .int, .float, .int, .int, .int]
  resolved := Array.replicate 629 none
  statics := none }

def pool16 : Array CpInfo := pool [(1, .class_ 2), (0, u "java/lang/String"), (1, .class_ 6), (1, u "java/lang/Object"), (0, u "<init>"), (0, u "()V"), (0, .methodref 1 10), (0, .nameAndType 11 12), (0, u "checkIndex"), (0, u "(II)V"), (1, .class_ 16), (1, u "java/lang/StringLatin1"), (36, u "([BI)C"), (67, u "$assertionsDisabled"), (0, u "Z"), (98, .class_ 223), (1, u "java/lang/StringLatin1$LinesSpliterator"), (28, u "charAt"), (137, .class_ 391), (0, u "java/lang/StringLatin1$CharsSpliterator")] 3

def k16m0 : Method := { name := "<init>", desc := "()V", sig := { parameters := [], returnType := none }, accessFlags := 0, code := none }
def k16c1 : Code := { maxStack := 2, maxLocals := 2, code := jdk_43_method_2_code, exceptionTable := #[], attributes := #[] }
def k16m1 : Method := { name := "charAt", desc := "([BI)C", sig := { parameters := [(.array .byte), .int], returnType := some .char }, accessFlags := 9, code := some k16c1 }
/-- java/lang/StringLatin1 -/
def k16 : Class := { plain "java/lang/StringLatin1" (some 0) with
  accessFlags := 48
  interfaces := #[]
  cf := some (fileOf pool16 14 #[.nestMembers #[390, 221]] #[{ accessFlags := 0, nameIndex := 7, descriptorIndex := 8, attributes := #[] }, { accessFlags := 9, nameIndex := 252, descriptorIndex := 53, attributes := #[] }] 48 4 #[] #[{ accessFlags := 4120, nameIndex := 121, descriptorIndex := 122, attributes := #[] }])
  fields := #[{ name := "$assertionsDisabled", type := .boolean, accessFlags := 4120, slot := 0, constantValue := 0 }]
  methods := #[k16m0, k16m1]
  instanceTypes := #[]
  staticTypes := #[.boolean]
  resolved := Array.replicate 395 none
  statics := none }

def pool17 : Array CpInfo := pool [(2, .class_ 4), (1, u "java/lang/Object"), (0, u "<init>"), (0, u "()V"), (17, .class_ 26), (1, u "jdk/internal/util/Preconditions"), (6, u "checkIndex"), (21, .class_ 56), (0, u "jdk/internal/util/Preconditions$4"), (57, .class_ 115), (0, u "jdk/internal/util/Preconditions$1"), (7, u "SIOOBE_FORMATTER"), (0, u "Ljava/util/function/BiFunction;"), (0, .class_ 126), (0, u "jdk/internal/util/Preconditions$2"), (3, u "AIOOBE_FORMATTER"), (0, .class_ 132), (0, u "jdk/internal/util/Preconditions$3"), (3, u "IOOBE_FORMATTER"), (41, u "(IILjava/util/function/BiFunction;)I")] 15

def k17m0 : Method := { name := "<init>", desc := "()V", sig := { parameters := [], returnType := none }, accessFlags := 1, code := none }
def k17c1 : Code := { maxStack := 3, maxLocals := 3, code := jdk_41_method_11_code, exceptionTable := #[], attributes := #[] }
def k17m1 : Method := { name := "checkIndex", desc := "(IILjava/util/function/BiFunction;)I", sig := { parameters := [.int, .int, (.object "java/util/function/BiFunction")], returnType := some .int }, accessFlags := 9, code := some k17c1 }
/-- jdk/internal/util/Preconditions -/
def k17 : Class := { plain "jdk/internal/util/Preconditions" (some 0) with
  accessFlags := 33
  interfaces := #[]
  cf := some (fileOf pool17 24 #[.nestMembers #[55, 131, 125, 114]] #[{ accessFlags := 1, nameIndex := 5, descriptorIndex := 6, attributes := #[] }, { accessFlags := 9, nameIndex := 33, descriptorIndex := 178, attributes := #[] }] 33 2 #[] #[{ accessFlags := 25, nameIndex := 123, descriptorIndex := 124, attributes := #[] }, { accessFlags := 25, nameIndex := 130, descriptorIndex := 124, attributes := #[] }, { accessFlags := 25, nameIndex := 136, descriptorIndex := 124, attributes := #[] }])
  fields := #[{ name := "SIOOBE_FORMATTER", type := (.object "java/util/function/BiFunction"), accessFlags := 25, slot := 0, constantValue := 0 }, { name := "AIOOBE_FORMATTER", type := (.object "java/util/function/BiFunction"), accessFlags := 25, slot := 1, constantValue := 0 }, { name := "IOOBE_FORMATTER", type := (.object "java/util/function/BiFunction"), accessFlags := 25, slot := 2, constantValue := 0 }]
  methods := #[k17m0, k17m1]
  instanceTypes := #[]
  staticTypes := #[(.object "java/util/function/BiFunction"), (.object "java/util/function/BiFunction"), (.object "java/util/function/BiFunction")]
  resolved := Array.replicate 194 none
  statics := some 1 }

def pool18 : Array CpInfo := pool [(9, u "<init>"), (6, .class_ 18), (1, u "java/lang/Object"), (0, u "()V"), (1, .class_ 23), (1, u "jdk/internal/util/ArraysSupport"), (0, u "LOG2_ARRAY_LONG_INDEX_SCALE"), (0, u "I"), (2, u "U"), (0, u "Ljdk/internal/misc/Unsafe;"), (8, u "BIG_ENDIAN"), (0, u "Z"), (8, u "LOG2_BYTE_BIT_SIZE"), (4, u "LOG2_ARRAY_INT_INDEX_SCALE"), (54, u "JLA"), (0, u "Ljdk/internal/access/JavaLangAccess;"), (11, u "LOG2_ARRAY_BOOLEAN_INDEX_SCALE"), (9, u "LOG2_ARRAY_BYTE_INDEX_SCALE"), (5, u "LOG2_ARRAY_CHAR_INDEX_SCALE"), (5, u "LOG2_ARRAY_SHORT_INDEX_SCALE"), (18, u "LOG2_ARRAY_FLOAT_INDEX_SCALE"), (24, u "LOG2_ARRAY_DOUBLE_INDEX_SCALE"), (89, u "T_BOOLEAN"), (2, u "T_CHAR"), (1, u "T_FLOAT"), (1, u "T_DOUBLE"), (1, u "T_BYTE"), (1, u "T_SHORT"), (1, u "T_INT"), (1, u "T_LONG"), (1, u "SOFT_MAX_ARRAY_LENGTH")] 83

def k18m0 : Method := { name := "<init>", desc := "()V", sig := { parameters := [], returnType := none }, accessFlags := 2, code := none }
/-- jdk/internal/util/ArraysSupport -/
def k18 : Class := { plain "jdk/internal/util/ArraysSupport" (some 0) with
  accessFlags := 33
  interfaces := #[]
  cf := some (fileOf pool18 21 #[] #[{ accessFlags := 2, nameIndex := 9, descriptorIndex := 19, attributes := #[] }] 33 16 #[] #[{ accessFlags := 24, nameIndex := 28, descriptorIndex := 29, attributes := #[] }, { accessFlags := 26, nameIndex := 38, descriptorIndex := 39, attributes := #[] }, { accessFlags := 25, nameIndex := 121, descriptorIndex := 25, attributes := #[] }, { accessFlags := 25, nameIndex := 131, descriptorIndex := 25, attributes := #[] }, { accessFlags := 25, nameIndex := 137, descriptorIndex := 25, attributes := #[] }, { accessFlags := 25, nameIndex := 143, descriptorIndex := 25, attributes := #[] }, { accessFlags := 25, nameIndex := 53, descriptorIndex := 25, attributes := #[] }, { accessFlags := 25, nameIndex := 24, descriptorIndex := 25, attributes := #[] }, { accessFlags := 25, nameIndex := 162, descriptorIndex := 25, attributes := #[] }, { accessFlags := 25, nameIndex := 187, descriptorIndex := 25, attributes := #[] }, { accessFlags := 26, nameIndex := 48, descriptorIndex := 25, attributes := #[] }, { accessFlags := 25, nameIndex := 277, descriptorIndex := 25, attributes := #[] }, { accessFlags := 25, nameIndex := 280, descriptorIndex := 25, attributes := #[] }, { accessFlags := 25, nameIndex := 282, descriptorIndex := 25, attributes := #[] }, { accessFlags := 25, nameIndex := 284, descriptorIndex := 25, attributes := #[] }, { accessFlags := 25, nameIndex := 286, descriptorIndex := 25, attributes := #[] }, { accessFlags := 25, nameIndex := 288, descriptorIndex := 25, attributes := #[] }, { accessFlags := 25, nameIndex := 290, descriptorIndex := 25, attributes := #[] }, { accessFlags := 25, nameIndex := 292, descriptorIndex := 25, attributes := #[] }, { accessFlags := 26, nameIndex := 108, descriptorIndex := 109, attributes := #[] }, { accessFlags := 25, nameIndex := 294, descriptorIndex := 25, attributes := #[] }])
  fields := #[{ name := "U", type := (.object "jdk/internal/misc/Unsafe"), accessFlags := 24, slot := 0, constantValue := 0 }, { name := "BIG_ENDIAN", type := .boolean, accessFlags := 26, slot := 1, constantValue := 0 }, { name := "LOG2_ARRAY_BOOLEAN_INDEX_SCALE", type := .int, accessFlags := 25, slot := 2, constantValue := 0 }, { name := "LOG2_ARRAY_BYTE_INDEX_SCALE", type := .int, accessFlags := 25, slot := 3, constantValue := 0 }, { name := "LOG2_ARRAY_CHAR_INDEX_SCALE", type := .int, accessFlags := 25, slot := 4, constantValue := 0 }, { name := "LOG2_ARRAY_SHORT_INDEX_SCALE", type := .int, accessFlags := 25, slot := 5, constantValue := 0 }, { name := "LOG2_ARRAY_INT_INDEX_SCALE", type := .int, accessFlags := 25, slot := 6, constantValue := 0 }, { name := "LOG2_ARRAY_LONG_INDEX_SCALE", type := .int, accessFlags := 25, slot := 7, constantValue := 0 }, { name := "LOG2_ARRAY_FLOAT_INDEX_SCALE", type := .int, accessFlags := 25, slot := 8, constantValue := 0 }, { name := "LOG2_ARRAY_DOUBLE_INDEX_SCALE", type := .int, accessFlags := 25, slot := 9, constantValue := 0 }, { name := "LOG2_BYTE_BIT_SIZE", type := .int, accessFlags := 26, slot := 10, constantValue := 0 }, { name := "T_BOOLEAN", type := .int, accessFlags := 25, slot := 11, constantValue := 0 }, { name := "T_CHAR", type := .int, accessFlags := 25, slot := 12, constantValue := 0 }, { name := "T_FLOAT", type := .int, accessFlags := 25, slot := 13, constantValue := 0 }, { name := "T_DOUBLE", type := .int, accessFlags := 25, slot := 14, constantValue := 0 }, { name := "T_BYTE", type := .int, accessFlags := 25, slot := 15, constantValue := 0 }, { name := "T_SHORT", type := .int, accessFlags := 25, slot := 16, constantValue := 0 }, { name := "T_INT", type := .int, accessFlags := 25, slot := 17, constantValue := 0 }, { name := "T_LONG", type := .int, accessFlags := 25, slot := 18, constantValue := 0 }, { name := "JLA", type := (.object "jdk/internal/access/JavaLangAccess"), accessFlags := 26, slot := 19, constantValue := 0 }, { name := "SOFT_MAX_ARRAY_LENGTH", type := .int, accessFlags := 25, slot := 20, constantValue := 0 }]
  methods := #[k18m0]
  instanceTypes := #[]
  staticTypes := #[(.object "jdk/internal/misc/Unsafe"), .boolean, .int, .int, .int, .int, .int, .int, .int, .int, .int, .int, .int, .int, .int, .int, .int, .int, .int, (.object "jdk/internal/access/JavaLangAccess"), .int]
  resolved := Array.replicate 378 none
  statics := none }

/-- the primitive byte -/
def k19 : Class := { plain "byte" none with kind := .primitive 'B', accessFlags := 0x411 }
/-- [B -/
def k20 : Class := { plain "[B" (some 0) with kind := .array 19 .byte, interfaces := #[14, 4], accessFlags := 1041 }

/-- the primitive int -/
def k21 : Class := { plain "int" none with kind := .primitive 'I', accessFlags := 0x411 }
/-- [I -/
def k22 : Class := { plain "[I" (some 0) with kind := .array 21 .int, interfaces := #[14, 4], accessFlags := 1041 }

/-- the primitive long -/
def k23 : Class := { plain "long" none with kind := .primitive 'J', accessFlags := 0x411 }
/-- [J -/
def k24 : Class := { plain "[J" (some 0) with kind := .array 23 .long, interfaces := #[14, 4], accessFlags := 1041 }

/-- [Lcom/example/perigo/perigo/engine/network/Node; -/
def k25 : Class := { plain "[Lcom/example/perigo/perigo/engine/network/Node;" (some 0) with kind := .array 2 (.object "com/example/perigo/perigo/engine/network/Node"), interfaces := #[14, 4], accessFlags := 1041 }

def heap : Heap := #[{ cls := 9, slots := #[.long 0, .int 1, .null, .int 0, .null, .int 0, .int 0], vm := .statics 9 },
  { cls := 17, slots := #[.null, .null, .null], vm := .statics 17 }]
def classes : Array Class := #[k0, k1, k2, k3, k4, k5, k6, k7, k8, k9, k10, k11, k12, k13, k14, k15, k16, k17, k18, k19, k20, k21, k22, k23, k24, k25]
def interned : List (Array UInt16 × Addr) := []
def slotsUsed : Nat := 10
def theMethod : MethodId := ⟨1, 1⟩
def args0 : Array Value := #[.long 5, .long 6, .long 7, .int 8, .int 9]
def aboutOver (below : List Frame) : State where
  vm := { classes := classes, interned := interned.toArray }
  heap := heap
  slotsUsed := slotsUsed
  threads := #[{ frames := .invoking theMethod args0 :: below }]
def below0 : List Frame := [.native { method := ⟨0, 0⟩, args := #[] }]
def about1 : State := aboutOver below0
def p0 : Program := .bare "" "" ""
def e0 : Env := launch0.env 0 0 0
theorem w_frames : about1.frames = Frame.invoking theMethod args0 :: below0 := rfl
set_option maxRecDepth 65536 in
theorem w_args : argsFit about1.vm theMethod args0 = true := by decide +kernel
set_option maxRecDepth 65536 in
theorem w_heap : heapFits about1 = true := by decide +kernel
set_option maxRecDepth 65536 in
theorem w_runnable : about1.curStatus? = some .runnable := by decide +kernel
set_option maxRecDepth 65536 in
theorem w_alone : about1.alone = true := by decide +kernel
set_option maxRecDepth 65536 in
theorem w_named : about1.methodNamed? x = some theMethod := by decide +kernel
set_option maxRecDepth 65536 in
theorem w_hears : about1.hears theMethod below0 = true := by decide +kernel
set_option maxRecDepth 65536 in
theorem w_ripe : about1.ripe theMethod args0 below0 = true := by decide +kernel
theorem w_running : about1.status = .running := rfl
set_option maxRecDepth 65536 in
theorem w_room : about1.hasRoom e0.platform room_1 = true :=
  launch0.hasRoom_least _ room_1 (by decide +kernel) (by decide +kernel) (by decide +kernel) (by decide +kernel) (by decide +kernel) (by decide +kernel)
theorem allAtoms_all (ts : List Jvm.Cond) (a : Array Jvm.Value) (st : Jvm.State) : (allAtoms ts).before a st = ts.all (fun c => c.before a st) := by
  induction ts with
  | nil => rfl
  | cons c t ih =>
    show (Jvm.Cond.and c (allAtoms t)).before a st = _
    rw [Jvm.Cond.before_and, ih, List.all_cons]
def words1 : List Jvm.Cond := Jvm.Cond.code x code maxLocals ret :: tables_1
/-- a 'code' word, met by the world's own term for the bytes: nothing is compared byte by byte -/
theorem code_word {y : MethodName} {bytes : ByteArray} {mx : Nat} {rt : Option FieldType} {a : Array Value} {s : State} {m : MethodId} {meth : Method} {c : Code} (h1 : s.methodNamed? y = some m) (h2 : s.vm.method? m = some meth) (h3 : meth.code = some c) (h4 : c.code = bytes)
    (h5 : (c.maxLocals == mx && c.exceptionTable.isEmpty && decide (c.maxStack ≤ mostOperands) && decide (meth.sig.returnType = rt) && !meth.locks && decide (parseMethodDescriptor y.desc = some meth.sig)) = true) : (Jvm.Cond.code y bytes mx rt).before a s = true := by
  simp only [Bool.and_eq_true, beq_iff_eq, Bool.not_eq_true', decide_eq_true_eq] at h5
  obtain ⟨⟨⟨⟨⟨g1, g2⟩, g3⟩, g4⟩, g5⟩, g6⟩ := h5
  simp [Cond.before, Cond.holds, Cond.value, h1, h2, h3, h4, g1, g2, g3, g4, g5, g6]
def isCode : Jvm.Cond → Bool
  | .code _ _ _ _ => true
  | _ => false
theorem all_split {L : List Jvm.Cond} {P : Jvm.Cond → Bool} (h1 : L.all (fun c => isCode c || P c) = true) (h2 : ∀ c ∈ L.filter isCode, P c = true) : L.all P = true := by
  refine List.all_eq_true.mpr fun c hc => ?_
  have h := List.all_eq_true.mp h1 c hc
  rcases Bool.eq_false_or_eq_true (isCode c) with hi | hi
  · exact h2 c (List.mem_filter.mpr ⟨hc, hi⟩)
  · simpa [hi] using h
set_option maxRecDepth 65536 in
theorem w_c0 : (Jvm.Cond.code x code maxLocals ret).before args0 about1 = true := code_word (m := ⟨1, 1⟩) (meth := k1m1) (c := k1c1) (by decide +kernel) rfl rfl rfl (by decide +kernel)
set_option maxRecDepth 65536 in
theorem w_c1 : (Jvm.Cond.code ({ cls := "com/example/perigo/perigo/engine/event/Medium", name := "<init>", desc := "(Ljava/lang/String;Ljava/lang/String;)V" } : Jvm.MethodName) prog_24_method_1_code (3 : Nat) (Option.none : Option Jvm.ClassFile.FieldType)).before args0 about1 = true := code_word (m := ⟨3, 0⟩) (meth := k3m0) (c := k3c0) (by decide +kernel) rfl rfl rfl (by decide +kernel)
set_option maxRecDepth 65536 in
theorem w_c2 : (Jvm.Cond.code ({ cls := "java/lang/Object", name := "<init>", desc := "()V" } : Jvm.MethodName) object_method_1_code (1 : Nat) (Option.none : Option Jvm.ClassFile.FieldType)).before args0 about1 = true := code_word (m := ⟨0, 0⟩) (meth := k0m0) (c := k0c0) (by decide +kernel) rfl rfl rfl (by decide +kernel)
set_option maxRecDepth 65536 in
theorem w_c3 : (Jvm.Cond.code ({ cls := "java/util/Objects", name := "requireNonNull", desc := "(Ljava/lang/Object;Ljava/lang/String;)Ljava/lang/Object;" } : Jvm.MethodName) jdk_31_method_11_code (2 : Nat) (Option.some (Jvm.ClassFile.FieldType.object "java/lang/Object"))).before args0 about1 = true := code_word (m := ⟨10, 1⟩) (meth := k10m1) (c := k10c1) (by decide +kernel) rfl rfl rfl (by decide +kernel)
set_option maxRecDepth 65536 in
theorem w_c4 : (Jvm.Cond.code ({ cls := "com/example/perigo/perigo/engine/network/Node", name := "<init>", desc := "(Lcom/example/perigo/perigo/engine/event/Medium;)V" } : Jvm.MethodName) prog_53_method_1_code (6 : Nat) (Option.none : Option Jvm.ClassFile.FieldType)).before args0 about1 = true := code_word (m := ⟨2, 0⟩) (meth := k2m0) (c := k2c0) (by decide +kernel) rfl rfl rfl (by decide +kernel)
set_option maxRecDepth 65536 in
theorem w_c5 : (Jvm.Cond.code ({ cls := "com/example/perigo/perigo/engine/network/Timeline", name := "<init>", desc := "()V" } : Jvm.MethodName) prog_56_method_1_code (1 : Nat) (Option.none : Option Jvm.ClassFile.FieldType)).before args0 about1 = true := code_word (m := ⟨11, 0⟩) (meth := k11m0) (c := k11c0) (by decide +kernel) rfl rfl rfl (by decide +kernel)
set_option maxRecDepth 65536 in
theorem w_c6 : (Jvm.Cond.code ({ cls := "java/util/HashMap", name := "<init>", desc := "()V" } : Jvm.MethodName) jdk_69_method_7_code (1 : Nat) (Option.none : Option Jvm.ClassFile.FieldType)).before args0 about1 = true := code_word (m := ⟨15, 0⟩) (meth := k15m0) (c := k15c0) (by decide +kernel) rfl rfl rfl (by decide +kernel)
set_option maxRecDepth 65536 in
theorem w_c7 : (Jvm.Cond.code ({ cls := "java/util/AbstractMap", name := "<init>", desc := "()V" } : Jvm.MethodName) jdk_71_method_1_code (1 : Nat) (Option.none : Option Jvm.ClassFile.FieldType)).before args0 about1 = true := code_word (m := ⟨13, 0⟩) (meth := k13m0) (c := k13c0) (by decide +kernel) rfl rfl rfl (by decide +kernel)
set_option maxRecDepth 65536 in
theorem w_c8 : (Jvm.Cond.code ({ cls := "com/example/perigo/perigo/engine/event/Medium", name := "value", desc := "()Ljava/lang/String;" } : Jvm.MethodName) prog_24_method_3_code (1 : Nat) (Option.some (Jvm.ClassFile.FieldType.object "java/lang/String"))).before args0 about1 = true := code_word (m := ⟨3, 1⟩) (meth := k3m1) (c := k3c1) (by decide +kernel) rfl rfl rfl (by decide +kernel)
set_option maxRecDepth 65536 in
theorem w_c9 : (Jvm.Cond.code ({ cls := "java/lang/String", name := "length", desc := "()I" } : Jvm.MethodName) jdk_42_method_54_code (1 : Nat) (Option.some Jvm.ClassFile.FieldType.int)).before args0 about1 = true := code_word (m := ⟨9, 1⟩) (meth := k9m1) (c := k9c1) (by decide +kernel) rfl rfl rfl (by decide +kernel)
set_option maxRecDepth 65536 in
theorem w_c10 : (Jvm.Cond.code ({ cls := "java/lang/String", name := "coder", desc := "()B" } : Jvm.MethodName) jdk_42_method_152_code (1 : Nat) (Option.some Jvm.ClassFile.FieldType.byte)).before args0 about1 = true := code_word (m := ⟨9, 3⟩) (meth := k9m3) (c := k9c3) (by decide +kernel) rfl rfl rfl (by decide +kernel)
set_option maxRecDepth 65536 in
theorem w_c11 : (Jvm.Cond.code ({ cls := "java/lang/String", name := "charAt", desc := "(I)C" } : Jvm.MethodName) jdk_42_method_56_code (2 : Nat) (Option.some Jvm.ClassFile.FieldType.char)).before args0 about1 = true := code_word (m := ⟨9, 2⟩) (meth := k9m2) (c := k9c2) (by decide +kernel) rfl rfl rfl (by decide +kernel)
set_option maxRecDepth 65536 in
theorem w_c12 : (Jvm.Cond.code ({ cls := "java/lang/String", name := "isLatin1", desc := "()Z" } : Jvm.MethodName) jdk_42_method_154_code (1 : Nat) (Option.some Jvm.ClassFile.FieldType.boolean)).before args0 about1 = true := code_word (m := ⟨9, 4⟩) (meth := k9m4) (c := k9c4) (by decide +kernel) rfl rfl rfl (by decide +kernel)
set_option maxRecDepth 65536 in
theorem w_c13 : (Jvm.Cond.code ({ cls := "java/lang/StringLatin1", name := "charAt", desc := "([BI)C" } : Jvm.MethodName) jdk_43_method_2_code (2 : Nat) (Option.some Jvm.ClassFile.FieldType.char)).before args0 about1 = true := code_word (m := ⟨16, 1⟩) (meth := k16m1) (c := k16c1) (by decide +kernel) rfl rfl rfl (by decide +kernel)
set_option maxRecDepth 65536 in
theorem w_c14 : (Jvm.Cond.code ({ cls := "java/lang/String", name := "checkIndex", desc := "(II)V" } : Jvm.MethodName) jdk_42_method_155_code (2 : Nat) (Option.none : Option Jvm.ClassFile.FieldType)).before args0 about1 = true := code_word (m := ⟨9, 5⟩) (meth := k9m5) (c := k9c5) (by decide +kernel) rfl rfl rfl (by decide +kernel)
set_option maxRecDepth 65536 in
theorem w_c15 : (Jvm.Cond.code ({ cls := "jdk/internal/util/Preconditions", name := "checkIndex", desc := "(IILjava/util/function/BiFunction;)I" } : Jvm.MethodName) jdk_41_method_11_code (3 : Nat) (Option.some Jvm.ClassFile.FieldType.int)).before args0 about1 = true := code_word (m := ⟨17, 1⟩) (meth := k17m1) (c := k17c1) (by decide +kernel) rfl rfl rfl (by decide +kernel)
set_option maxRecDepth 65536 in
theorem w_c16 : (Jvm.Cond.code ({ cls := "com/example/perigo/perigo/engine/network/Node", name := "markReached", desc := "(JI)V" } : Jvm.MethodName) prog_53_method_16_code (4 : Nat) (Option.none : Option Jvm.ClassFile.FieldType)).before args0 about1 = true := code_word (m := ⟨2, 2⟩) (meth := k2m2) (c := k2c2) (by decide +kernel) rfl rfl rfl (by decide +kernel)
set_option maxRecDepth 65536 in
theorem w_c17 : (Jvm.Cond.code ({ cls := "com/example/perigo/perigo/engine/network/Node", name := "isReachedBy", desc := "(J)Z" } : Jvm.MethodName) prog_53_method_15_code (3 : Nat) (Option.some Jvm.ClassFile.FieldType.boolean)).before args0 about1 = true := code_word (m := ⟨2, 1⟩) (meth := k2m1) (c := k2c1) (by decide +kernel) rfl rfl rfl (by decide +kernel)
def codes1 : List Jvm.Cond := [Jvm.Cond.code x code maxLocals ret, Jvm.Cond.code ({ cls := "com/example/perigo/perigo/engine/event/Medium", name := "<init>", desc := "(Ljava/lang/String;Ljava/lang/String;)V" } : Jvm.MethodName) prog_24_method_1_code (3 : Nat) (Option.none : Option Jvm.ClassFile.FieldType), Jvm.Cond.code ({ cls := "java/lang/Object", name := "<init>", desc := "()V" } : Jvm.MethodName) object_method_1_code (1 : Nat) (Option.none : Option Jvm.ClassFile.FieldType), Jvm.Cond.code ({ cls := "java/util/Objects", name := "requireNonNull", desc := "(Ljava/lang/Object;Ljava/lang/String;)Ljava/lang/Object;" } : Jvm.MethodName) jdk_31_method_11_code (2 : Nat) (Option.some (Jvm.ClassFile.FieldType.object "java/lang/Object")), Jvm.Cond.code ({ cls := "com/example/perigo/perigo/engine/network/Node", name := "<init>", desc := "(Lcom/example/perigo/perigo/engine/event/Medium;)V" } : Jvm.MethodName) prog_53_method_1_code (6 : Nat) (Option.none : Option Jvm.ClassFile.FieldType), Jvm.Cond.code ({ cls := "com/example/perigo/perigo/engine/network/Timeline", name := "<init>", desc := "()V" } : Jvm.MethodName) prog_56_method_1_code (1 : Nat) (Option.none : Option Jvm.ClassFile.FieldType), Jvm.Cond.code ({ cls := "java/util/HashMap", name := "<init>", desc := "()V" } : Jvm.MethodName) jdk_69_method_7_code (1 : Nat) (Option.none : Option Jvm.ClassFile.FieldType), Jvm.Cond.code ({ cls := "java/util/AbstractMap", name := "<init>", desc := "()V" } : Jvm.MethodName) jdk_71_method_1_code (1 : Nat) (Option.none : Option Jvm.ClassFile.FieldType), Jvm.Cond.code ({ cls := "com/example/perigo/perigo/engine/event/Medium", name := "value", desc := "()Ljava/lang/String;" } : Jvm.MethodName) prog_24_method_3_code (1 : Nat) (Option.some (Jvm.ClassFile.FieldType.object "java/lang/String")), Jvm.Cond.code ({ cls := "java/lang/String", name := "length", desc := "()I" } : Jvm.MethodName) jdk_42_method_54_code (1 : Nat) (Option.some Jvm.ClassFile.FieldType.int), Jvm.Cond.code ({ cls := "java/lang/String", name := "coder", desc := "()B" } : Jvm.MethodName) jdk_42_method_152_code (1 : Nat) (Option.some Jvm.ClassFile.FieldType.byte), Jvm.Cond.code ({ cls := "java/lang/String", name := "charAt", desc := "(I)C" } : Jvm.MethodName) jdk_42_method_56_code (2 : Nat) (Option.some Jvm.ClassFile.FieldType.char), Jvm.Cond.code ({ cls := "java/lang/String", name := "isLatin1", desc := "()Z" } : Jvm.MethodName) jdk_42_method_154_code (1 : Nat) (Option.some Jvm.ClassFile.FieldType.boolean), Jvm.Cond.code ({ cls := "java/lang/StringLatin1", name := "charAt", desc := "([BI)C" } : Jvm.MethodName) jdk_43_method_2_code (2 : Nat) (Option.some Jvm.ClassFile.FieldType.char), Jvm.Cond.code ({ cls := "java/lang/String", name := "checkIndex", desc := "(II)V" } : Jvm.MethodName) jdk_42_method_155_code (2 : Nat) (Option.none : Option Jvm.ClassFile.FieldType), Jvm.Cond.code ({ cls := "jdk/internal/util/Preconditions", name := "checkIndex", desc := "(IILjava/util/function/BiFunction;)I" } : Jvm.MethodName) jdk_41_method_11_code (3 : Nat) (Option.some Jvm.ClassFile.FieldType.int), Jvm.Cond.code ({ cls := "com/example/perigo/perigo/engine/network/Node", name := "markReached", desc := "(JI)V" } : Jvm.MethodName) prog_53_method_16_code (4 : Nat) (Option.none : Option Jvm.ClassFile.FieldType), Jvm.Cond.code ({ cls := "com/example/perigo/perigo/engine/network/Node", name := "isReachedBy", desc := "(J)Z" } : Jvm.MethodName) prog_53_method_15_code (3 : Nat) (Option.some Jvm.ClassFile.FieldType.boolean)]
set_option maxRecDepth 65536 in
theorem codes_eq : words1.filter isCode = codes1 := rfl
theorem w_codes : ∀ c ∈ words1.filter isCode, c.before args0 about1 = true := by
  rw [codes_eq]
  intro c hc
  simp only [codes1, List.mem_cons, List.not_mem_nil, or_false] at hc
  rcases hc with rfl | rfl | rfl | rfl | rfl | rfl | rfl | rfl | rfl | rfl | rfl | rfl | rfl | rfl | rfl | rfl | rfl | rfl
  · exact w_c0
  · exact w_c1
  · exact w_c2
  · exact w_c3
  · exact w_c4
  · exact w_c5
  · exact w_c6
  · exact w_c7
  · exact w_c8
  · exact w_c9
  · exact w_c10
  · exact w_c11
  · exact w_c12
  · exact w_c13
  · exact w_c14
  · exact w_c15
  · exact w_c16
  · exact w_c17
set_option maxRecDepth 65536 in
theorem w_t1 : (words1.take 24).all (fun c => isCode c || c.before args0 about1) = true := by decide +kernel
set_option maxRecDepth 65536 in
theorem w_t2 : ((words1.drop 24).take 24).all (fun c => isCode c || c.before args0 about1) = true := by decide +kernel
set_option maxRecDepth 65536 in
theorem w_t3 : (((words1.drop 24).drop 24).take 24).all (fun c => isCode c || c.before args0 about1) = true := by decide +kernel
set_option maxRecDepth 65536 in
theorem w_t4 : ((((words1.drop 24).drop 24).drop 24).take 24).all (fun c => isCode c || c.before args0 about1) = true := by decide +kernel
set_option maxRecDepth 65536 in
theorem w_t5 : (((((words1.drop 24).drop 24).drop 24).drop 24).take 24).all (fun c => isCode c || c.before args0 about1) = true := by decide +kernel
set_option maxRecDepth 65536 in
theorem w_t6 : ((((((words1.drop 24).drop 24).drop 24).drop 24).drop 24).take 24).all (fun c => isCode c || c.before args0 about1) = true := by decide +kernel
set_option maxRecDepth 65536 in
theorem w_t7 : ((((((words1.drop 24).drop 24).drop 24).drop 24).drop 24).drop 24).all (fun c => isCode c || c.before args0 about1) = true := by decide +kernel
theorem w_tables : (allAtoms (Jvm.Cond.code x code maxLocals ret :: tables_1)).before args0 about1 = true := by
  rw [allAtoms_all]
  show words1.all (fun c => c.before args0 about1) = true
  refine all_split ?_ w_codes
  rw [← List.take_append_drop 24 words1, List.all_append, w_t1, ← List.take_append_drop 24 (words1.drop 24), List.all_append, w_t2, ← List.take_append_drop 24 ((words1.drop 24).drop 24), List.all_append, w_t3, ← List.take_append_drop 24 (((words1.drop 24).drop 24).drop 24), List.all_append, w_t4, ← List.take_append_drop 24 ((((words1.drop 24).drop 24).drop 24).drop 24), List.all_append, w_t5, ← List.take_append_drop 24 (((((words1.drop 24).drop 24).drop 24).drop 24).drop 24), List.all_append, w_t6, w_t7]
  rfl
set_option maxRecDepth 65536 in
theorem w_rest : rest_1_c.before args0 about1 = true := by decide +kernel
set_option maxRecDepth 65536 in
theorem w_case : (Jvm.Cond.and given_1 narrow_1).before args0 about1 = true := by decide +kernel
set_option maxRecDepth 65536 in
theorem w_consts : constsHeld consts_1 about1 := Jvm.Lit.constsHeldB_iff.mp (by decide +kernel)
theorem w_applies : (headSpec (Jvm.Cond.code x code maxLocals ret :: tables_1) room_1).applies x e0.platform about1 = true :=
  (Spec.applies_iff w_frames).mpr ⟨w_running, w_runnable, w_alone, w_named, w_hears, w_ripe, w_room, w_tables⟩
theorem atStart : AtStart classFile x code maxLocals ret World_1 tables_1 room_1 Calls_1 rest_1 Pre_1 launch0 p0 e0 about1 theMethod args0 below0 :=
  ⟨lists_1, trivial, launch0.admits_env _ _ _, launch0.least_env, fairChoices_fair.cas, fairChoices_fair.clock, w_frames, w_args, w_heap, w_applies, ⟨w_consts, trivial⟩, w_rest, w_case⟩
end start1
theorem witness_1 : WitnessClaimed_1 := ⟨start1.p0, start1.e0, start1.about1, start1.theMethod, start1.args0, start1.below0, start1.atStart⟩
end Jvm.Pilot.@@N@@
