import JvmDerived
import JvmDerived.Pilot.@@N@@Statement
import JvmDerived.Pilot.@@N@@Code
set_option linter.unusedVariables false
set_option linter.unusedSimpArgs false
namespace Jvm.RoadKit
open Sem ClassFile Op Lib Jvm.Stand Jvm.Free Jvm.LawKit
section New
variable {p : Program} {l : Launch} {e : Env} {R : Room} {s : State} {m : MethodId} {args : Array Value} {below : List Frame} {meth : Method} {c : Code} {T : State} {locs : List Loc} {cells slots : Nat}
theorem retI (X : Stand p l e R s m args below meth c T locs cells slots) (hx : p.tables.exec = Jvm.exec) {pc : Nat} {Ls : Array Slot} {z : Int32} {rest : List Value} (hret : meth.sig.returnType = some .int) (hd : decode c.code pc = .ok (.ireturn, 1)) {fs : List Frame}
    (hl : ∀ (f : JFrame) (acts : List Action), f.method = m → f.locked = none → f.entered = [] → (doReturn e (T.setTop f) acts (some (.int z))).1 = T.setFrames fs) : Steps p.tables e below (T.setTop (mkF m pc Ls (.int z :: rest))) (T.setFrames fs) := by
  have hm' : T.vm.method? m = some meth := X.method'
  have hn : narrow .int (.int z) = .int z := rfl
  show Steps p.tables e below (T.setTop { method := m, pc := pc, locals := Ls, stack := _ :: rest, locked := none }) _
  jvm_step X.here [X.here.top, hx, hd, hm', hret, hn]
  first | (intro acts; rw [hl _ acts rfl rfl rfl]) | rw [hl _ _ rfl rfl rfl]
  exact Steps.refl _
end New
end Jvm.RoadKit
@@BLOCK:NumsL.lean.txt@@
namespace Jvm.Pilot.@@N@@
open Jvm Jvm.ClassFile Sem Op Lib Jvm.Free Jvm.Stand Jvm.LawKit Jvm.RoadKit Bundle Jvm.Pilot.@@N@@.Jvm.D
/-- from S the run comes to an end that says Q -/
def own_Go (p : Program) (e : Env) (below : List Frame) (s : State) (Q : Option Value → Heap → List Loc → Prop) (c n : Nat) (S : State) : Prop :=
  ∃ s₂ o, Steps p.tables e below S s₂ ∧ s₂.status = .running ∧ Ended s₂ below o ∧ ∃ v L, o = .returned v ∧ Q v s₂.heap L ∧ FrameEnd s o s₂ L c n
theorem own_go {p : Program} {e : Env} {below : List Frame} {s : State} {Q : Option Value → Heap → List Loc → Prop} {c n : Nat} {S S' : State} (st : ∀ t, Steps p.tables e below S' t → Steps p.tables e below S t) (k : own_Go p e below s Q c n S') : own_Go p e below s Q c n S := by
  obtain ⟨s₂, o, h, r⟩ := k
  exact ⟨s₂, o, st _ h, r⟩
theorem own_goT {p : Program} {e : Env} {below : List Frame} {s : State} {Q : Option Value → Heap → List Loc → Prop} {c n : Nat} {S S' : State} (st : Steps p.tables e below S S') (k : own_Go p e below s Q c n S') : own_Go p e below s Q c n S := own_go (fun _ h => st.trans h) k
theorem own_end {p : Program} {e : Env} {below : List Frame} {s : State} {Q : Option Value → Heap → List Loc → Prop} {c n : Nat} {S s₂ : State} {v : Option Value} {L : List Loc} (h : Steps p.tables e below S s₂) (hrun : s₂.status = .running) (he : Ended s₂ below (.returned v)) (hq : Q v s₂.heap L) (hW : s.WarmedH s₂.vm) (hs : s.sameButNew ({ s₂ with vm := s.vm } : State) L c n) : own_Go p e below s Q c n S :=
  ⟨s₂, _, h, hrun, he, v, L, rfl, hq, ⟨_, rfl⟩, hW, hs⟩
/-- an array of known values, its class's number unsaid -/
def own_Arv (Z : State) (h : Heap) (a : Addr) (ty : FieldType) (n : Int32) (vs : List Value) (d : Value) : Prop := ∃ k, Arv Z h a k ty n vs d
theorem own_Arv.lt {Z : State} {h : Heap} {a : Addr} {ty : FieldType} {n : Int32} {vs : List Value} {d : Value} (F : own_Arv Z h a ty n vs d) : a < h.size := by obtain ⟨k, F⟩ := F; exact F.lt
theorem own_Arv.ext {Z : State} {h h' : Heap} {a : Addr} {ty : FieldType} {n : Int32} {vs : List Value} {d : Value} (F : own_Arv Z h a ty n vs d) (E : Ext h h') : own_Arv Z h' a ty n vs d := by obtain ⟨k, F⟩ := F; exact ⟨k, F.ext E⟩
theorem own_Arv.other {Z : State} {h h' : Heap} {a b : Addr} {sl : Nat} {v : Value} {ty : FieldType} {n : Int32} {vs : List Value} {d : Value} (F : own_Arv Z h b ty n vs d) (W : Wr h h' a sl v) (q : b ≠ a) : own_Arv Z h' b ty n vs d := by obtain ⟨k, F⟩ := F; exact ⟨k, F.other W q⟩
theorem own_Arv.keep {Z : State} {h h' : Heap} {a : Addr} {ws : List Addr} {ty : FieldType} {n : Int32} {vs : List Value} {d : Value} (F : own_Arv Z h a ty n vs d) (K : Keep h h' ws) (q : a ∉ ws) : own_Arv Z h' a ty n vs d := by obtain ⟨k, F⟩ := F; exact ⟨k, F.keep K q⟩
theorem own_plain {Z : State} {h : Heap} {a : Addr} {C : String} (F : Exa Z h a C) : ∃ c : Cell, h[a]? = some c ∧ c.vm.isStatics = false := by obtain ⟨c, k, h1, -, -, h4, -⟩ := F; exact ⟨c, h1, h4⟩
theorem own_sta_keep {Z : State} {h h' : Heap} {ws : List Addr} {C n d : String} {v : Value} (F : Sta Z h C n d v) (K : Keep h h' ws) (q : ∀ x ∈ ws, ∃ c : Cell, h[x]? = some c ∧ c.vm.isStatics = false) : Sta Z h' C n d v := by
  obtain ⟨cf, i, k, f, st, cell, h1, h2, h3, h4, h5, h6, h7⟩ := F
  refine ⟨cf, i, k, f, st, cell, h1, h2, h3, h4, K.2.1 st cell h5 fun hm => ?_, h6, h7⟩
  obtain ⟨c, g1, g2⟩ := q st hm
  cases h5.symm.trans g1
  rw [h6] at g2; cases g2
theorem own_ins_keep {Z : State} {h h' : Heap} {ws : List Addr} {a : Addr} {C : String} {b : Bool} (F : Ins Z h a C b) (K : Keep h h' ws) : Ins Z h' a C b := by
  obtain ⟨cell, cT, h1, h2, h3⟩ := F
  obtain ⟨c', g1, g2, g3, -⟩ := K.2.2 a cell h1
  exact ⟨c', cT, g1, h2, by rw [g2, g3]; exact h3⟩
/-- an array of which the length alone is known -/
def own_Len (Z : State) (h : Heap) (a : Addr) (ty : FieldType) (n : Int32) : Prop := ∃ c : Cell, Arr Z h a c ty ∧ c.slots.size = n.toNatClampNeg ∧ ¬ n < 0
theorem own_Len.lt {Z : State} {h : Heap} {a : Addr} {ty : FieldType} {n : Int32} (F : own_Len Z h a ty n) : a < h.size := by obtain ⟨c, A, -⟩ := F; exact A.lt
theorem own_Len.new {Z : State} {h : Heap} {a : Addr} {k : ClassId} {ty : FieldType} {n : Int32} (A : Arr Z h a (newA k ty n) ty) (q : ¬ n < 0) : own_Len Z h a ty n := ⟨_, A, sz_new _ _ _, q⟩
theorem own_Len.ext {Z : State} {h h' : Heap} {a : Addr} {ty : FieldType} {n : Int32} (F : own_Len Z h a ty n) (E : Ext h h') : own_Len Z h' a ty n := by obtain ⟨c, A, r⟩ := F; exact ⟨c, A.ext E, r⟩
theorem own_Len.other {Z : State} {h h' : Heap} {a b : Addr} {sl : Nat} {v : Value} {ty : FieldType} {n : Int32} (F : own_Len Z h b ty n) (W : Wr h h' a sl v) (q : b ≠ a) : own_Len Z h' b ty n := by obtain ⟨c, A, r⟩ := F; exact ⟨c, A.other W q, r⟩
theorem own_Len.keep {Z : State} {h h' : Heap} {a : Addr} {ws : List Addr} {ty : FieldType} {n : Int32} (F : own_Len Z h a ty n) (K : Keep h h' ws) (q : a ∉ ws) : own_Len Z h' a ty n := by obtain ⟨c, A, r⟩ := F; exact ⟨c, ⟨K.2.1 a c A.1 q, A.2⟩, r⟩
theorem own_unt_keep {h h' : Heap} {a : Addr} {ws : List Addr} (F : Unt h a) (K : Keep h h' ws) (q : a ∉ ws) : Unt h' a := by obtain ⟨c, h1, r⟩ := F; exact ⟨c, K.2.1 a c h1 q, r⟩
theorem own_unt_lt {h : Heap} {a : Addr} (F : Unt h a) : a < h.size := by obtain ⟨c, h1, -⟩ := F; exact (Array.getElem?_eq_some_iff.mp h1).1
/-- an array of references, of known values, its component's class C -/
def own_ArvR (Z : State) (h : Heap) (a : Addr) (C : String) (n : Int32) (vs : List Value) : Prop := ∃ k, Arv Z h a k (.object C) n vs .null ∧ Ovr Z k C
theorem own_ArvR.lt {Z : State} {h : Heap} {a : Addr} {C : String} {n : Int32} {vs : List Value} (F : own_ArvR Z h a C n vs) : a < h.size := by obtain ⟨k, F, -⟩ := F; exact F.lt
theorem own_ArvR.ext {Z : State} {h h' : Heap} {a : Addr} {C : String} {n : Int32} {vs : List Value} (F : own_ArvR Z h a C n vs) (E : Ext h h') : own_ArvR Z h' a C n vs := by obtain ⟨k, F, O⟩ := F; exact ⟨k, F.ext E, O⟩
theorem own_ArvR.other {Z : State} {h h' : Heap} {a b : Addr} {sl : Nat} {v : Value} {C : String} {n : Int32} {vs : List Value} (F : own_ArvR Z h b C n vs) (W : Wr h h' a sl v) (q : b ≠ a) : own_ArvR Z h' b C n vs := by obtain ⟨k, F, O⟩ := F; exact ⟨k, F.other W q, O⟩
theorem own_ArvR.keep {Z : State} {h h' : Heap} {a : Addr} {ws : List Addr} {C : String} {n : Int32} {vs : List Value} (F : own_ArvR Z h a C n vs) (K : Keep h h' ws) (q : a ∉ ws) : own_ArvR Z h' a C n vs := by obtain ⟨k, F, O⟩ := F; exact ⟨k, F.keep K q, O⟩
theorem own_plainB {Z : State} {h : Heap} {a : Addr} {C : String} {n : Int32} {vs : List Value} (F : own_ArvR Z h a C n vs) : ∃ c : Cell, h[a]? = some c ∧ c.vm.isStatics = false := by obtain ⟨k, ⟨c, A, -⟩, -⟩ := F; exact ⟨c, A.1, A.plain⟩
theorem own_plainA {Z : State} {h : Heap} {a : Addr} {ty : FieldType} {n : Int32} {vs : List Value} {d : Value} (F : own_Arv Z h a ty n vs d) : ∃ c : Cell, h[a]? = some c ∧ c.vm.isStatics = false := by obtain ⟨k, c, A, -⟩ := F; exact ⟨c, A.1, A.plain⟩
theorem own_plainL {Z : State} {h : Heap} {a : Addr} {ty : FieldType} {n : Int32} (F : own_Len Z h a ty n) : ∃ c : Cell, h[a]? = some c ∧ c.vm.isStatics = false := by obtain ⟨c, A, -⟩ := F; exact ⟨c, A.1, A.plain⟩
theorem own_neA {Z : State} {h : Heap} {x b : Addr} {C : String} {a0 : Array Value} {m : Nat} {ty : FieldType} {n : Int32} {vs : List Value} {d : Value} (E : Exa Z h x C) (F : own_Arv Z h b ty n vs d) (w : (Jvm.Cond.instantiable C m).before a0 Z = true) : x ≠ b := by obtain ⟨k, c, A, -⟩ := F; exact ne_arr E w A
theorem own_neL {Z : State} {h : Heap} {x b : Addr} {C : String} {a0 : Array Value} {m : Nat} {ty : FieldType} {n : Int32} (E : Exa Z h x C) (F : own_Len Z h b ty n) (w : (Jvm.Cond.instantiable C m).before a0 Z = true) : x ≠ b := by obtain ⟨c, A, -⟩ := F; exact ne_arr E w A
theorem own_neB {Z : State} {h : Heap} {x b : Addr} {C D : String} {a0 : Array Value} {m : Nat} {n : Int32} {vs : List Value} (E : Exa Z h x C) (F : own_ArvR Z h b D n vs) (w : (Jvm.Cond.instantiable C m).before a0 Z = true) : x ≠ b := by obtain ⟨k, ⟨c, A, -⟩, -⟩ := F; exact ne_arr E w A

/-- own_Go, where String constants may be loaded -/
def own_GoW (p : Program) (e : Env) (below : List Frame) (s : State) (Q : Option Value → Heap → List Loc → Prop) (c n : Nat) (S : State) : Prop :=
  ∃ s₂ o, Steps p.tables e below S s₂ ∧ s₂.status = .running ∧ Ended s₂ below o ∧ ∃ v L, o = .returned v ∧ Q v s₂.heap L ∧ ReturnedEndW s o s₂ L c n
theorem own_goW {p : Program} {e : Env} {below : List Frame} {s : State} {Q : Option Value → Heap → List Loc → Prop} {c n : Nat} {S S' : State} (st : ∀ t, Steps p.tables e below S' t → Steps p.tables e below S t) (k : own_GoW p e below s Q c n S') : own_GoW p e below s Q c n S := by
  obtain ⟨s₂, o, h, r⟩ := k
  exact ⟨s₂, o, st _ h, r⟩
theorem own_goTW {p : Program} {e : Env} {below : List Frame} {s : State} {Q : Option Value → Heap → List Loc → Prop} {c n : Nat} {S S' : State} (st : Steps p.tables e below S S') (k : own_GoW p e below s Q c n S') : own_GoW p e below s Q c n S := own_goW (fun _ h => st.trans h) k
theorem own_endW {p : Program} {e : Env} {below : List Frame} {s : State} {Q : Option Value → Heap → List Loc → Prop} {c n c' n' : Nat} {S s₂ : State} {v : Option Value} {L : List Loc} (h : Steps p.tables e below S s₂) (hrun : s₂.status = .running) (he : Ended s₂ below (.returned v)) (hq : Q v s₂.heap L) (hE : s.Warmed39 s₂.vm ∧ s.Booked s₂.vm s₂.heap.size ∧ s.sameButNew ({ s₂ with vm := s.vm } : State) L c' n') (hc : c' ≤ c) (hn : n' ≤ n) : own_GoW p e below s Q c n S :=
  ⟨s₂, _, h, hrun, he, v, L, rfl, hq, ⟨_, rfl⟩, hE.1, hE.2.1, hE.2.2.mono hc hn⟩
theorem own_strW {Z : State} {a0 : Array Value} (w1 : (Jvm.Cond.initialized "java/lang/String").before a0 Z = true) (w2 : (Jvm.Cond.instantiable "java/lang/String" 4).before a0 Z = true) (w3 : (Jvm.Cond.arrayClass .byte).before a0 Z = true) (w4 : (Jvm.Cond.laysFinal "java/lang/String" "java/lang/String" "value" "[B").before a0 Z = true) (w5 : (Jvm.Cond.laysFinal "java/lang/String" "java/lang/String" "coder" "B").before a0 Z = true) (w6 : (Jvm.Cond.soleField "java/lang/String" "value").before a0 Z = true) (w7 : (Jvm.Cond.soleField "java/lang/String" "coder").before a0 Z = true) : ∀ a ∈ Bundle.stringAtoms, a.before a0 Z = true := by
  intro a ha
  simp only [Bundle.stringAtoms, Bundle.sN, List.mem_cons, List.not_mem_nil, or_false] at ha
  rcases ha with rfl | rfl | rfl | rfl | rfl | rfl | rfl
  · exact w1
  · exact w2
  · exact w3
  · exact w4
  · exact w5
  · exact w6
  · exact w7

theorem d2_0 : decode jdk_43_method_3_code 0 = .ok (.iload_n 0, 1) := by decide +kernel
theorem d2_1 : decode jdk_43_method_3_code 1 = .ok (.sipush 255, 3) := by decide +kernel
theorem d2_4 : decode jdk_43_method_3_code 4 = .ok (.if_icmp .gt 7, 3) := by decide +kernel
theorem d2_11 : decode jdk_43_method_3_code 11 = .ok (.iconst 0, 1) := by decide +kernel
theorem d2_12 : decode jdk_43_method_3_code 12 = .ok (.ireturn, 1) := by decide +kernel
theorem d2_7 : decode jdk_43_method_3_code 7 = .ok (.iconst 1, 1) := by decide +kernel
theorem d2_8 : decode jdk_43_method_3_code 8 = .ok (.goto 4, 3) := by decide +kernel
theorem pn_7 : plainName "java/lang/StringLatin1" = true := by first | (simp [plainName, overriddenIn]; done) | decide +kernel
theorem ef_canEnc (m : MethodId) (x0 : Int32) : entryFrame m #[(.int x0)] 1 = mkF m 0 #[.val (.int x0)] [] := by first | (simp [entryFrame, mkF, argsToLocals, Value.category]; done) | rfl
def canEnc_r (p0 : Int32) : Int32 := (if (255 : Int32) < p0 then (0 : Int32) else (1 : Int32))
def QcanEnc (Z : State) (p0 : Int32) (h0 : Heap) (n0 : Nat) (v : Option Value) (h : Heap) (L : List Loc) : Prop := v = some (.int (canEnc_r p0)) ∧ Fr n0 L ∧ h = h0
set_option maxRecDepth 65536 in
set_option maxHeartbeats 40000000 in
theorem canEnc (l : Launch) (Z : State) (a0 : Array Value) (hw : ∀ d ∈ tables_1, d.before a0 Z = true) (ws : List Jvm.Cond) (p0 : Int32) (h0 : Heap) (n0 : Nat) (Z0 : n0 ≤ h0.size) :
    MetFree l (⟨"java/lang/StringLatin1", "canEncode", "(C)Z"⟩ : MethodName) (head1 (Jvm.Cond.code (⟨"java/lang/StringLatin1", "canEncode", "(C)Z"⟩ : MethodName) jdk_43_method_3_code 1 (some .boolean) :: ws) ({ frames := 0, cells := 0, slots := 0, locals := 0 } : Room)) (fun a U => a = #[(.int p0)] ∧ Z.Warmed39 U.vm ∧ U.heap = h0) (fun _ _ _ _ _ => True) (fun _ U o U' => ∃ v L, o = .returned v ∧ QcanEnc Z p0 h0 n0 v U'.heap L ∧ FrameEnd U o U' L ({ frames := 0, cells := 0, slots := 0, locals := 0 } : Room).cells ({ frames := 0, cells := 0, slots := 0, locals := 0 } : Room).slots) := by
  refine MetFree.of_bodySF (plainFor_of_name pn_7) hisR ?_
  intro p e s m args below meth c s₁ Bd hml0 hP hK
  obtain ⟨rfl, hZ, hh⟩ := hP
  have hx := Bd.exec
  have hby := Bd.bytes
  have hml : c.maxLocals = 1 := hml0
  have hown : s.vm.findClass "java/lang/StringLatin1" = some m.cls := findClass_of_methodNamed Bd.named
  have hnm := (name_of_methodNamed Bd.named Bd.method).1
  have X0 : Stand p l e ({ frames := 0, cells := 0, slots := 0, locals := 0 } : Room) s m #[(.int p0)] below meth c s₁ [] 0 0 := Stand.of_body Bd
  have e0 : s₁.heap = h0 := by rw [← hh, Bd.state]; rfl
  have N0 := Fr.nil n0
  show own_Go p e below s (QcanEnc Z p0 h0 n0) ({ frames := 0, cells := 0, slots := 0, locals := 0 } : Room).cells ({ frames := 0, cells := 0, slots := 0, locals := 0 } : Room).slots (s₁.setTop (entryFrame m #[(.int p0)] 1))
  rw [ef_canEnc m p0]
  have K0 : Keep h0 h0 [] := Keep.refl h0 []
  refine own_go (S' := s₁.setTop (mkF m 4 #[.val (.int p0)] [(.int (255 : Int32)), (.int p0)])) (fun t k => ?_) ?_
  · show Steps p.tables e below (s₁.setTop (mkF m 0 #[.val (.int p0)] [])) t
    refine XS.iloadN X0.here hx rfl (hb hby d2_0) rfl ?_
    show Steps p.tables e below (s₁.setTop (mkF m 1 #[.val (.int p0)] [(.int p0)])) t
    refine XS.sipush X0.here hx rfl (hb hby d2_1) ?_
    exact k
  by_cases hc4 : (255 : Int32) < p0
  · skip
    refine own_go (S' := s₁.setTop (mkF m 12 #[.val (.int p0)] [(.int (0 : Int32))])) (fun t k => ?_) ?_
    · show Steps p.tables e below (s₁.setTop (mkF m 4 #[.val (.int p0)] [(.int (255 : Int32)), (.int p0)])) t
      refine XS.icmpYes X0.here hx rfl (pc0 := 4) (pc' := 11) rfl (hb hby d2_4) rfl (tlt hc4).2.2.1 (by decide) (by decide) ?_
      show Steps p.tables e below (s₁.setTop (mkF m 11 #[.val (.int p0)] [])) t
      refine XS.iconst X0.here hx rfl (hb hby d2_11) ?_
      exact k
    obtain ⟨fs, hr, hrun, hended, hW, hsame⟩ := X0.leave (v := some (.int (0 : Int32))) (fun h => by rw [Bd.returns] at h; cases h)
    refine own_end (v := some (.int (0 : Int32))) ?_ hrun hended ?_ hW (hsame.mono (by decide) (by decide))
    · show Steps p.tables e below (s₁.setTop (mkF m 12 #[.val (.int p0)] [(.int (0 : Int32))])) _
      exact retN X0 hx (t := .boolean) Bd.returns (by simp) (hb hby d2_12) hr
    · show QcanEnc Z p0 h0 n0 _ s₁.heap _
      rw [e0]
      exact ⟨(by simp only [canEnc_r, if_pos hc4]), N0, rfl⟩
  · skip
    refine own_go (S' := s₁.setTop (mkF m 12 #[.val (.int p0)] [(.int (1 : Int32))])) (fun t k => ?_) ?_
    · show Steps p.tables e below (s₁.setTop (mkF m 4 #[.val (.int p0)] [(.int (255 : Int32)), (.int p0)])) t
      refine XS.icmpNo X0.here hx rfl (hb hby d2_4) rfl (flt hc4).2.2.1 ?_
      show Steps p.tables e below (s₁.setTop (mkF m 7 #[.val (.int p0)] [])) t
      refine XS.iconst X0.here hx rfl (hb hby d2_7) ?_
      show Steps p.tables e below (s₁.setTop (mkF m 8 #[.val (.int p0)] [(.int (1 : Int32))])) t
      refine XS.goto X0.here hx rfl (pc0 := 8) (pc' := 12) rfl (hb hby d2_8) (by decide) (by decide) ?_
      exact k
    obtain ⟨fs, hr, hrun, hended, hW, hsame⟩ := X0.leave (v := some (.int (1 : Int32))) (fun h => by rw [Bd.returns] at h; cases h)
    refine own_end (v := some (.int (1 : Int32))) ?_ hrun hended ?_ hW (hsame.mono (by decide) (by decide))
    · show Steps p.tables e below (s₁.setTop (mkF m 12 #[.val (.int p0)] [(.int (1 : Int32))])) _
      exact retN X0 hx (t := .boolean) Bd.returns (by simp) (hb hby d2_12) hr
    · show QcanEnc Z p0 h0 n0 _ s₁.heap _
      rw [e0]
      exact ⟨(by simp only [canEnc_r, if_neg hc4]), N0, rfl⟩
theorem own_enc (x : Int32) : ¬ (canEnc_r ((x &&& (255 : Int32)).toUInt32.toUInt16.toUInt32.toInt32) = (0 : Int32)) := by
  have t : ∀ k : Fin 256, ¬ (canEnc_r ((Int32.ofNat k.val).toUInt32.toUInt16.toUInt32.toInt32) = (0 : Int32)) := by decide +kernel
  have h : (x &&& 255).toBitVec.toNat < 256 := by
    simp only [Int32.toBitVec_and, BitVec.toNat_and]
    exact Nat.lt_succ_of_le Nat.and_le_right
  have e : (x &&& 255) = Int32.ofNat (x &&& 255).toBitVec.toNat := by
    apply Int32.toBitVec_inj.mp
    show _ = BitVec.ofNat 32 _
    rw [BitVec.ofNat_toNat]; simp
  rw [e]
  exact t ⟨_, h⟩
theorem d3_0 : decode jdk_43_method_46_code 0 = .ok (.iconst 1, 1) := by decide +kernel
theorem d3_1 : decode jdk_43_method_46_code 1 = .ok (.newarray .byte, 2) := by decide +kernel
theorem d3_3 : decode jdk_43_method_46_code 3 = .ok (.dup, 1) := by decide +kernel
theorem d3_4 : decode jdk_43_method_46_code 4 = .ok (.iconst 0, 1) := by decide +kernel
theorem d3_5 : decode jdk_43_method_46_code 5 = .ok (.iload_n 0, 1) := by decide +kernel
theorem d3_6 : decode jdk_43_method_46_code 6 = .ok (.i2b, 1) := by decide +kernel
theorem d3_7 : decode jdk_43_method_46_code 7 = .ok (.bastore, 1) := by decide +kernel
theorem d3_8 : decode jdk_43_method_46_code 8 = .ok (.areturn, 1) := by decide +kernel
theorem ef_toBytes (m : MethodId) (x0 : Int32) : entryFrame m #[(.int x0)] 1 = mkF m 0 #[.val (.int x0)] [] := by first | (simp [entryFrame, mkF, argsToLocals, Value.category]; done) | rfl
def QtoBytes (Z : State) (p0 : Int32) (h0 : Heap) (n0 : Nat) (v : Option Value) (h : Heap) (L : List Loc) : Prop := ∃ x0_ : Addr, v = some (.ref x0_) ∧ Fr n0 L ∧ Keep h0 h [] ∧ h0.size ≤ x0_ ∧ own_Arv Z h x0_ .byte (1 : Int32) [(.int (nar .byte (p0.toInt8.toInt32)))] (.int (0 : Int32))
set_option maxRecDepth 65536 in
set_option maxHeartbeats 40000000 in
theorem toBytes (l : Launch) (Z : State) (a0 : Array Value) (hw : ∀ d ∈ tables_1, d.before a0 Z = true) (ws : List Jvm.Cond) (p0 : Int32) (h0 : Heap) (n0 : Nat) (Z0 : n0 ≤ h0.size) :
    MetFree l (⟨"java/lang/StringLatin1", "toBytes", "(C)[B"⟩ : MethodName) (head1 (Jvm.Cond.code (⟨"java/lang/StringLatin1", "toBytes", "(C)[B"⟩ : MethodName) jdk_43_method_46_code 1 (some (.array .byte)) :: ws) ({ frames := 0, cells := 1, slots := 1, locals := 0 } : Room)) (fun a U => a = #[(.int p0)] ∧ Z.Warmed39 U.vm ∧ U.heap = h0) (fun _ _ _ _ _ => True) (fun _ U o U' => ∃ v L, o = .returned v ∧ QtoBytes Z p0 h0 n0 v U'.heap L ∧ FrameEnd U o U' L ({ frames := 0, cells := 1, slots := 1, locals := 0 } : Room).cells ({ frames := 0, cells := 1, slots := 1, locals := 0 } : Room).slots) := by
  refine MetFree.of_bodySF (plainFor_of_name pn_7) hisR ?_
  intro p e s m args below meth c s₁ Bd hml0 hP hK
  obtain ⟨rfl, hZ, hh⟩ := hP
  have hx := Bd.exec
  have hby := Bd.bytes
  have hml : c.maxLocals = 1 := hml0
  have hown : s.vm.findClass "java/lang/StringLatin1" = some m.cls := findClass_of_methodNamed Bd.named
  have hnm := (name_of_methodNamed Bd.named Bd.method).1
  have X0 : Stand p l e ({ frames := 0, cells := 1, slots := 1, locals := 0 } : Room) s m #[(.int p0)] below meth c s₁ [] 0 0 := Stand.of_body Bd
  have e0 : s₁.heap = h0 := by rw [← hh, Bd.state]; rfl
  have N0 := Fr.nil n0
  show own_Go p e below s (QtoBytes Z p0 h0 n0) ({ frames := 0, cells := 1, slots := 1, locals := 0 } : Room).cells ({ frames := 0, cells := 1, slots := 1, locals := 0 } : Room).slots (s₁.setTop (entryFrame m #[(.int p0)] 1))
  rw [ef_toBytes m p0]
  have K0 : Keep h0 h0 [] := Keep.refl h0 []
  refine own_go (S' := s₁.setTop (mkF m 1 #[.val (.int p0)] [(.int (1 : Int32))])) (fun t k => ?_) ?_
  · show Steps p.tables e below (s₁.setTop (mkF m 0 #[.val (.int p0)] [])) t
    refine XS.iconst X0.here hx rfl (hb hby d3_0) ?_
    exact k
  obtain ⟨T1, h1, k1, X1, e1, E1, A1, st1⟩ := newP X0 hx hZ (hw _ (List.mem_of_getElem? (i := 14) rfl)) e0 (g := (mkF m 1 #[.val (.int p0)] [(.int (1 : Int32))])) rfl (hb hby d3_1) rfl (by decide) (cap := 1) (by decide) (by decide) (by decide) (by decide)
  obtain ⟨b1, g1⟩ : ∃ z, z = h0.size := ⟨_, rfl⟩
  rw [← g1] at A1 st1
  have g_b1 : n0 ≤ b1 := Nat.le_trans Z0 (Nat.le_of_eq g1.symm)
  have sz_b1 : h0.size ≤ b1 := Nat.le_trans K0.1 (Nat.le_of_eq g1.symm)
  have K2 : Keep h0 h1 [] := K0.ext E1
  have Z3 : n0 ≤ h1.size := Nat.le_trans Z0 E1.1
  have v4 : own_Arv Z h1 b1 .byte (1 : Int32) [(.int (0 : Int32))] (.int (0 : Int32)) := ⟨_, (Arv.new A1 (by decide)).pad (pad_rep [] (.int (0 : Int32)) 1)⟩
  refine own_go st1 ?_
  refine own_go (S' := T1.setTop (mkF m 7 #[.val (.int p0)] [(.int (p0.toInt8.toInt32)), (.int (0 : Int32)), (.ref b1), (.ref b1)])) (fun t k => ?_) ?_
  · show Steps p.tables e below (T1.setTop (mkF m 3 #[.val (.int p0)] [(.ref b1)])) t
    refine XS.dup X1.here hx rfl (hb hby d3_3) rfl rfl ?_
    show Steps p.tables e below (T1.setTop (mkF m 4 #[.val (.int p0)] [(.ref b1), (.ref b1)])) t
    refine XS.iconst X1.here hx rfl (hb hby d3_4) ?_
    show Steps p.tables e below (T1.setTop (mkF m 5 #[.val (.int p0)] [(.int (0 : Int32)), (.ref b1), (.ref b1)])) t
    refine XS.iloadN X1.here hx rfl (hb hby d3_5) rfl ?_
    show Steps p.tables e below (T1.setTop (mkF m 6 #[.val (.int p0)] [(.int p0), (.int (0 : Int32)), (.ref b1), (.ref b1)])) t
    refine XS.i2b X1.here hx rfl (hb hby d3_6) rfl ?_
    exact k
  obtain ⟨kq5, cl5, Ar5, q5, S5, Nn5, Hh5, G5⟩ := v4
  have hin5 : ¬ ((0 : Int32) < 0 ∨ cl5.slots.size ≤ ((0 : Int32)).toNatClampNeg) := inb_of S5 ⟨by decide, by decide⟩
  obtain ⟨T5, h5, X5, e5, W5, st5⟩ := stB X1 hx hZ e1 Ar5 (j := (0 : Int32)) hin5 (g := (mkF m 7 #[.val (.int p0)] [(.int (p0.toInt8.toInt32)), (.int (0 : Int32)), (.ref b1), (.ref b1)])) rfl rfl (hb hby d3_7)
  have v6 : own_Arv Z h5 b1 .byte (1 : Int32) [(.int (nar .byte (p0.toInt8.toInt32)))] (.int (0 : Int32)) := ⟨_, Arv.set Ar5 q5 S5 Nn5 Hh5 G5 (fits_nar_byte _) W5 0 rfl (Nat.le_of_ble_eq_true rfl)⟩
  have N7 := Fr.snoc X5 N0 g_b1
  have Z8 : n0 ≤ h5.size := Nat.le_trans Z3 (Keep.of_wr W5).1
  have K9 : Keep h0 h5 [] := K2.wr W5 (Or.inr sz_b1)
  refine own_go st5 ?_
  obtain ⟨fs, hr, hrun, hended, hW, hsame⟩ := X5.leave (v := some (.ref b1)) (fun h => by rw [Bd.returns] at h; cases h)
  refine own_end (v := some (.ref b1)) ?_ hrun hended ?_ hW (hsame.mono (by decide) (by decide))
  · show Steps p.tables e below (T5.setTop (mkF m 8 #[.val (.int p0)] [(.ref b1)])) _
    jvm_step X5.here [X5.here.top, hx, (hb hby d3_8), X5.method', Bd.returns, Value.isRef, FieldType.isReference]
    first | (intro acts; rw [hr _ acts rfl rfl rfl]) | rw [hr _ _ rfl rfl rfl]
    exact Steps.refl _
  · show QtoBytes Z p0 h0 n0 _ T5.heap _
    rw [e5]
    exact ⟨b1, rfl, N7, K9, sz_b1, v6⟩
theorem d4_0 : decode jdk_42_method_151_code 0 = .ok (.aload_n 0, 1) := by decide +kernel
theorem d4_1 : decode jdk_42_method_151_code 1 = .ok (.invokespecial 1, 3) := by decide +kernel
theorem d4_4 : decode jdk_42_method_151_code 4 = .ok (.aload_n 0, 1) := by decide +kernel
theorem d4_5 : decode jdk_42_method_151_code 5 = .ok (.aload_n 1, 1) := by decide +kernel
theorem d4_6 : decode jdk_42_method_151_code 6 = .ok (.putfield 9, 3) := by decide +kernel
theorem d4_9 : decode jdk_42_method_151_code 9 = .ok (.aload_n 0, 1) := by decide +kernel
theorem d4_10 : decode jdk_42_method_151_code 10 = .ok (.iload_n 2, 1) := by decide +kernel
theorem d4_11 : decode jdk_42_method_151_code 11 = .ok (.putfield 15, 3) := by decide +kernel
theorem d4_14 : decode jdk_42_method_151_code 14 = .ok (.return_, 1) := by decide +kernel
theorem pn_25 : plainName "java/lang/String" = true := by first | (simp [plainName, overriddenIn]; done) | decide +kernel
theorem ef_strInit (m : MethodId) (x0 : Addr) (x1 : Addr) (x2 : Int32) : entryFrame m #[(.ref x0), (.ref x1), (.int x2)] 3 = mkF m 0 #[.val (.ref x0), .val (.ref x1), .val (.int x2)] [] := by first | (simp [entryFrame, mkF, argsToLocals, Value.category]; done) | rfl
def QstrInit (Z : State) (o0 : Addr) (o1 : Addr) (p2 : Int32) (w_o0_value : Value) (w_o0_coder : Int32) (h0 : Heap) (n0 : Nat) (v : Option Value) (h : Heap) (L : List Loc) : Prop := v = none ∧ Fr n0 L ∧ Keep h0 h [o0] ∧ Exa Z h o0 "java/lang/String" ∧ Fld Z h o0 "java/lang/String" "value" "[B" (.ref o1) ∧ Fld Z h o0 "java/lang/String" "coder" "B" (.int (nar .byte p2))
set_option maxRecDepth 65536 in
set_option maxHeartbeats 40000000 in
theorem strInit (l : Launch) (Z : State) (a0 : Array Value) (hw : ∀ d ∈ tables_1, d.before a0 Z = true) (ws : List Jvm.Cond) (o0 : Addr) (o1 : Addr) (p2 : Int32) (w_o0_value : Value) (w_o0_coder : Int32) (h0 : Heap) (n0 : Nat) (Z0 : n0 ≤ h0.size) (E_o0 : Exa Z h0 o0 "java/lang/String") (F_o0_value : Fld Z h0 o0 "java/lang/String" "value" "[B" w_o0_value) (F_o0_coder : Fld Z h0 o0 "java/lang/String" "coder" "B" (.int w_o0_coder)) (g_o0 : n0 ≤ o0) :
    MetFree l (⟨"java/lang/String", "<init>", "([BB)V"⟩ : MethodName) (head1 (Jvm.Cond.code (⟨"java/lang/String", "<init>", "([BB)V"⟩ : MethodName) jdk_42_method_151_code 3 none :: ws) ({ frames := 1, cells := 0, slots := 0, locals := 12 } : Room)) (fun a U => a = #[(.ref o0), (.ref o1), (.int p2)] ∧ Z.Warmed39 U.vm ∧ U.heap = h0) (fun _ _ _ _ _ => True) (fun _ U o U' => ∃ v L, o = .returned v ∧ QstrInit Z o0 o1 p2 w_o0_value w_o0_coder h0 n0 v U'.heap L ∧ FrameEnd U o U' L ({ frames := 1, cells := 0, slots := 0, locals := 12 } : Room).cells ({ frames := 1, cells := 0, slots := 0, locals := 12 } : Room).slots) := by
  refine MetFree.of_bodySF (plainFor_of_name pn_25) hisR ?_
  intro p e s m args below meth c s₁ Bd hml0 hP hK
  obtain ⟨rfl, hZ, hh⟩ := hP
  have hx := Bd.exec
  have hby := Bd.bytes
  have hml : c.maxLocals = 3 := hml0
  have hown : s.vm.findClass "java/lang/String" = some m.cls := findClass_of_methodNamed Bd.named
  have hnm := (name_of_methodNamed Bd.named Bd.method).1
  have X0 : Stand p l e ({ frames := 1, cells := 0, slots := 0, locals := 12 } : Room) s m #[(.ref o0), (.ref o1), (.int p2)] below meth c s₁ [] 0 0 := Stand.of_body Bd
  have e0 : s₁.heap = h0 := by rw [← hh, Bd.state]; rfl
  have N0 := Fr.nil n0
  show own_Go p e below s (QstrInit Z o0 o1 p2 w_o0_value w_o0_coder h0 n0) ({ frames := 1, cells := 0, slots := 0, locals := 12 } : Room).cells ({ frames := 1, cells := 0, slots := 0, locals := 12 } : Room).slots (s₁.setTop (entryFrame m #[(.ref o0), (.ref o1), (.int p2)] 3))
  rw [ef_strInit m o0 o1 p2]
  have K0 : Keep h0 h0 [o0] := Keep.refl h0 [o0]
  refine own_go (S' := s₁.setTop (mkF m 1 #[.val (.ref o0), .val (.ref o1), .val (.int p2)] [(.ref o0)])) (fun t k => ?_) ?_
  · show Steps p.tables e below (s₁.setTop (mkF m 0 #[.val (.ref o0), .val (.ref o1), .val (.int p2)] [])) t
    refine XS.aloadN X0.here hx rfl (hb hby d4_0) rfl rfl ?_
    exact k
  obtain ⟨T10, X10, e10, st10⟩ := initO X0 hx hZ hown (hw _ (List.mem_of_getElem? (i := 19) rfl)) (hw _ (List.mem_of_getElem? (i := 20) rfl)) (hw _ (List.mem_of_getElem? (i := 21) rfl)) e0 (g := (mkF m 1 #[.val (.ref o0), .val (.ref o1), .val (.int p2)] [(.ref o0)])) rfl (by rw [hml]; rfl) rfl (hb hby d4_1) (by decide) (W := 0) (by show 2 * 0 + _ ≤ _; exact Nat.le_of_eq rfl) (by decide)
  refine own_go st10 ?_
  refine own_go (S' := T10.setTop (mkF m 6 #[.val (.ref o0), .val (.ref o1), .val (.int p2)] [(.ref o1), (.ref o0)])) (fun t k => ?_) ?_
  · show Steps p.tables e below (T10.setTop (mkF m 4 #[.val (.ref o0), .val (.ref o1), .val (.int p2)] [])) t
    refine XS.aloadN X10.here hx rfl (hb hby d4_4) rfl rfl ?_
    show Steps p.tables e below (T10.setTop (mkF m 5 #[.val (.ref o0), .val (.ref o1), .val (.int p2)] [(.ref o0)])) t
    refine XS.aloadN X10.here hx rfl (hb hby d4_5) rfl rfl ?_
    exact k
  obtain ⟨T11, h11, X11, e11, W11, st11⟩ := putF X10 hx hZ hown (host := "") (Or.inl (hw _ (List.mem_of_getElem? (i := 22) rfl))) Via.refl e10 F_o0_value E_o0 (Or.inr ⟨(hw _ (List.mem_of_getElem? (i := 23) rfl)), rfl, hnm⟩) (hw _ (List.mem_of_getElem? (i := 10) rfl)) (ty := (.array .byte)) (by decide) rfl rfl (g := (mkF m 6 #[.val (.ref o0), .val (.ref o1), .val (.int p2)] [(.ref o1), (.ref o0)])) rfl rfl (hb hby d4_6)
  have f12 : Exa Z h11 o0 "java/lang/String" := E_o0.wr W11
  have f13 : Fld Z h11 o0 "java/lang/String" "coder" "B" (.int w_o0_coder) := F_o0_coder.other W11 (Or.inr (slot_ne (Or.inr (hw _ (List.mem_of_getElem? (i := 25) rfl))) (Or.inr (hw _ (List.mem_of_getElem? (i := 23) rfl))) (by decide) (t := .byte) (t' := (.array .byte)) (by decide) (by decide)))
  have f14 : Fld Z h11 o0 "java/lang/String" "value" "[B" (.ref o1) := F_o0_value.same W11
  have N15 := Fr.snoc X11 N0 g_o0
  have Z16 : n0 ≤ h11.size := Nat.le_trans Z0 (Keep.of_wr W11).1
  have K17 : Keep h0 h11 [o0] := K0.wr W11 (Or.inl (List.mem_of_getElem? (i := 0) rfl))
  refine own_go st11 ?_
  refine own_go (S' := T11.setTop (mkF m 11 #[.val (.ref o0), .val (.ref o1), .val (.int p2)] [(.int p2), (.ref o0)])) (fun t k => ?_) ?_
  · show Steps p.tables e below (T11.setTop (mkF m 9 #[.val (.ref o0), .val (.ref o1), .val (.int p2)] [])) t
    refine XS.aloadN X11.here hx rfl (hb hby d4_9) rfl rfl ?_
    show Steps p.tables e below (T11.setTop (mkF m 10 #[.val (.ref o0), .val (.ref o1), .val (.int p2)] [(.ref o0)])) t
    refine XS.iloadN X11.here hx rfl (hb hby d4_10) rfl ?_
    exact k
  obtain ⟨T18, h18, X18, e18, W18, st18⟩ := putFN X11 hx hZ hown (hw _ (List.mem_of_getElem? (i := 24) rfl)) Via.refl e11 f13 f12 (Or.inr ⟨(hw _ (List.mem_of_getElem? (i := 25) rfl)), rfl, hnm⟩) (hw _ (List.mem_of_getElem? (i := 10) rfl)) (ty := .byte) (v' := (.int (nar .byte p2))) (by decide) rfl (fits_nar_byte _) (g := (mkF m 11 #[.val (.ref o0), .val (.ref o1), .val (.int p2)] [(.int p2), (.ref o0)])) rfl rfl (hb hby d4_11)
  have f19 : Exa Z h18 o0 "java/lang/String" := f12.wr W18
  have f20 : Fld Z h18 o0 "java/lang/String" "value" "[B" (.ref o1) := f14.other W18 (Or.inr (slot_ne (Or.inr (hw _ (List.mem_of_getElem? (i := 23) rfl))) (Or.inr (hw _ (List.mem_of_getElem? (i := 25) rfl))) (by decide) (t := (.array .byte)) (t' := .byte) (by decide) (by decide)))
  have f21 : Fld Z h18 o0 "java/lang/String" "coder" "B" (.int (nar .byte p2)) := f13.same W18
  have N22 := Fr.snoc X18 N15 g_o0
  have Z23 : n0 ≤ h18.size := Nat.le_trans Z16 (Keep.of_wr W18).1
  have K24 : Keep h0 h18 [o0] := K17.wr W18 (Or.inl (List.mem_of_getElem? (i := 0) rfl))
  refine own_go st18 ?_
  obtain ⟨fs, hr, hrun, hended, hW, hsame⟩ := X18.leave (v := none) (fun _ => rfl)
  refine own_end (v := none) ?_ hrun hended ?_ hW (hsame.mono (by decide) (by decide))
  · show Steps p.tables e below (T18.setTop (mkF m 14 #[.val (.ref o0), .val (.ref o1), .val (.int p2)] [])) _
    exact X18.returnOut hx Bd.returns (hb hby d4_14) hr
  · show QstrInit Z o0 o1 p2 w_o0_value w_o0_coder h0 n0 _ T18.heap _
    rw [e18]
    exact ⟨rfl, N22, K24, f19, f20, f21⟩
theorem d1_0 : decode jdk_42_method_139_code 0 = .ok (.getstatic 38, 3) := by decide +kernel
theorem d1_3 : decode jdk_42_method_139_code 3 = .ok (.ifCond .eq 23, 3) := by decide +kernel
theorem d1_6 : decode jdk_42_method_139_code 6 = .ok (.iload_n 0, 1) := by decide +kernel
theorem d1_7 : decode jdk_42_method_139_code 7 = .ok (.invokestatic 1015, 3) := by decide +kernel
theorem pd_30 : parseMethodDescriptor "(C)Z" = some ⟨[.char], some .boolean⟩ := by decide +kernel
theorem d1_10 : decode jdk_42_method_139_code 10 = .ok (.ifCond .eq 16, 3) := by decide +kernel
theorem d1_13 : decode jdk_42_method_139_code 13 = .ok (.new 10, 3) := by decide +kernel
theorem d1_16 : decode jdk_42_method_139_code 16 = .ok (.dup, 1) := by decide +kernel
theorem d1_17 : decode jdk_42_method_139_code 17 = .ok (.iload_n 0, 1) := by decide +kernel
theorem d1_18 : decode jdk_42_method_139_code 18 = .ok (.invokestatic 1018, 3) := by decide +kernel
theorem pd_36 : parseMethodDescriptor "(C)[B" = some ⟨[.char], some (.array .byte)⟩ := by decide +kernel
theorem d1_21 : decode jdk_42_method_139_code 21 = .ok (.iconst 0, 1) := by decide +kernel
theorem d1_22 : decode jdk_42_method_139_code 22 = .ok (.invokespecial 209, 3) := by decide +kernel
theorem pd_39 : parseMethodDescriptor "([BB)V" = some ⟨[(.array .byte), .byte], none⟩ := by decide +kernel
theorem d1_25 : decode jdk_42_method_139_code 25 = .ok (.areturn, 1) := by decide +kernel
theorem ef_valueOf (m : MethodId) (x0 : Int32) : entryFrame m #[(.int x0)] 1 = mkF m 0 #[.val (.int x0)] [] := by first | (simp [entryFrame, mkF, argsToLocals, Value.category]; done) | rfl
def QvalueOf (Z : State) (p0 : Int32) (w_s_COMPACT_STRINGS : Int32) (h0 : Heap) (n0 : Nat) (v : Option Value) (h : Heap) (L : List Loc) : Prop := ∃ x0_ : Addr, v = some (.ref x0_) ∧ Fr n0 L ∧ Keep h0 h [] ∧ h0.size ≤ x0_ ∧ Exa Z h x0_ "java/lang/String"
set_option maxRecDepth 65536 in
set_option maxHeartbeats 40000000 in
theorem valueOf (l : Launch) (Z : State) (a0 : Array Value) (hw : ∀ d ∈ tables_1, d.before a0 Z = true) (ws : List Jvm.Cond) (p0 : Int32) (w_s_COMPACT_STRINGS : Int32) (h0 : Heap) (n0 : Nat) (Z0 : n0 ≤ h0.size) (S_COMPACT_STRINGS : Sta Z h0 "java/lang/String" "COMPACT_STRINGS" "Z" (.int w_s_COMPACT_STRINGS)) (hc3 : ¬ (w_s_COMPACT_STRINGS = (0 : Int32))) (hc10 : ¬ ((canEnc_r p0) = (0 : Int32))) :
    MetFree l (⟨"java/lang/String", "valueOf", "(C)Ljava/lang/String;"⟩ : MethodName) (head1 (Jvm.Cond.code (⟨"java/lang/String", "valueOf", "(C)Ljava/lang/String;"⟩ : MethodName) jdk_42_method_139_code 1 (some (.object "java/lang/String")) :: ws) ({ frames := 2, cells := 2, slots := 5, locals := 27 } : Room)) (fun a U => a = #[(.int p0)] ∧ Z.Warmed39 U.vm ∧ U.heap = h0) (fun _ _ _ _ _ => True) (fun _ U o U' => ∃ v L, o = .returned v ∧ QvalueOf Z p0 w_s_COMPACT_STRINGS h0 n0 v U'.heap L ∧ FrameEnd U o U' L ({ frames := 2, cells := 2, slots := 5, locals := 27 } : Room).cells ({ frames := 2, cells := 2, slots := 5, locals := 27 } : Room).slots) := by
  refine MetFree.of_bodySF (plainFor_of_name pn_25) hisR ?_
  intro p e s m args below meth c s₁ Bd hml0 hP hK
  obtain ⟨rfl, hZ, hh⟩ := hP
  have hx := Bd.exec
  have hby := Bd.bytes
  have hml : c.maxLocals = 1 := hml0
  have hown : s.vm.findClass "java/lang/String" = some m.cls := findClass_of_methodNamed Bd.named
  have hnm := (name_of_methodNamed Bd.named Bd.method).1
  have X0 : Stand p l e ({ frames := 2, cells := 2, slots := 5, locals := 27 } : Room) s m #[(.int p0)] below meth c s₁ [] 0 0 := Stand.of_body Bd
  have e0 : s₁.heap = h0 := by rw [← hh, Bd.state]; rfl
  have N0 := Fr.nil n0
  show own_Go p e below s (QvalueOf Z p0 w_s_COMPACT_STRINGS h0 n0) ({ frames := 2, cells := 2, slots := 5, locals := 27 } : Room).cells ({ frames := 2, cells := 2, slots := 5, locals := 27 } : Room).slots (s₁.setTop (entryFrame m #[(.int p0)] 1))
  rw [ef_valueOf m p0]
  have K0 : Keep h0 h0 [] := Keep.refl h0 []
  obtain ⟨T25, X25, e25, st25⟩ := getS2 X0 hx hZ hown (host := "") (Or.inl (hw _ (List.mem_of_getElem? (i := 4) rfl))) Via.refl e0 S_COMPACT_STRINGS (g := (mkF m 0 #[.val (.int p0)] [])) rfl (hb hby d1_0)
  refine own_go st25 ?_
  refine own_go (S' := T25.setTop (mkF m 7 #[.val (.int p0)] [(.int p0)])) (fun t k => ?_) ?_
  · show Steps p.tables e below (T25.setTop (mkF m 3 #[.val (.int p0)] [(.int w_s_COMPACT_STRINGS)])) t
    refine XS.ifNo X25.here hx rfl (hb hby d1_3) rfl ((if0 _ _).trans (feq hc3).1) ?_
    show Steps p.tables e below (T25.setTop (mkF m 6 #[.val (.int p0)] [])) t
    refine XS.iloadN X25.here hx rfl (hb hby d1_6) rfl ?_
    exact k
  obtain ⟨_, _, ⟨T26, L26, kk26, nn26⟩, -, X26, ⟨Lc26, hQ26, l26, y26, z26⟩, st26⟩ := Jvm.LawKit.callS X25 hx (y := (⟨"java/lang/StringLatin1", "canEncode", "(C)Z"⟩ : MethodName)) hown (mvT hZ (hw _ (List.mem_of_getElem? (i := 5) rfl))) (mvT hZ (hw _ (List.mem_of_getElem? (i := 6) rfl))) (mvT hZ (hw _ (List.mem_of_getElem? (i := 7) rfl))) (mvT hZ (hw _ (List.mem_of_getElem? (i := 8) rfl))) (by decide) (backOf (W := 0) (canEnc l Z a0 hw [] p0 h0 n0 Z0 ) hZ (hw _ (List.mem_of_getElem? (i := 8) rfl)) (hw _ (List.mem_of_getElem? (i := 7) rfl)) (by decide) (by decide)) (g := (mkF m 7 #[.val (.int p0)] [(.int p0)])) rfl (by rw [hml]; rfl) (argsL := [(.int p0)]) (rest := []) (lenOf pd_30 rfl) rfl (by show 2 * 0 + _ ≤ _; exact Nat.le_of_eq rfl) (hb hby d1_7) (fun _ _ => ⟨rfl, e25, (by decide : 0 + 0 ≤ _), (by decide : 0 + 0 ≤ _)⟩)
  dsimp only [Pt.U, Pt.locs, Pt.cells, Pt.slots] at X26 l26 y26 z26 st26 hQ26
  subst l26 y26 z26
  obtain ⟨rfl, N27, e26⟩ := hQ26
  have N29 := Fr.app N0 N27
  refine own_go st26 ?_
  refine own_go (S' := T26.setTop (mkF m 13 #[.val (.int p0)] [])) (fun t k => ?_) ?_
  · show Steps p.tables e below (T26.setTop (mkF m 10 #[.val (.int p0)] [(.int (canEnc_r p0))])) t
    refine XS.ifNo X26.here hx rfl (hb hby d1_10) rfl ((if0 _ _).trans (feq hc10).1) ?_
    exact k
  obtain ⟨T30, h30, X30, e30, E30, A30, D30, -, st30⟩ := newO X26 hx hZ hown (hw _ (List.mem_of_getElem? (i := 9) rfl)) (hw _ (List.mem_of_getElem? (i := 10) rfl)) (hw _ (List.mem_of_getElem? (i := 2) rfl)) e26 (g := (mkF m 13 #[.val (.int p0)] [])) rfl (hb hby d1_13) (by decide) (by decide)
  obtain ⟨b30, g30⟩ : ∃ z, z = h0.size := ⟨_, rfl⟩
  rw [← g30] at A30 D30 st30
  have g_b30 : n0 ≤ b30 := Nat.le_trans Z0 (Nat.le_of_eq g30.symm)
  have sz_b30 : h0.size ≤ b30 := Nat.le_trans K0.1 (Nat.le_of_eq g30.symm)
  have K31 : Keep h0 h30 [] := K0.ext E30
  have Z32 : n0 ≤ h30.size := Nat.le_trans Z0 E30.1
  have f33 : Sta Z h30 "java/lang/String" "COMPACT_STRINGS" "Z" (.int w_s_COMPACT_STRINGS) := Sta.ext E30 S_COMPACT_STRINGS
  have f34 : Fld Z h30 b30 "java/lang/String" "value" "[B" .null := D30 (Or.inr (hw _ (List.mem_of_getElem? (i := 23) rfl))) (ty := (.array .byte)) (by decide)
  have f35 : Fld Z h30 b30 "java/lang/String" "coder" "B" (.int (0 : Int32)) := D30 (Or.inr (hw _ (List.mem_of_getElem? (i := 25) rfl))) (ty := .byte) (by decide)
  refine own_go st30 ?_
  refine own_go (S' := T30.setTop (mkF m 18 #[.val (.int p0)] [(.int p0), (.ref b30), (.ref b30)])) (fun t k => ?_) ?_
  · show Steps p.tables e below (T30.setTop (mkF m 16 #[.val (.int p0)] [(.ref b30)])) t
    refine XS.dup X30.here hx rfl (hb hby d1_16) rfl rfl ?_
    show Steps p.tables e below (T30.setTop (mkF m 17 #[.val (.int p0)] [(.ref b30), (.ref b30)])) t
    refine XS.iloadN X30.here hx rfl (hb hby d1_17) rfl ?_
    exact k
  obtain ⟨_, _, ⟨T36, L36, kk36, nn36⟩, -, X36, ⟨Lc36, hQ36, l36, y36, z36⟩, st36⟩ := Jvm.LawKit.callS X30 hx (y := (⟨"java/lang/StringLatin1", "toBytes", "(C)[B"⟩ : MethodName)) hown (mvT hZ (hw _ (List.mem_of_getElem? (i := 11) rfl))) (mvT hZ (hw _ (List.mem_of_getElem? (i := 12) rfl))) (mvT hZ (hw _ (List.mem_of_getElem? (i := 7) rfl))) (mvT hZ (hw _ (List.mem_of_getElem? (i := 13) rfl))) (by decide) (backOf (W := 2) (toBytes l Z a0 hw [] p0 h30 n0 Z32 ) hZ (hw _ (List.mem_of_getElem? (i := 13) rfl)) (hw _ (List.mem_of_getElem? (i := 7) rfl)) (by decide) (by decide)) (g := (mkF m 18 #[.val (.int p0)] [(.int p0), (.ref b30), (.ref b30)])) rfl (by rw [hml]; rfl) (argsL := [(.int p0)]) (rest := [(.ref b30), (.ref b30)]) (lenOf pd_36 rfl) rfl (by show 2 * 0 + _ ≤ _; exact Nat.le_of_eq rfl) (hb hby d1_18) (fun _ _ => ⟨rfl, e30, (by decide : 1 + 1 ≤ _), (by decide : 4 + 1 ≤ _)⟩)
  dsimp only [Pt.U, Pt.locs, Pt.cells, Pt.slots] at X36 l36 y36 z36 st36 hQ36
  subst l36 y36 z36
  obtain ⟨b37, rfl, N38, K39, p40, p41⟩ := hQ36
  have N42 := Fr.app N29 N38
  have ne43 : b30 ≠ b37 := Nat.ne_of_lt (Nat.lt_of_lt_of_le A30.lt p40)
  have g_b37 : n0 ≤ b37 := Nat.le_trans Z32 p40
  have sz_b37 : h0.size ≤ b37 := Nat.le_trans K31.1 p40
  have f44 : Sta Z T36.heap "java/lang/String" "COMPACT_STRINGS" "Z" (.int w_s_COMPACT_STRINGS) := own_sta_keep f33 K39 all0
  have f45 : Exa Z T36.heap b30 "java/lang/String" := A30.keep K39
  have f46 : Fld Z T36.heap b30 "java/lang/String" "value" "[B" .null := f34.keep K39 nin0
  have f47 : Fld Z T36.heap b30 "java/lang/String" "coder" "B" (.int (0 : Int32)) := f35.keep K39 nin0
  have Z48 : n0 ≤ T36.heap.size := Nat.le_trans Z32 K39.1
  have K49 : Keep h0 T36.heap [] := K31.trans K39 all0
  refine own_go st36 ?_
  refine own_go (S' := T36.setTop (mkF m 22 #[.val (.int p0)] [(.int (0 : Int32)), (.ref b37), (.ref b30), (.ref b30)])) (fun t k => ?_) ?_
  · show Steps p.tables e below (T36.setTop (mkF m 21 #[.val (.int p0)] [(.ref b37), (.ref b30), (.ref b30)])) t
    refine XS.iconst X36.here hx rfl (hb hby d1_21) ?_
    exact k
  obtain ⟨_, _, ⟨T50, L50, kk50, nn50⟩, -, X50, ⟨Lc50, hQ50, l50, y50, z50⟩, st50⟩ := X36.specialBack hx (y := (⟨"java/lang/String", "<init>", "([BB)V"⟩ : MethodName)) rfl hown (mvT hZ (hw _ (List.mem_of_getElem? (i := 15) rfl))) (mvT hZ (hw _ (List.mem_of_getElem? (i := 16) rfl))) (mvT hZ (hw _ (List.mem_of_getElem? (i := 18) rfl))) (by decide) (backOf (W := 1) (strInit l Z a0 hw [] b30 b37 (0 : Int32) (.null) (0 : Int32) T36.heap n0 Z48 f45 f46 f47 g_b30) hZ (hw _ (List.mem_of_getElem? (i := 18) rfl)) (hw _ (List.mem_of_getElem? (i := 2) rfl)) (by decide) (by decide)) (g := (mkF m 22 #[.val (.int p0)] [(.int (0 : Int32)), (.ref b37), (.ref b30), (.ref b30)])) rfl (by rw [hml]; rfl) (Steps.refl _) (a := b30) (argsL := [(.ref b37), (.int (0 : Int32))]) (rest := [(.ref b30)]) (lenOf pd_39 rfl) rfl (by show 2 * 0 + _ ≤ _; exact Nat.le_of_eq rfl) (hb hby d1_22) (fun _ _ => ⟨rfl, rfl, (by decide : 2 + 0 ≤ _), (by decide : 5 + 0 ≤ _)⟩)
  dsimp only [Pt.U, Pt.locs, Pt.cells, Pt.slots] at X50 l50 y50 z50 st50 hQ50
  subst l50 y50 z50
  obtain ⟨rfl, N51, K52, p53, p54, p55⟩ := hQ50
  have N56 := Fr.app N42 N51
  have f57 : Sta Z T50.heap "java/lang/String" "COMPACT_STRINGS" "Z" (.int w_s_COMPACT_STRINGS) := own_sta_keep f44 K52 (allS (own_plain f45) all0)
  have f58 : Exa Z T50.heap b30 "java/lang/String" := f45.keep K52
  have f59 : own_Arv Z T50.heap b37 .byte (1 : Int32) [(.int (nar .byte (p0.toInt8.toInt32)))] (.int (0 : Int32)) := p41.keep K52 (ninS (Ne.symm ne43) nin0)
  have Z60 : n0 ≤ T50.heap.size := Nat.le_trans Z48 K52.1
  have K61 : Keep h0 T50.heap [] := K49.trans K52 (allS (Or.inr sz_b30) all0)
  refine own_goT st50 ?_
  obtain ⟨fs, hr, hrun, hended, hW, hsame⟩ := X50.leave (v := some (.ref b30)) (fun h => by rw [Bd.returns] at h; cases h)
  refine own_end (v := some (.ref b30)) ?_ hrun hended ?_ hW (hsame.mono (by decide) (by decide))
  · show Steps p.tables e below (T50.setTop (mkF m 25 #[.val (.int p0)] [(.ref b30)])) _
    jvm_step X50.here [X50.here.top, hx, (hb hby d1_25), X50.method', Bd.returns, Value.isRef, FieldType.isReference]
    first | (intro acts; rw [hr _ acts rfl rfl rfl]) | rw [hr _ _ rfl rfl rfl]
    exact Steps.refl _
  · show QvalueOf Z p0 w_s_COMPACT_STRINGS h0 n0 _ T50.heap _
    exact ⟨b30, rfl, N56, K61, sz_b30, p53⟩
theorem d8_0 : decode jdk_22_method_1_code 0 = .ok (.aload_n 0, 1) := by decide +kernel
theorem d8_1 : decode jdk_22_method_1_code 1 = .ok (.invokespecial 1, 3) := by decide +kernel
theorem d8_4 : decode jdk_22_method_1_code 4 = .ok (.return_, 1) := by decide +kernel
theorem pn_44 : plainName "java/util/AbstractCollection" = true := by first | (simp [plainName, overriddenIn]; done) | decide +kernel
theorem ef_acInit (m : MethodId) (x0 : Addr) : entryFrame m #[(.ref x0)] 1 = mkF m 0 #[.val (.ref x0)] [] := by first | (simp [entryFrame, mkF, argsToLocals, Value.category]; done) | rfl
def QacInit (Z : State) (o0 : Addr) (h0 : Heap) (n0 : Nat) (v : Option Value) (h : Heap) (L : List Loc) : Prop := v = none ∧ Fr n0 L ∧ h = h0
set_option maxRecDepth 65536 in
set_option maxHeartbeats 40000000 in
theorem acInit (l : Launch) (Z : State) (a0 : Array Value) (hw : ∀ d ∈ tables_1, d.before a0 Z = true) (ws : List Jvm.Cond) (o0 : Addr) (h0 : Heap) (n0 : Nat) (Z0 : n0 ≤ h0.size) :
    MetFree l (⟨"java/util/AbstractCollection", "<init>", "()V"⟩ : MethodName) (head1 (Jvm.Cond.code (⟨"java/util/AbstractCollection", "<init>", "()V"⟩ : MethodName) jdk_22_method_1_code 1 none :: ws) ({ frames := 1, cells := 0, slots := 0, locals := 12 } : Room)) (fun a U => a = #[(.ref o0)] ∧ Z.Warmed39 U.vm ∧ U.heap = h0) (fun _ _ _ _ _ => True) (fun _ U o U' => ∃ v L, o = .returned v ∧ QacInit Z o0 h0 n0 v U'.heap L ∧ FrameEnd U o U' L ({ frames := 1, cells := 0, slots := 0, locals := 12 } : Room).cells ({ frames := 1, cells := 0, slots := 0, locals := 12 } : Room).slots) := by
  refine MetFree.of_bodySF (plainFor_of_name pn_44) hisR ?_
  intro p e s m args below meth c s₁ Bd hml0 hP hK
  obtain ⟨rfl, hZ, hh⟩ := hP
  have hx := Bd.exec
  have hby := Bd.bytes
  have hml : c.maxLocals = 1 := hml0
  have hown : s.vm.findClass "java/util/AbstractCollection" = some m.cls := findClass_of_methodNamed Bd.named
  have hnm := (name_of_methodNamed Bd.named Bd.method).1
  have X0 : Stand p l e ({ frames := 1, cells := 0, slots := 0, locals := 12 } : Room) s m #[(.ref o0)] below meth c s₁ [] 0 0 := Stand.of_body Bd
  have e0 : s₁.heap = h0 := by rw [← hh, Bd.state]; rfl
  have N0 := Fr.nil n0
  show own_Go p e below s (QacInit Z o0 h0 n0) ({ frames := 1, cells := 0, slots := 0, locals := 12 } : Room).cells ({ frames := 1, cells := 0, slots := 0, locals := 12 } : Room).slots (s₁.setTop (entryFrame m #[(.ref o0)] 1))
  rw [ef_acInit m o0]
  have K0 : Keep h0 h0 [] := Keep.refl h0 []
  refine own_go (S' := s₁.setTop (mkF m 1 #[.val (.ref o0)] [(.ref o0)])) (fun t k => ?_) ?_
  · show Steps p.tables e below (s₁.setTop (mkF m 0 #[.val (.ref o0)] [])) t
    refine XS.aloadN X0.here hx rfl (hb hby d8_0) rfl rfl ?_
    exact k
  obtain ⟨T62, X62, e62, st62⟩ := initO X0 hx hZ hown (hw _ (List.mem_of_getElem? (i := 44) rfl)) (hw _ (List.mem_of_getElem? (i := 20) rfl)) (hw _ (List.mem_of_getElem? (i := 21) rfl)) e0 (g := (mkF m 1 #[.val (.ref o0)] [(.ref o0)])) rfl (by rw [hml]; rfl) rfl (hb hby d8_1) (by decide) (W := 0) (by show 2 * 0 + _ ≤ _; exact Nat.le_of_eq rfl) (by decide)
  refine own_go st62 ?_
  obtain ⟨fs, hr, hrun, hended, hW, hsame⟩ := X62.leave (v := none) (fun _ => rfl)
  refine own_end (v := none) ?_ hrun hended ?_ hW (hsame.mono (by decide) (by decide))
  · show Steps p.tables e below (T62.setTop (mkF m 4 #[.val (.ref o0)] [])) _
    exact X62.returnOut hx Bd.returns (hb hby d8_4) hr
  · show QacInit Z o0 h0 n0 _ T62.heap _
    rw [e62]
    exact ⟨rfl, N0, rfl⟩
theorem d7_0 : decode jdk_39_method_1_code 0 = .ok (.aload_n 0, 1) := by decide +kernel
theorem d7_1 : decode jdk_39_method_1_code 1 = .ok (.invokespecial 1, 3) := by decide +kernel
theorem pd_47 : parseMethodDescriptor "()V" = some ⟨[], none⟩ := by decide +kernel
theorem d7_4 : decode jdk_39_method_1_code 4 = .ok (.aload_n 0, 1) := by decide +kernel
theorem d7_5 : decode jdk_39_method_1_code 5 = .ok (.iconst 0, 1) := by decide +kernel
theorem d7_6 : decode jdk_39_method_1_code 6 = .ok (.putfield 7, 3) := by decide +kernel
theorem d7_9 : decode jdk_39_method_1_code 9 = .ok (.return_, 1) := by decide +kernel
theorem pn_52 : plainName "java/util/AbstractList" = true := by first | (simp [plainName, overriddenIn]; done) | decide +kernel
theorem ef_alInit (m : MethodId) (x0 : Addr) : entryFrame m #[(.ref x0)] 1 = mkF m 0 #[.val (.ref x0)] [] := by first | (simp [entryFrame, mkF, argsToLocals, Value.category]; done) | rfl
def QalInit (Z : State) (o0 : Addr) (w_o0_modCount : Int32) (w_o0_elementData : Value) (w_o0_size : Int32) (h0 : Heap) (n0 : Nat) (v : Option Value) (h : Heap) (L : List Loc) : Prop := v = none ∧ Fr n0 L ∧ Keep h0 h [o0] ∧ Exa Z h o0 "java/util/ArrayList" ∧ Fld Z h o0 "java/util/ArrayList" "elementData" "[Ljava/lang/Object;" w_o0_elementData ∧ Fld Z h o0 "java/util/ArrayList" "size" "I" (.int w_o0_size) ∧ Fld Z h o0 "java/util/AbstractList" "modCount" "I" (.int (0 : Int32))
set_option maxRecDepth 65536 in
set_option maxHeartbeats 40000000 in
theorem alInit (l : Launch) (Z : State) (a0 : Array Value) (hw : ∀ d ∈ tables_1, d.before a0 Z = true) (ws : List Jvm.Cond) (o0 : Addr) (w_o0_modCount : Int32) (w_o0_elementData : Value) (w_o0_size : Int32) (h0 : Heap) (n0 : Nat) (Z0 : n0 ≤ h0.size) (E_o0 : Exa Z h0 o0 "java/util/ArrayList") (F_o0_modCount : Fld Z h0 o0 "java/util/AbstractList" "modCount" "I" (.int w_o0_modCount)) (F_o0_elementData : Fld Z h0 o0 "java/util/ArrayList" "elementData" "[Ljava/lang/Object;" w_o0_elementData) (F_o0_size : Fld Z h0 o0 "java/util/ArrayList" "size" "I" (.int w_o0_size)) (g_o0 : n0 ≤ o0) :
    MetFree l (⟨"java/util/AbstractList", "<init>", "()V"⟩ : MethodName) (head1 (Jvm.Cond.code (⟨"java/util/AbstractList", "<init>", "()V"⟩ : MethodName) jdk_39_method_1_code 1 none :: ws) ({ frames := 2, cells := 0, slots := 0, locals := 24 } : Room)) (fun a U => a = #[(.ref o0)] ∧ Z.Warmed39 U.vm ∧ U.heap = h0) (fun _ _ _ _ _ => True) (fun _ U o U' => ∃ v L, o = .returned v ∧ QalInit Z o0 w_o0_modCount w_o0_elementData w_o0_size h0 n0 v U'.heap L ∧ FrameEnd U o U' L ({ frames := 2, cells := 0, slots := 0, locals := 24 } : Room).cells ({ frames := 2, cells := 0, slots := 0, locals := 24 } : Room).slots) := by
  refine MetFree.of_bodySF (plainFor_of_name pn_52) hisR ?_
  intro p e s m args below meth c s₁ Bd hml0 hP hK
  obtain ⟨rfl, hZ, hh⟩ := hP
  have hx := Bd.exec
  have hby := Bd.bytes
  have hml : c.maxLocals = 1 := hml0
  have hown : s.vm.findClass "java/util/AbstractList" = some m.cls := findClass_of_methodNamed Bd.named
  have hnm := (name_of_methodNamed Bd.named Bd.method).1
  have X0 : Stand p l e ({ frames := 2, cells := 0, slots := 0, locals := 24 } : Room) s m #[(.ref o0)] below meth c s₁ [] 0 0 := Stand.of_body Bd
  have e0 : s₁.heap = h0 := by rw [← hh, Bd.state]; rfl
  have N0 := Fr.nil n0
  show own_Go p e below s (QalInit Z o0 w_o0_modCount w_o0_elementData w_o0_size h0 n0) ({ frames := 2, cells := 0, slots := 0, locals := 24 } : Room).cells ({ frames := 2, cells := 0, slots := 0, locals := 24 } : Room).slots (s₁.setTop (entryFrame m #[(.ref o0)] 1))
  rw [ef_alInit m o0]
  have K0 : Keep h0 h0 [o0] := Keep.refl h0 [o0]
  refine own_go (S' := s₁.setTop (mkF m 1 #[.val (.ref o0)] [(.ref o0)])) (fun t k => ?_) ?_
  · show Steps p.tables e below (s₁.setTop (mkF m 0 #[.val (.ref o0)] [])) t
    refine XS.aloadN X0.here hx rfl (hb hby d7_0) rfl rfl ?_
    exact k
  obtain ⟨_, _, ⟨T63, L63, kk63, nn63⟩, -, X63, ⟨Lc63, hQ63, l63, y63, z63⟩, st63⟩ := X0.specialBack hx (y := (⟨"java/util/AbstractCollection", "<init>", "()V"⟩ : MethodName)) rfl hown (mvT hZ (hw _ (List.mem_of_getElem? (i := 38) rfl))) (mvT hZ (hw _ (List.mem_of_getElem? (i := 39) rfl))) (mvT hZ (hw _ (List.mem_of_getElem? (i := 43) rfl))) (by decide) (backOf (W := 0) (acInit l Z a0 hw [] o0 h0 n0 Z0 ) hZ (hw _ (List.mem_of_getElem? (i := 43) rfl)) (hw _ (List.mem_of_getElem? (i := 42) rfl)) (by decide) (by decide)) (g := (mkF m 1 #[.val (.ref o0)] [(.ref o0)])) rfl (by rw [hml]; rfl) (Steps.refl _) (a := o0) (argsL := []) (rest := []) (lenOf pd_47 rfl) rfl (by show 2 * 0 + _ ≤ _; exact Nat.le_of_eq rfl) (hb hby d7_1) (fun _ _ => ⟨rfl, e0, (by decide : 0 + 0 ≤ _), (by decide : 0 + 0 ≤ _)⟩)
  dsimp only [Pt.U, Pt.locs, Pt.cells, Pt.slots] at X63 l63 y63 z63 st63 hQ63
  subst l63 y63 z63
  obtain ⟨rfl, N64, e63⟩ := hQ63
  have N66 := Fr.app N0 N64
  refine own_goT st63 ?_
  refine own_go (S' := T63.setTop (mkF m 6 #[.val (.ref o0)] [(.int (0 : Int32)), (.ref o0)])) (fun t k => ?_) ?_
  · show Steps p.tables e below (T63.setTop (mkF m 4 #[.val (.ref o0)] [])) t
    refine XS.aloadN X63.here hx rfl (hb hby d7_4) rfl rfl ?_
    show Steps p.tables e below (T63.setTop (mkF m 5 #[.val (.ref o0)] [(.ref o0)])) t
    refine XS.iconst X63.here hx rfl (hb hby d7_5) ?_
    exact k
  obtain ⟨T67, h67, X67, e67, W67, st67⟩ := putF X63 hx hZ hown (host := "") (Or.inl (hw _ (List.mem_of_getElem? (i := 45) rfl))) Via.refl e63 F_o0_modCount E_o0 (Or.inl (hw _ (List.mem_of_getElem? (i := 46) rfl))) (hw _ (List.mem_of_getElem? (i := 27) rfl)) (ty := .int) (by decide) rfl rfl (g := (mkF m 6 #[.val (.ref o0)] [(.int (0 : Int32)), (.ref o0)])) rfl rfl (hb hby d7_6)
  have f68 : Exa Z h67 o0 "java/util/ArrayList" := E_o0.wr W67
  have f69 : Fld Z h67 o0 "java/util/ArrayList" "elementData" "[Ljava/lang/Object;" w_o0_elementData := F_o0_elementData.other W67 (Or.inr (slot_ne (Or.inl (hw _ (List.mem_of_getElem? (i := 49) rfl))) (Or.inl (hw _ (List.mem_of_getElem? (i := 46) rfl))) (by decide) (t := (.array (.object "java/lang/Object"))) (t' := .int) (by decide) (by decide)))
  have f70 : Fld Z h67 o0 "java/util/ArrayList" "size" "I" (.int w_o0_size) := F_o0_size.other W67 (Or.inr (slot_ne (Or.inl (hw _ (List.mem_of_getElem? (i := 58) rfl))) (Or.inl (hw _ (List.mem_of_getElem? (i := 46) rfl))) (by decide) (t := .int) (t' := .int) (by decide) (by decide)))
  have f71 : Fld Z h67 o0 "java/util/AbstractList" "modCount" "I" (.int (0 : Int32)) := F_o0_modCount.same W67
  have N72 := Fr.snoc X67 N66 g_o0
  have Z73 : n0 ≤ h67.size := Nat.le_trans Z0 (Keep.of_wr W67).1
  have K74 : Keep h0 h67 [o0] := K0.wr W67 (Or.inl (List.mem_of_getElem? (i := 0) rfl))
  refine own_go st67 ?_
  obtain ⟨fs, hr, hrun, hended, hW, hsame⟩ := X67.leave (v := none) (fun _ => rfl)
  refine own_end (v := none) ?_ hrun hended ?_ hW (hsame.mono (by decide) (by decide))
  · show Steps p.tables e below (T67.setTop (mkF m 9 #[.val (.ref o0)] [])) _
    exact X67.returnOut hx Bd.returns (hb hby d7_9) hr
  · show QalInit Z o0 w_o0_modCount w_o0_elementData w_o0_size h0 n0 _ T67.heap _
    rw [e67]
    exact ⟨rfl, N72, K74, f68, f69, f70, f71⟩
theorem d6_0 : decode jdk_38_method_2_code 0 = .ok (.aload_n 0, 1) := by decide +kernel
theorem d6_1 : decode jdk_38_method_2_code 1 = .ok (.invokespecial 1, 3) := by decide +kernel
theorem d6_4 : decode jdk_38_method_2_code 4 = .ok (.aload_n 0, 1) := by decide +kernel
theorem d6_5 : decode jdk_38_method_2_code 5 = .ok (.getstatic 39, 3) := by decide +kernel
theorem d6_8 : decode jdk_38_method_2_code 8 = .ok (.putfield 9, 3) := by decide +kernel
theorem d6_11 : decode jdk_38_method_2_code 11 = .ok (.return_, 1) := by decide +kernel
theorem pn_59 : plainName "java/util/ArrayList" = true := by first | (simp [plainName, overriddenIn]; done) | decide +kernel
theorem ef_arInit (m : MethodId) (x0 : Addr) : entryFrame m #[(.ref x0)] 1 = mkF m 0 #[.val (.ref x0)] [] := by first | (simp [entryFrame, mkF, argsToLocals, Value.category]; done) | rfl
def QarInit (Z : State) (o0 : Addr) (w_o0_modCount : Int32) (w_o0_elementData : Value) (w_o0_size : Int32) (w_s_DEFAULTCAPACITY_EMPTY_ELEMENTDATA : Addr) (h0 : Heap) (n0 : Nat) (v : Option Value) (h : Heap) (L : List Loc) : Prop := v = none ∧ Fr n0 L ∧ Keep h0 h [o0] ∧ Exa Z h o0 "java/util/ArrayList" ∧ Fld Z h o0 "java/util/ArrayList" "size" "I" (.int w_o0_size) ∧ Fld Z h o0 "java/util/AbstractList" "modCount" "I" (.int (0 : Int32)) ∧ Fld Z h o0 "java/util/ArrayList" "elementData" "[Ljava/lang/Object;" (.ref w_s_DEFAULTCAPACITY_EMPTY_ELEMENTDATA)
set_option maxRecDepth 65536 in
set_option maxHeartbeats 40000000 in
theorem arInit (l : Launch) (Z : State) (a0 : Array Value) (hw : ∀ d ∈ tables_1, d.before a0 Z = true) (ws : List Jvm.Cond) (o0 : Addr) (w_o0_modCount : Int32) (w_o0_elementData : Value) (w_o0_size : Int32) (w_s_DEFAULTCAPACITY_EMPTY_ELEMENTDATA : Addr) (h0 : Heap) (n0 : Nat) (Z0 : n0 ≤ h0.size) (E_o0 : Exa Z h0 o0 "java/util/ArrayList") (F_o0_modCount : Fld Z h0 o0 "java/util/AbstractList" "modCount" "I" (.int w_o0_modCount)) (F_o0_elementData : Fld Z h0 o0 "java/util/ArrayList" "elementData" "[Ljava/lang/Object;" w_o0_elementData) (F_o0_size : Fld Z h0 o0 "java/util/ArrayList" "size" "I" (.int w_o0_size)) (g_o0 : n0 ≤ o0) (S_DEFAULTCAPACITY_EMPTY_ELEMENTDATA : Sta Z h0 "java/util/ArrayList" "DEFAULTCAPACITY_EMPTY_ELEMENTDATA" "[Ljava/lang/Object;" (.ref w_s_DEFAULTCAPACITY_EMPTY_ELEMENTDATA)) :
    MetFree l (⟨"java/util/ArrayList", "<init>", "()V"⟩ : MethodName) (head1 (Jvm.Cond.code (⟨"java/util/ArrayList", "<init>", "()V"⟩ : MethodName) jdk_38_method_2_code 1 none :: ws) ({ frames := 3, cells := 0, slots := 0, locals := 36 } : Room)) (fun a U => a = #[(.ref o0)] ∧ Z.Warmed39 U.vm ∧ U.heap = h0) (fun _ _ _ _ _ => True) (fun _ U o U' => ∃ v L, o = .returned v ∧ QarInit Z o0 w_o0_modCount w_o0_elementData w_o0_size w_s_DEFAULTCAPACITY_EMPTY_ELEMENTDATA h0 n0 v U'.heap L ∧ FrameEnd U o U' L ({ frames := 3, cells := 0, slots := 0, locals := 36 } : Room).cells ({ frames := 3, cells := 0, slots := 0, locals := 36 } : Room).slots) := by
  refine MetFree.of_bodySF (plainFor_of_name pn_59) hisR ?_
  intro p e s m args below meth c s₁ Bd hml0 hP hK
  obtain ⟨rfl, hZ, hh⟩ := hP
  have hx := Bd.exec
  have hby := Bd.bytes
  have hml : c.maxLocals = 1 := hml0
  have hown : s.vm.findClass "java/util/ArrayList" = some m.cls := findClass_of_methodNamed Bd.named
  have hnm := (name_of_methodNamed Bd.named Bd.method).1
  have X0 : Stand p l e ({ frames := 3, cells := 0, slots := 0, locals := 36 } : Room) s m #[(.ref o0)] below meth c s₁ [] 0 0 := Stand.of_body Bd
  have e0 : s₁.heap = h0 := by rw [← hh, Bd.state]; rfl
  have N0 := Fr.nil n0
  show own_Go p e below s (QarInit Z o0 w_o0_modCount w_o0_elementData w_o0_size w_s_DEFAULTCAPACITY_EMPTY_ELEMENTDATA h0 n0) ({ frames := 3, cells := 0, slots := 0, locals := 36 } : Room).cells ({ frames := 3, cells := 0, slots := 0, locals := 36 } : Room).slots (s₁.setTop (entryFrame m #[(.ref o0)] 1))
  rw [ef_arInit m o0]
  have K0 : Keep h0 h0 [o0] := Keep.refl h0 [o0]
  refine own_go (S' := s₁.setTop (mkF m 1 #[.val (.ref o0)] [(.ref o0)])) (fun t k => ?_) ?_
  · show Steps p.tables e below (s₁.setTop (mkF m 0 #[.val (.ref o0)] [])) t
    refine XS.aloadN X0.here hx rfl (hb hby d6_0) rfl rfl ?_
    exact k
  obtain ⟨_, _, ⟨T75, L75, kk75, nn75⟩, -, X75, ⟨Lc75, hQ75, l75, y75, z75⟩, st75⟩ := X0.specialBack hx (y := (⟨"java/util/AbstractList", "<init>", "()V"⟩ : MethodName)) rfl hown (mvT hZ (hw _ (List.mem_of_getElem? (i := 32) rfl))) (mvT hZ (hw _ (List.mem_of_getElem? (i := 33) rfl))) (mvT hZ (hw _ (List.mem_of_getElem? (i := 37) rfl))) (by decide) (backOf (W := 0) (alInit l Z a0 hw [] o0 w_o0_modCount w_o0_elementData w_o0_size h0 n0 Z0 E_o0 F_o0_modCount F_o0_elementData F_o0_size g_o0) hZ (hw _ (List.mem_of_getElem? (i := 37) rfl)) (hw _ (List.mem_of_getElem? (i := 36) rfl)) (by decide) (by decide)) (g := (mkF m 1 #[.val (.ref o0)] [(.ref o0)])) rfl (by rw [hml]; rfl) (Steps.refl _) (a := o0) (argsL := []) (rest := []) (lenOf pd_47 rfl) rfl (by show 2 * 0 + _ ≤ _; exact Nat.le_of_eq rfl) (hb hby d6_1) (fun _ _ => ⟨rfl, e0, (by decide : 0 + 0 ≤ _), (by decide : 0 + 0 ≤ _)⟩)
  dsimp only [Pt.U, Pt.locs, Pt.cells, Pt.slots] at X75 l75 y75 z75 st75 hQ75
  subst l75 y75 z75
  obtain ⟨rfl, N76, K77, p78, p79, p80, p81⟩ := hQ75
  have N82 := Fr.app N0 N76
  have f83 : Exa Z T75.heap o0 "java/util/ArrayList" := E_o0.keep K77
  have f84 : Sta Z T75.heap "java/util/ArrayList" "DEFAULTCAPACITY_EMPTY_ELEMENTDATA" "[Ljava/lang/Object;" (.ref w_s_DEFAULTCAPACITY_EMPTY_ELEMENTDATA) := own_sta_keep S_DEFAULTCAPACITY_EMPTY_ELEMENTDATA K77 (allS (own_plain E_o0) all0)
  have Z85 : n0 ≤ T75.heap.size := Nat.le_trans Z0 K77.1
  have K86 : Keep h0 T75.heap [o0] := K0.trans K77 (allS (Or.inl (List.mem_of_getElem? (i := 0) rfl)) all0)
  refine own_goT st75 ?_
  refine own_go (S' := T75.setTop (mkF m 5 #[.val (.ref o0)] [(.ref o0)])) (fun t k => ?_) ?_
  · show Steps p.tables e below (T75.setTop (mkF m 4 #[.val (.ref o0)] [])) t
    refine XS.aloadN X75.here hx rfl (hb hby d6_4) rfl rfl ?_
    exact k
  obtain ⟨T87, X87, e87, st87⟩ := getS2 X75 hx hZ hown (host := "") (Or.inl (hw _ (List.mem_of_getElem? (i := 47) rfl))) Via.refl rfl f84 (g := (mkF m 5 #[.val (.ref o0)] [(.ref o0)])) rfl (hb hby d6_5)
  refine own_go st87 ?_
  obtain ⟨T88, h88, X88, e88, W88, st88⟩ := putF X87 hx hZ hown (host := "") (Or.inl (hw _ (List.mem_of_getElem? (i := 48) rfl))) Via.refl e87 p79 p78 (Or.inl (hw _ (List.mem_of_getElem? (i := 49) rfl))) (hw _ (List.mem_of_getElem? (i := 27) rfl)) (ty := (.array (.object "java/lang/Object"))) (by decide) rfl rfl (g := (mkF m 8 #[.val (.ref o0)] [(.ref w_s_DEFAULTCAPACITY_EMPTY_ELEMENTDATA), (.ref o0)])) rfl rfl (hb hby d6_8)
  have f89 : Exa Z h88 o0 "java/util/ArrayList" := p78.wr W88
  have f90 : Sta Z h88 "java/util/ArrayList" "DEFAULTCAPACITY_EMPTY_ELEMENTDATA" "[Ljava/lang/Object;" (.ref w_s_DEFAULTCAPACITY_EMPTY_ELEMENTDATA) := f84.wr W88
  have f91 : Fld Z h88 o0 "java/util/ArrayList" "size" "I" (.int w_o0_size) := p80.other W88 (Or.inr (slot_ne (Or.inl (hw _ (List.mem_of_getElem? (i := 58) rfl))) (Or.inl (hw _ (List.mem_of_getElem? (i := 49) rfl))) (by decide) (t := .int) (t' := (.array (.object "java/lang/Object"))) (by decide) (by decide)))
  have f92 : Fld Z h88 o0 "java/util/AbstractList" "modCount" "I" (.int (0 : Int32)) := p81.other W88 (Or.inr (slot_ne (Or.inl (hw _ (List.mem_of_getElem? (i := 46) rfl))) (Or.inl (hw _ (List.mem_of_getElem? (i := 49) rfl))) (by decide) (t := .int) (t' := (.array (.object "java/lang/Object"))) (by decide) (by decide)))
  have f93 : Fld Z h88 o0 "java/util/ArrayList" "elementData" "[Ljava/lang/Object;" (.ref w_s_DEFAULTCAPACITY_EMPTY_ELEMENTDATA) := p79.same W88
  have N94 := Fr.snoc X88 N82 g_o0
  have Z95 : n0 ≤ h88.size := Nat.le_trans Z85 (Keep.of_wr W88).1
  have K96 : Keep h0 h88 [o0] := K86.wr W88 (Or.inl (List.mem_of_getElem? (i := 0) rfl))
  refine own_go st88 ?_
  obtain ⟨fs, hr, hrun, hended, hW, hsame⟩ := X88.leave (v := none) (fun _ => rfl)
  refine own_end (v := none) ?_ hrun hended ?_ hW (hsame.mono (by decide) (by decide))
  · show Steps p.tables e below (T88.setTop (mkF m 11 #[.val (.ref o0)] [])) _
    exact X88.returnOut hx Bd.returns (hb hby d6_11) hr
  · show QarInit Z o0 w_o0_modCount w_o0_elementData w_o0_size w_s_DEFAULTCAPACITY_EMPTY_ELEMENTDATA h0 n0 _ T88.heap _
    rw [e88]
    exact ⟨rfl, N94, K96, f89, f91, f92, f93⟩
theorem d13_0 : decode jdk_29_method_65_code 0 = .ok (.iload_n 0, 1) := by decide +kernel
theorem d13_1 : decode jdk_29_method_65_code 1 = .ok (.iload_n 1, 1) := by decide +kernel
theorem d13_2 : decode jdk_29_method_65_code 2 = .ok (.if_icmp .lt 7, 3) := by decide +kernel
theorem d13_9 : decode jdk_29_method_65_code 9 = .ok (.iload_n 1, 1) := by decide +kernel
theorem d13_10 : decode jdk_29_method_65_code 10 = .ok (.ireturn, 1) := by decide +kernel
theorem d13_5 : decode jdk_29_method_65_code 5 = .ok (.iload_n 0, 1) := by decide +kernel
theorem d13_6 : decode jdk_29_method_65_code 6 = .ok (.goto 4, 3) := by decide +kernel
theorem ef_maxI (m : MethodId) (x0 : Int32) (x1 : Int32) : entryFrame m #[(.int x0), (.int x1)] 2 = mkF m 0 #[.val (.int x0), .val (.int x1)] [] := by first | (simp [entryFrame, mkF, argsToLocals, Value.category]; done) | rfl
def maxI_r (p0 : Int32) (p1 : Int32) : Int32 := (if p0 < p1 then p1 else p0)
def QmaxI (Z : State) (p0 : Int32) (p1 : Int32) (h0 : Heap) (n0 : Nat) (v : Option Value) (h : Heap) (L : List Loc) : Prop := v = some (.int (maxI_r p0 p1)) ∧ Fr n0 L ∧ h = h0
set_option maxRecDepth 65536 in
set_option maxHeartbeats 40000000 in
theorem maxI (l : Launch) (Z : State) (a0 : Array Value) (hw : ∀ d ∈ tables_1, d.before a0 Z = true) (ws : List Jvm.Cond) (p0 : Int32) (p1 : Int32) (h0 : Heap) (n0 : Nat) (Z0 : n0 ≤ h0.size) :
    MetFree l (⟨"java/lang/Math", "max", "(II)I"⟩ : MethodName) (head1 (Jvm.Cond.code (⟨"java/lang/Math", "max", "(II)I"⟩ : MethodName) jdk_29_method_65_code 2 (some .int) :: ws) ({ frames := 0, cells := 0, slots := 0, locals := 0 } : Room)) (fun a U => a = #[(.int p0), (.int p1)] ∧ Z.Warmed39 U.vm ∧ U.heap = h0) (fun _ _ _ _ _ => True) (fun _ U o U' => ∃ v L, o = .returned v ∧ QmaxI Z p0 p1 h0 n0 v U'.heap L ∧ FrameEnd U o U' L ({ frames := 0, cells := 0, slots := 0, locals := 0 } : Room).cells ({ frames := 0, cells := 0, slots := 0, locals := 0 } : Room).slots) := by
  refine MetFree.of_bodySF (Jvm.Free.JP.mathPlain rfl (by decide +kernel)) hisR ?_
  intro p e s m args below meth c s₁ Bd hml0 hP hK
  obtain ⟨rfl, hZ, hh⟩ := hP
  have hx := Bd.exec
  have hby := Bd.bytes
  have hml : c.maxLocals = 2 := hml0
  have hown : s.vm.findClass "java/lang/Math" = some m.cls := findClass_of_methodNamed Bd.named
  have hnm := (name_of_methodNamed Bd.named Bd.method).1
  have X0 : Stand p l e ({ frames := 0, cells := 0, slots := 0, locals := 0 } : Room) s m #[(.int p0), (.int p1)] below meth c s₁ [] 0 0 := Stand.of_body Bd
  have e0 : s₁.heap = h0 := by rw [← hh, Bd.state]; rfl
  have N0 := Fr.nil n0
  show own_Go p e below s (QmaxI Z p0 p1 h0 n0) ({ frames := 0, cells := 0, slots := 0, locals := 0 } : Room).cells ({ frames := 0, cells := 0, slots := 0, locals := 0 } : Room).slots (s₁.setTop (entryFrame m #[(.int p0), (.int p1)] 2))
  rw [ef_maxI m p0 p1]
  have K0 : Keep h0 h0 [] := Keep.refl h0 []
  refine own_go (S' := s₁.setTop (mkF m 2 #[.val (.int p0), .val (.int p1)] [(.int p1), (.int p0)])) (fun t k => ?_) ?_
  · show Steps p.tables e below (s₁.setTop (mkF m 0 #[.val (.int p0), .val (.int p1)] [])) t
    refine XS.iloadN X0.here hx rfl (hb hby d13_0) rfl ?_
    show Steps p.tables e below (s₁.setTop (mkF m 1 #[.val (.int p0), .val (.int p1)] [(.int p0)])) t
    refine XS.iloadN X0.here hx rfl (hb hby d13_1) rfl ?_
    exact k
  by_cases hc2 : p0 < p1
  · skip
    refine own_go (S' := s₁.setTop (mkF m 10 #[.val (.int p0), .val (.int p1)] [(.int p1)])) (fun t k => ?_) ?_
    · show Steps p.tables e below (s₁.setTop (mkF m 2 #[.val (.int p0), .val (.int p1)] [(.int p1), (.int p0)])) t
      refine XS.icmpYes X0.here hx rfl (pc0 := 2) (pc' := 9) rfl (hb hby d13_2) rfl (tlt hc2).1 (by decide) (by decide) ?_
      show Steps p.tables e below (s₁.setTop (mkF m 9 #[.val (.int p0), .val (.int p1)] [])) t
      refine XS.iloadN X0.here hx rfl (hb hby d13_9) rfl ?_
      exact k
    obtain ⟨fs, hr, hrun, hended, hW, hsame⟩ := X0.leave (v := some (.int p1)) (fun h => by rw [Bd.returns] at h; cases h)
    refine own_end (v := some (.int p1)) ?_ hrun hended ?_ hW (hsame.mono (by decide) (by decide))
    · show Steps p.tables e below (s₁.setTop (mkF m 10 #[.val (.int p0), .val (.int p1)] [(.int p1)])) _
      exact retI X0 hx Bd.returns (hb hby d13_10) hr
    · show QmaxI Z p0 p1 h0 n0 _ s₁.heap _
      rw [e0]
      exact ⟨(by simp only [maxI_r, if_pos hc2]), N0, rfl⟩
  · skip
    refine own_go (S' := s₁.setTop (mkF m 10 #[.val (.int p0), .val (.int p1)] [(.int p0)])) (fun t k => ?_) ?_
    · show Steps p.tables e below (s₁.setTop (mkF m 2 #[.val (.int p0), .val (.int p1)] [(.int p1), (.int p0)])) t
      refine XS.icmpNo X0.here hx rfl (hb hby d13_2) rfl (flt hc2).1 ?_
      show Steps p.tables e below (s₁.setTop (mkF m 5 #[.val (.int p0), .val (.int p1)] [])) t
      refine XS.iloadN X0.here hx rfl (hb hby d13_5) rfl ?_
      show Steps p.tables e below (s₁.setTop (mkF m 6 #[.val (.int p0), .val (.int p1)] [(.int p0)])) t
      refine XS.goto X0.here hx rfl (pc0 := 6) (pc' := 10) rfl (hb hby d13_6) (by decide) (by decide) ?_
      exact k
    obtain ⟨fs, hr, hrun, hended, hW, hsame⟩ := X0.leave (v := some (.int p0)) (fun h => by rw [Bd.returns] at h; cases h)
    refine own_end (v := some (.int p0)) ?_ hrun hended ?_ hW (hsame.mono (by decide) (by decide))
    · show Steps p.tables e below (s₁.setTop (mkF m 10 #[.val (.int p0), .val (.int p1)] [(.int p0)])) _
      exact retI X0 hx Bd.returns (hb hby d13_10) hr
    · show QmaxI Z p0 p1 h0 n0 _ s₁.heap _
      rw [e0]
      exact ⟨(by simp only [maxI_r, if_neg hc2]), N0, rfl⟩
theorem d12_0 : decode jdk_38_method_6_code 0 = .ok (.aload_n 0, 1) := by decide +kernel
theorem d12_1 : decode jdk_38_method_6_code 1 = .ok (.getfield 9, 3) := by decide +kernel
theorem d12_4 : decode jdk_38_method_6_code 4 = .ok (.arraylength, 1) := by decide +kernel
theorem d12_5 : decode jdk_38_method_6_code 5 = .ok (.istore_n 2, 1) := by decide +kernel
theorem d12_6 : decode jdk_38_method_6_code 6 = .ok (.iload_n 2, 1) := by decide +kernel
theorem d12_7 : decode jdk_38_method_6_code 7 = .ok (.ifCond .gt 13, 3) := by decide +kernel
theorem d12_10 : decode jdk_38_method_6_code 10 = .ok (.aload_n 0, 1) := by decide +kernel
theorem d12_11 : decode jdk_38_method_6_code 11 = .ok (.getfield 9, 3) := by decide +kernel
theorem d12_14 : decode jdk_38_method_6_code 14 = .ok (.getstatic 39, 3) := by decide +kernel
theorem d12_17 : decode jdk_38_method_6_code 17 = .ok (.if_acmp .eq 28, 3) := by decide +kernel
theorem d12_45 : decode jdk_38_method_6_code 45 = .ok (.aload_n 0, 1) := by decide +kernel
theorem d12_46 : decode jdk_38_method_6_code 46 = .ok (.bipush 10, 2) := by decide +kernel
theorem d12_48 : decode jdk_38_method_6_code 48 = .ok (.iload_n 1, 1) := by decide +kernel
theorem d12_49 : decode jdk_38_method_6_code 49 = .ok (.invokestatic 79, 3) := by decide +kernel
theorem pd_81 : parseMethodDescriptor "(II)I" = some ⟨[.int, .int], some .int⟩ := by decide +kernel
theorem d12_52 : decode jdk_38_method_6_code 52 = .ok (.anewarray 7, 3) := by decide +kernel
theorem d12_55 : decode jdk_38_method_6_code 55 = .ok (.dup_x1, 1) := by decide +kernel
theorem d12_56 : decode jdk_38_method_6_code 56 = .ok (.putfield 9, 3) := by decide +kernel
theorem d12_59 : decode jdk_38_method_6_code 59 = .ok (.areturn, 1) := by decide +kernel
theorem ef_growI (m : MethodId) (x0 : Addr) : entryFrame m #[(.ref x0), (.int (1 : Int32))] 4 = mkF m 0 #[.val (.ref x0), .val (.int (1 : Int32)), .unset, .unset] [] := by first | (simp [entryFrame, mkF, argsToLocals, Value.category]; done) | rfl
def QgrowI (Z : State) (o0 : Addr) (w_s_DEFAULTCAPACITY_EMPTY_ELEMENTDATA : Addr) (w_o0_modCount : Int32) (h0 : Heap) (n0 : Nat) (v : Option Value) (h : Heap) (L : List Loc) : Prop := ∃ x0_ : Addr, v = some (.ref x0_) ∧ Fr n0 L ∧ Keep h0 h [o0] ∧ h0.size ≤ x0_ ∧ Exa Z h o0 "java/util/ArrayList" ∧ Fld Z h o0 "java/util/AbstractList" "modCount" "I" (.int w_o0_modCount) ∧ Fld Z h o0 "java/util/ArrayList" "size" "I" (.int (0 : Int32)) ∧ Fld Z h o0 "java/util/ArrayList" "elementData" "[Ljava/lang/Object;" (.ref x0_) ∧ own_ArvR Z h x0_ "java/lang/Object" (10 : Int32) [.null, .null, .null, .null, .null, .null, .null, .null, .null, .null]
set_option maxRecDepth 65536 in
set_option maxHeartbeats 40000000 in
theorem growI (l : Launch) (Z : State) (a0 : Array Value) (hw : ∀ d ∈ tables_1, d.before a0 Z = true) (ws : List Jvm.Cond) (o0 : Addr) (w_s_DEFAULTCAPACITY_EMPTY_ELEMENTDATA : Addr) (w_o0_modCount : Int32) (h0 : Heap) (n0 : Nat) (Z0 : n0 ≤ h0.size) (F_o0_elementData : Fld Z h0 o0 "java/util/ArrayList" "elementData" "[Ljava/lang/Object;" (.ref w_s_DEFAULTCAPACITY_EMPTY_ELEMENTDATA)) (L_w_s_DEFAULTCAPACITY_EMPTY_ELEMENTDATA : own_Len Z h0 w_s_DEFAULTCAPACITY_EMPTY_ELEMENTDATA (.object "java/lang/Object") (0 : Int32)) (S_DEFAULTCAPACITY_EMPTY_ELEMENTDATA : Sta Z h0 "java/util/ArrayList" "DEFAULTCAPACITY_EMPTY_ELEMENTDATA" "[Ljava/lang/Object;" (.ref w_s_DEFAULTCAPACITY_EMPTY_ELEMENTDATA)) (E_o0 : Exa Z h0 o0 "java/util/ArrayList") (g_o0 : n0 ≤ o0) (F_o0_modCount : Fld Z h0 o0 "java/util/AbstractList" "modCount" "I" (.int w_o0_modCount)) (F_o0_size : Fld Z h0 o0 "java/util/ArrayList" "size" "I" (.int (0 : Int32))) :
    MetFree l (⟨"java/util/ArrayList", "grow", "(I)[Ljava/lang/Object;"⟩ : MethodName) (head1 (Jvm.Cond.code (⟨"java/util/ArrayList", "grow", "(I)[Ljava/lang/Object;"⟩ : MethodName) jdk_38_method_6_code 4 (some (.array (.object "java/lang/Object"))) :: ws) ({ frames := 1, cells := 1, slots := 10, locals := 14 } : Room)) (fun a U => a = #[(.ref o0), (.int (1 : Int32))] ∧ Z.Warmed39 U.vm ∧ U.heap = h0) (fun _ _ _ _ _ => True) (fun _ U o U' => ∃ v L, o = .returned v ∧ QgrowI Z o0 w_s_DEFAULTCAPACITY_EMPTY_ELEMENTDATA w_o0_modCount h0 n0 v U'.heap L ∧ FrameEnd U o U' L ({ frames := 1, cells := 1, slots := 10, locals := 14 } : Room).cells ({ frames := 1, cells := 1, slots := 10, locals := 14 } : Room).slots) := by
  refine MetFree.of_bodySF (plainFor_of_name pn_59) hisR ?_
  intro p e s m args below meth c s₁ Bd hml0 hP hK
  obtain ⟨rfl, hZ, hh⟩ := hP
  have hx := Bd.exec
  have hby := Bd.bytes
  have hml : c.maxLocals = 4 := hml0
  have hown : s.vm.findClass "java/util/ArrayList" = some m.cls := findClass_of_methodNamed Bd.named
  have hnm := (name_of_methodNamed Bd.named Bd.method).1
  have X0 : Stand p l e ({ frames := 1, cells := 1, slots := 10, locals := 14 } : Room) s m #[(.ref o0), (.int (1 : Int32))] below meth c s₁ [] 0 0 := Stand.of_body Bd
  have e0 : s₁.heap = h0 := by rw [← hh, Bd.state]; rfl
  have N0 := Fr.nil n0
  show own_Go p e below s (QgrowI Z o0 w_s_DEFAULTCAPACITY_EMPTY_ELEMENTDATA w_o0_modCount h0 n0) ({ frames := 1, cells := 1, slots := 10, locals := 14 } : Room).cells ({ frames := 1, cells := 1, slots := 10, locals := 14 } : Room).slots (s₁.setTop (entryFrame m #[(.ref o0), (.int (1 : Int32))] 4))
  rw [ef_growI m o0]
  have K0 : Keep h0 h0 [o0] := Keep.refl h0 [o0]
  refine own_go (S' := s₁.setTop (mkF m 1 #[.val (.ref o0), .val (.int (1 : Int32)), .unset, .unset] [(.ref o0)])) (fun t k => ?_) ?_
  · show Steps p.tables e below (s₁.setTop (mkF m 0 #[.val (.ref o0), .val (.int (1 : Int32)), .unset, .unset] [])) t
    refine XS.aloadN X0.here hx rfl (hb hby d12_0) rfl rfl ?_
    exact k
  obtain ⟨T97, X97, e97, st97⟩ := getF X0 hx hZ hown (host := "") (Or.inl (hw _ (List.mem_of_getElem? (i := 48) rfl))) Via.refl e0 F_o0_elementData (g := (mkF m 1 #[.val (.ref o0), .val (.int (1 : Int32)), .unset, .unset] [(.ref o0)])) rfl rfl (hb hby d12_1)
  refine own_go st97 ?_
  obtain ⟨cl98, Ar98, S98, Nn98⟩ := id L_w_s_DEFAULTCAPACITY_EMPTY_ELEMENTDATA
  refine own_go (S' := T97.setTop (mkF m 11 #[.val (.ref o0), .val (.int (1 : Int32)), .val (.int (0 : Int32)), .unset] [(.ref o0)])) (fun t k => ?_) ?_
  · show Steps p.tables e below (T97.setTop (mkF m 4 #[.val (.ref o0), .val (.int (1 : Int32)), .unset, .unset] [(.ref w_s_DEFAULTCAPACITY_EMPTY_ELEMENTDATA)])) t
    refine X97.arraylength hx (by (try rw [e97]); exact Ar98.1) (State.isArrayOf_alike hZ.alike Ar98.2.1) (g := (mkF m 4 #[.val (.ref o0), .val (.int (1 : Int32)), .unset, .unset] [(.ref w_s_DEFAULTCAPACITY_EMPTY_ELEMENTDATA)])) rfl rfl (hb hby d12_4) _ ?_
    rw [len_of S98 Nn98]
    show Steps p.tables e below (T97.setTop (mkF m 5 #[.val (.ref o0), .val (.int (1 : Int32)), .unset, .unset] [(.int (0 : Int32))])) t
    refine XS.istoreN X97.here hx rfl (hb hby d12_5) rfl (l' := #[.val (.ref o0), .val (.int (1 : Int32)), .val (.int (0 : Int32)), .unset]) rfl ?_
    show Steps p.tables e below (T97.setTop (mkF m 6 #[.val (.ref o0), .val (.int (1 : Int32)), .val (.int (0 : Int32)), .unset] [])) t
    refine XS.iloadN X97.here hx rfl (hb hby d12_6) rfl ?_
    show Steps p.tables e below (T97.setTop (mkF m 7 #[.val (.ref o0), .val (.int (1 : Int32)), .val (.int (0 : Int32)), .unset] [(.int (0 : Int32))])) t
    refine XS.ifNo X97.here hx rfl (hb hby d12_7) rfl ((if0 _ _).trans (flt (by decide)).2.2.1) ?_
    show Steps p.tables e below (T97.setTop (mkF m 10 #[.val (.ref o0), .val (.int (1 : Int32)), .val (.int (0 : Int32)), .unset] [])) t
    refine XS.aloadN X97.here hx rfl (hb hby d12_10) rfl rfl ?_
    exact k
  obtain ⟨T99, X99, e99, st99⟩ := getF X97 hx hZ hown (host := "") (Or.inl (hw _ (List.mem_of_getElem? (i := 48) rfl))) Via.refl e97 F_o0_elementData (g := (mkF m 11 #[.val (.ref o0), .val (.int (1 : Int32)), .val (.int (0 : Int32)), .unset] [(.ref o0)])) rfl rfl (hb hby d12_11)
  refine own_go st99 ?_
  obtain ⟨T100, X100, e100, st100⟩ := getS2 X99 hx hZ hown (host := "") (Or.inl (hw _ (List.mem_of_getElem? (i := 47) rfl))) Via.refl e99 S_DEFAULTCAPACITY_EMPTY_ELEMENTDATA (g := (mkF m 14 #[.val (.ref o0), .val (.int (1 : Int32)), .val (.int (0 : Int32)), .unset] [(.ref w_s_DEFAULTCAPACITY_EMPTY_ELEMENTDATA)])) rfl (hb hby d12_14)
  refine own_go st100 ?_
  refine own_go (S' := T100.setTop (mkF m 49 #[.val (.ref o0), .val (.int (1 : Int32)), .val (.int (0 : Int32)), .unset] [(.int (1 : Int32)), (.int (10 : Int32)), (.ref o0)])) (fun t k => ?_) ?_
  · show Steps p.tables e below (T100.setTop (mkF m 17 #[.val (.ref o0), .val (.int (1 : Int32)), .val (.int (0 : Int32)), .unset] [(.ref w_s_DEFAULTCAPACITY_EMPTY_ELEMENTDATA), (.ref w_s_DEFAULTCAPACITY_EMPTY_ELEMENTDATA)])) t
    refine Jvm.RoadKit.acmp (g := (mkF m 17 #[.val (.ref o0), .val (.int (1 : Int32)), .val (.int (0 : Int32)), .unset] [(.ref w_s_DEFAULTCAPACITY_EMPTY_ELEMENTDATA), (.ref w_s_DEFAULTCAPACITY_EMPTY_ELEMENTDATA)])) X100 hx rfl rfl rfl (pc0 := 17) (pc' := 45) (same := true) rfl (hb hby d12_17) rfl (decide_eq_true rfl) (by decide) (by decide) ?_
    show Steps p.tables e below (T100.setTop (mkF m 45 #[.val (.ref o0), .val (.int (1 : Int32)), .val (.int (0 : Int32)), .unset] [])) t
    refine XS.aloadN X100.here hx rfl (hb hby d12_45) rfl rfl ?_
    show Steps p.tables e below (T100.setTop (mkF m 46 #[.val (.ref o0), .val (.int (1 : Int32)), .val (.int (0 : Int32)), .unset] [(.ref o0)])) t
    refine XS.bipush X100.here hx rfl (hb hby d12_46) ?_
    show Steps p.tables e below (T100.setTop (mkF m 48 #[.val (.ref o0), .val (.int (1 : Int32)), .val (.int (0 : Int32)), .unset] [(.int (10 : Int32)), (.ref o0)])) t
    refine XS.iloadN X100.here hx rfl (hb hby d12_48) rfl ?_
    exact k
  obtain ⟨_, _, ⟨T101, L101, kk101, nn101⟩, -, X101, ⟨Lc101, hQ101, l101, y101, z101⟩, st101⟩ := Jvm.LawKit.callS X100 hx (y := (⟨"java/lang/Math", "max", "(II)I"⟩ : MethodName)) hown (mvT hZ (hw _ (List.mem_of_getElem? (i := 74) rfl))) (mvT hZ (hw _ (List.mem_of_getElem? (i := 75) rfl))) (mvT hZ (hw _ (List.mem_of_getElem? (i := 76) rfl))) (mvT hZ (hw _ (List.mem_of_getElem? (i := 77) rfl))) (by decide) (backOf (W := 1) (maxI l Z a0 hw [] (10 : Int32) (1 : Int32) h0 n0 Z0 ) hZ (hw _ (List.mem_of_getElem? (i := 77) rfl)) (hw _ (List.mem_of_getElem? (i := 76) rfl)) (by decide) (by decide)) (g := (mkF m 49 #[.val (.ref o0), .val (.int (1 : Int32)), .val (.int (0 : Int32)), .unset] [(.int (1 : Int32)), (.int (10 : Int32)), (.ref o0)])) rfl (by rw [hml]; rfl) (argsL := [(.int (10 : Int32)), (.int (1 : Int32))]) (rest := [(.ref o0)]) (lenOf pd_81 rfl) rfl (by show 2 * 0 + _ ≤ _; exact Nat.le_of_eq rfl) (hb hby d12_49) (fun _ _ => ⟨rfl, e100, (by decide : 0 + 0 ≤ _), (by decide : 0 + 0 ≤ _)⟩)
  dsimp only [Pt.U, Pt.locs, Pt.cells, Pt.slots] at X101 l101 y101 z101 st101 hQ101
  subst l101 y101 z101
  obtain ⟨rfl, N102, e101⟩ := hQ101
  have N104 := Fr.app N0 N102
  refine own_go st101 ?_
  have hf105 : (maxI_r (10 : Int32) (1 : Int32)) = (10 : Int32) := by decide
  rw [hf105]
  obtain ⟨T106, h106, k106, X106, e106, E106, A106, O106, st106⟩ := newR X101 hx hZ hown (hw _ (List.mem_of_getElem? (i := 78) rfl)) (hw _ (List.mem_of_getElem? (i := 79) rfl)) e101 (g := (mkF m 52 #[.val (.ref o0), .val (.int (1 : Int32)), .val (.int (0 : Int32)), .unset] [(.int (10 : Int32)), (.ref o0)])) rfl (hb hby d12_52) rfl (by decide) (cap := 10) (by decide) (by decide) (by decide) (by decide)
  obtain ⟨b106, g106⟩ : ∃ z, z = h0.size := ⟨_, rfl⟩
  rw [← g106] at A106 st106
  have ne107 : o0 ≠ b106 := Nat.ne_of_lt (Nat.lt_of_lt_of_le F_o0_elementData.lt (Nat.le_of_eq g106.symm))
  have ne108 : w_s_DEFAULTCAPACITY_EMPTY_ELEMENTDATA ≠ b106 := Nat.ne_of_lt (Nat.lt_of_lt_of_le L_w_s_DEFAULTCAPACITY_EMPTY_ELEMENTDATA.lt (Nat.le_of_eq g106.symm))
  have g_b106 : n0 ≤ b106 := Nat.le_trans Z0 (Nat.le_of_eq g106.symm)
  have sz_b106 : h0.size ≤ b106 := Nat.le_trans K0.1 (Nat.le_of_eq g106.symm)
  have K109 : Keep h0 h106 [o0] := K0.ext E106
  have Z110 : n0 ≤ h106.size := Nat.le_trans Z0 E106.1
  have f111 : Fld Z h106 o0 "java/util/ArrayList" "elementData" "[Ljava/lang/Object;" (.ref w_s_DEFAULTCAPACITY_EMPTY_ELEMENTDATA) := Fld.ext E106 F_o0_elementData
  have f112 : own_Len Z h106 w_s_DEFAULTCAPACITY_EMPTY_ELEMENTDATA (.object "java/lang/Object") (0 : Int32) := L_w_s_DEFAULTCAPACITY_EMPTY_ELEMENTDATA.ext E106
  have f113 : Sta Z h106 "java/util/ArrayList" "DEFAULTCAPACITY_EMPTY_ELEMENTDATA" "[Ljava/lang/Object;" (.ref w_s_DEFAULTCAPACITY_EMPTY_ELEMENTDATA) := Sta.ext E106 S_DEFAULTCAPACITY_EMPTY_ELEMENTDATA
  have f114 : Exa Z h106 o0 "java/util/ArrayList" := Exa.ext E106 E_o0
  have f115 : Fld Z h106 o0 "java/util/AbstractList" "modCount" "I" (.int w_o0_modCount) := Fld.ext E106 F_o0_modCount
  have f116 : Fld Z h106 o0 "java/util/ArrayList" "size" "I" (.int (0 : Int32)) := Fld.ext E106 F_o0_size
  have v117 : own_ArvR Z h106 b106 "java/lang/Object" (10 : Int32) [.null, .null, .null, .null, .null, .null, .null, .null, .null, .null] := ⟨_, (Arv.new A106 (by decide)).pad (pad_rep [] .null 10), O106⟩
  refine own_go st106 ?_
  refine own_go (S' := T106.setTop (mkF m 56 #[.val (.ref o0), .val (.int (1 : Int32)), .val (.int (0 : Int32)), .unset] [(.ref b106), (.ref o0), (.ref b106)])) (fun t k => ?_) ?_
  · show Steps p.tables e below (T106.setTop (mkF m 55 #[.val (.ref o0), .val (.int (1 : Int32)), .val (.int (0 : Int32)), .unset] [(.ref b106), (.ref o0)])) t
    refine XS.dupX1 X106.here hx rfl (hb hby d12_55) rfl rfl rfl ?_
    exact k
  obtain ⟨T118, h118, X118, e118, W118, st118⟩ := putF X106 hx hZ hown (host := "") (Or.inl (hw _ (List.mem_of_getElem? (i := 48) rfl))) Via.refl e106 f111 f114 (Or.inl (hw _ (List.mem_of_getElem? (i := 49) rfl))) (hw _ (List.mem_of_getElem? (i := 27) rfl)) (ty := (.array (.object "java/lang/Object"))) (by decide) rfl rfl (g := (mkF m 56 #[.val (.ref o0), .val (.int (1 : Int32)), .val (.int (0 : Int32)), .unset] [(.ref b106), (.ref o0), (.ref b106)])) rfl rfl (hb hby d12_56)
  have f119 : own_Len Z h118 w_s_DEFAULTCAPACITY_EMPTY_ELEMENTDATA (.object "java/lang/Object") (0 : Int32) := f112.other W118 (Ne.symm (own_neL f114 f112 (hw _ (List.mem_of_getElem? (i := 27) rfl))))
  have f120 : Sta Z h118 "java/util/ArrayList" "DEFAULTCAPACITY_EMPTY_ELEMENTDATA" "[Ljava/lang/Object;" (.ref w_s_DEFAULTCAPACITY_EMPTY_ELEMENTDATA) := f113.wr W118
  have f121 : Exa Z h118 o0 "java/util/ArrayList" := f114.wr W118
  have f122 : Fld Z h118 o0 "java/util/AbstractList" "modCount" "I" (.int w_o0_modCount) := f115.other W118 (Or.inr (slot_ne (Or.inl (hw _ (List.mem_of_getElem? (i := 46) rfl))) (Or.inl (hw _ (List.mem_of_getElem? (i := 49) rfl))) (by decide) (t := .int) (t' := (.array (.object "java/lang/Object"))) (by decide) (by decide)))
  have f123 : Fld Z h118 o0 "java/util/ArrayList" "size" "I" (.int (0 : Int32)) := f116.other W118 (Or.inr (slot_ne (Or.inl (hw _ (List.mem_of_getElem? (i := 58) rfl))) (Or.inl (hw _ (List.mem_of_getElem? (i := 49) rfl))) (by decide) (t := .int) (t' := (.array (.object "java/lang/Object"))) (by decide) (by decide)))
  have f124 : own_ArvR Z h118 b106 "java/lang/Object" (10 : Int32) [.null, .null, .null, .null, .null, .null, .null, .null, .null, .null] := v117.other W118 (Ne.symm ne107)
  have f125 : Fld Z h118 o0 "java/util/ArrayList" "elementData" "[Ljava/lang/Object;" (.ref b106) := f111.same W118
  have N126 := Fr.snoc X118 N104 g_o0
  have Z127 : n0 ≤ h118.size := Nat.le_trans Z110 (Keep.of_wr W118).1
  have K128 : Keep h0 h118 [o0] := K109.wr W118 (Or.inl (List.mem_of_getElem? (i := 0) rfl))
  refine own_go st118 ?_
  obtain ⟨fs, hr, hrun, hended, hW, hsame⟩ := X118.leave (v := some (.ref b106)) (fun h => by rw [Bd.returns] at h; cases h)
  refine own_end (v := some (.ref b106)) ?_ hrun hended ?_ hW (hsame.mono (by decide) (by decide))
  · show Steps p.tables e below (T118.setTop (mkF m 59 #[.val (.ref o0), .val (.int (1 : Int32)), .val (.int (0 : Int32)), .unset] [(.ref b106)])) _
    jvm_step X118.here [X118.here.top, hx, (hb hby d12_59), X118.method', Bd.returns, Value.isRef, FieldType.isReference]
    first | (intro acts; rw [hr _ acts rfl rfl rfl]) | rw [hr _ _ rfl rfl rfl]
    exact Steps.refl _
  · show QgrowI Z o0 w_s_DEFAULTCAPACITY_EMPTY_ELEMENTDATA w_o0_modCount h0 n0 _ T118.heap _
    rw [e118]
    exact ⟨b106, rfl, N126, K128, sz_b106, f121, f122, f123, f125, f124⟩
theorem d11_0 : decode jdk_38_method_7_code 0 = .ok (.aload_n 0, 1) := by decide +kernel
theorem d11_1 : decode jdk_38_method_7_code 1 = .ok (.aload_n 0, 1) := by decide +kernel
theorem d11_2 : decode jdk_38_method_7_code 2 = .ok (.getfield 48, 3) := by decide +kernel
theorem d11_5 : decode jdk_38_method_7_code 5 = .ok (.iconst 1, 1) := by decide +kernel
theorem d11_6 : decode jdk_38_method_7_code 6 = .ok (.iadd, 1) := by decide +kernel
theorem d11_7 : decode jdk_38_method_7_code 7 = .ok (.invokevirtual 69, 3) := by decide +kernel
theorem pd_92 : parseMethodDescriptor "(I)[Ljava/lang/Object;" = some ⟨[.int], some (.array (.object "java/lang/Object"))⟩ := by decide +kernel
theorem d11_10 : decode jdk_38_method_7_code 10 = .ok (.areturn, 1) := by decide +kernel
theorem ef_grow (m : MethodId) (x0 : Addr) : entryFrame m #[(.ref x0)] 1 = mkF m 0 #[.val (.ref x0)] [] := by first | (simp [entryFrame, mkF, argsToLocals, Value.category]; done) | rfl
def Qgrow (Z : State) (o0 : Addr) (w_s_DEFAULTCAPACITY_EMPTY_ELEMENTDATA : Addr) (w_o0_modCount : Int32) (h0 : Heap) (n0 : Nat) (v : Option Value) (h : Heap) (L : List Loc) : Prop := ∃ x0_ : Addr, v = some (.ref x0_) ∧ Fr n0 L ∧ Keep h0 h [o0] ∧ h0.size ≤ x0_ ∧ Exa Z h o0 "java/util/ArrayList" ∧ Fld Z h o0 "java/util/AbstractList" "modCount" "I" (.int w_o0_modCount) ∧ Fld Z h o0 "java/util/ArrayList" "size" "I" (.int (0 : Int32)) ∧ Fld Z h o0 "java/util/ArrayList" "elementData" "[Ljava/lang/Object;" (.ref x0_) ∧ own_ArvR Z h x0_ "java/lang/Object" (10 : Int32) [.null, .null, .null, .null, .null, .null, .null, .null, .null, .null]
set_option maxRecDepth 65536 in
set_option maxHeartbeats 40000000 in
theorem grow (l : Launch) (Z : State) (a0 : Array Value) (hw : ∀ d ∈ tables_1, d.before a0 Z = true) (ws : List Jvm.Cond) (o0 : Addr) (w_s_DEFAULTCAPACITY_EMPTY_ELEMENTDATA : Addr) (w_o0_modCount : Int32) (h0 : Heap) (n0 : Nat) (Z0 : n0 ≤ h0.size) (F_o0_size : Fld Z h0 o0 "java/util/ArrayList" "size" "I" (.int (0 : Int32))) (F_o0_elementData : Fld Z h0 o0 "java/util/ArrayList" "elementData" "[Ljava/lang/Object;" (.ref w_s_DEFAULTCAPACITY_EMPTY_ELEMENTDATA)) (L_w_s_DEFAULTCAPACITY_EMPTY_ELEMENTDATA : own_Len Z h0 w_s_DEFAULTCAPACITY_EMPTY_ELEMENTDATA (.object "java/lang/Object") (0 : Int32)) (S_DEFAULTCAPACITY_EMPTY_ELEMENTDATA : Sta Z h0 "java/util/ArrayList" "DEFAULTCAPACITY_EMPTY_ELEMENTDATA" "[Ljava/lang/Object;" (.ref w_s_DEFAULTCAPACITY_EMPTY_ELEMENTDATA)) (E_o0 : Exa Z h0 o0 "java/util/ArrayList") (g_o0 : n0 ≤ o0) (F_o0_modCount : Fld Z h0 o0 "java/util/AbstractList" "modCount" "I" (.int w_o0_modCount)) :
    MetFree l (⟨"java/util/ArrayList", "grow", "()[Ljava/lang/Object;"⟩ : MethodName) (head1 (Jvm.Cond.code (⟨"java/util/ArrayList", "grow", "()[Ljava/lang/Object;"⟩ : MethodName) jdk_38_method_7_code 1 (some (.array (.object "java/lang/Object"))) :: ws) ({ frames := 2, cells := 1, slots := 10, locals := 29 } : Room)) (fun a U => a = #[(.ref o0)] ∧ Z.Warmed39 U.vm ∧ U.heap = h0) (fun _ _ _ _ _ => True) (fun _ U o U' => ∃ v L, o = .returned v ∧ Qgrow Z o0 w_s_DEFAULTCAPACITY_EMPTY_ELEMENTDATA w_o0_modCount h0 n0 v U'.heap L ∧ FrameEnd U o U' L ({ frames := 2, cells := 1, slots := 10, locals := 29 } : Room).cells ({ frames := 2, cells := 1, slots := 10, locals := 29 } : Room).slots) := by
  refine MetFree.of_bodySF (plainFor_of_name pn_59) hisR ?_
  intro p e s m args below meth c s₁ Bd hml0 hP hK
  obtain ⟨rfl, hZ, hh⟩ := hP
  have hx := Bd.exec
  have hby := Bd.bytes
  have hml : c.maxLocals = 1 := hml0
  have hown : s.vm.findClass "java/util/ArrayList" = some m.cls := findClass_of_methodNamed Bd.named
  have hnm := (name_of_methodNamed Bd.named Bd.method).1
  have X0 : Stand p l e ({ frames := 2, cells := 1, slots := 10, locals := 29 } : Room) s m #[(.ref o0)] below meth c s₁ [] 0 0 := Stand.of_body Bd
  have e0 : s₁.heap = h0 := by rw [← hh, Bd.state]; rfl
  have N0 := Fr.nil n0
  show own_Go p e below s (Qgrow Z o0 w_s_DEFAULTCAPACITY_EMPTY_ELEMENTDATA w_o0_modCount h0 n0) ({ frames := 2, cells := 1, slots := 10, locals := 29 } : Room).cells ({ frames := 2, cells := 1, slots := 10, locals := 29 } : Room).slots (s₁.setTop (entryFrame m #[(.ref o0)] 1))
  rw [ef_grow m o0]
  have K0 : Keep h0 h0 [o0] := Keep.refl h0 [o0]
  refine own_go (S' := s₁.setTop (mkF m 2 #[.val (.ref o0)] [(.ref o0), (.ref o0)])) (fun t k => ?_) ?_
  · show Steps p.tables e below (s₁.setTop (mkF m 0 #[.val (.ref o0)] [])) t
    refine XS.aloadN X0.here hx rfl (hb hby d11_0) rfl rfl ?_
    show Steps p.tables e below (s₁.setTop (mkF m 1 #[.val (.ref o0)] [(.ref o0)])) t
    refine XS.aloadN X0.here hx rfl (hb hby d11_1) rfl rfl ?_
    exact k
  obtain ⟨T129, X129, e129, st129⟩ := getF X0 hx hZ hown (host := "") (Or.inl (hw _ (List.mem_of_getElem? (i := 57) rfl))) Via.refl e0 F_o0_size (g := (mkF m 2 #[.val (.ref o0)] [(.ref o0), (.ref o0)])) rfl rfl (hb hby d11_2)
  refine own_go st129 ?_
  refine own_go (S' := T129.setTop (mkF m 7 #[.val (.ref o0)] [(.int (1 : Int32)), (.ref o0)])) (fun t k => ?_) ?_
  · show Steps p.tables e below (T129.setTop (mkF m 5 #[.val (.ref o0)] [(.int (0 : Int32)), (.ref o0)])) t
    refine XS.iconst X129.here hx rfl (hb hby d11_5) ?_
    show Steps p.tables e below (T129.setTop (mkF m 6 #[.val (.ref o0)] [(.int (1 : Int32)), (.int (0 : Int32)), (.ref o0)])) t
    refine XS.iadd X129.here hx rfl (hb hby d11_6) rfl ?_
    exact k
  obtain ⟨cq130, qa130, qb130⟩ := E_o0.cell
  obtain ⟨_, _, ⟨T130, L130, kk130, nn130⟩, -, X130, ⟨Lc130, hQ130, l130, y130, z130⟩, st130⟩ := X129.privateBack hx (y := (⟨"java/util/ArrayList", "grow", "(I)[Ljava/lang/Object;"⟩ : MethodName)) hown (mvT hZ (hw _ (List.mem_of_getElem? (i := 69) rfl))) (mvT hZ (hw _ (List.mem_of_getElem? (i := 70) rfl))) (mvT hZ (hw _ (List.mem_of_getElem? (i := 72) rfl))) (Cond.privateMethod_at (mvP hZ (hw _ (List.mem_of_getElem? (i := 71) rfl)) (args := #[]))) (mvT hZ (hw _ (List.mem_of_getElem? (i := 73) rfl))) (by decide) (backOf (W := 0) (growI l Z a0 hw [] o0 w_s_DEFAULTCAPACITY_EMPTY_ELEMENTDATA w_o0_modCount h0 n0 Z0 F_o0_elementData L_w_s_DEFAULTCAPACITY_EMPTY_ELEMENTDATA S_DEFAULTCAPACITY_EMPTY_ELEMENTDATA E_o0 g_o0 F_o0_modCount F_o0_size) hZ (hw _ (List.mem_of_getElem? (i := 73) rfl)) (hw _ (List.mem_of_getElem? (i := 28) rfl)) (by decide) (by decide)) (g := (mkF m 7 #[.val (.ref o0)] [(.int (1 : Int32)), (.ref o0)])) rfl (by rw [hml]; rfl) (Steps.refl _) (a := o0) (by (try rw [e129]); exact qa130) qb130 (argsL := [(.int (1 : Int32))]) (rest := []) (lenOf pd_92 rfl) rfl (by show 2 * 0 + _ ≤ _; exact Nat.le_of_eq rfl) (hb hby d11_7) (fun _ _ => ⟨rfl, e129, (by decide : 0 + 1 ≤ _), (by decide : 0 + 10 ≤ _)⟩)
  dsimp only [Pt.U, Pt.locs, Pt.cells, Pt.slots] at X130 l130 y130 z130 st130 hQ130
  subst l130 y130 z130
  obtain ⟨b131, rfl, N132, K133, p134, p135, p136, p137, p138, p139⟩ := hQ130
  have N140 := Fr.app N0 N132
  have ne141 : o0 ≠ b131 := Nat.ne_of_lt (Nat.lt_of_lt_of_le F_o0_size.lt p134)
  have ne142 : w_s_DEFAULTCAPACITY_EMPTY_ELEMENTDATA ≠ b131 := Nat.ne_of_lt (Nat.lt_of_lt_of_le L_w_s_DEFAULTCAPACITY_EMPTY_ELEMENTDATA.lt p134)
  have g_b131 : n0 ≤ b131 := Nat.le_trans Z0 p134
  have sz_b131 : h0.size ≤ b131 := Nat.le_trans K0.1 p134
  have f143 : own_Len Z T130.heap w_s_DEFAULTCAPACITY_EMPTY_ELEMENTDATA (.object "java/lang/Object") (0 : Int32) := L_w_s_DEFAULTCAPACITY_EMPTY_ELEMENTDATA.keep K133 (ninS (Ne.symm (own_neL E_o0 L_w_s_DEFAULTCAPACITY_EMPTY_ELEMENTDATA (hw _ (List.mem_of_getElem? (i := 27) rfl)))) nin0)
  have f144 : Sta Z T130.heap "java/util/ArrayList" "DEFAULTCAPACITY_EMPTY_ELEMENTDATA" "[Ljava/lang/Object;" (.ref w_s_DEFAULTCAPACITY_EMPTY_ELEMENTDATA) := own_sta_keep S_DEFAULTCAPACITY_EMPTY_ELEMENTDATA K133 (allS (own_plain E_o0) all0)
  have f145 : Exa Z T130.heap o0 "java/util/ArrayList" := E_o0.keep K133
  have Z146 : n0 ≤ T130.heap.size := Nat.le_trans Z0 K133.1
  have K147 : Keep h0 T130.heap [o0] := K0.trans K133 (allS (Or.inl (List.mem_of_getElem? (i := 0) rfl)) all0)
  refine own_goT st130 ?_
  obtain ⟨fs, hr, hrun, hended, hW, hsame⟩ := X130.leave (v := some (.ref b131)) (fun h => by rw [Bd.returns] at h; cases h)
  refine own_end (v := some (.ref b131)) ?_ hrun hended ?_ hW (hsame.mono (by decide) (by decide))
  · show Steps p.tables e below (T130.setTop (mkF m 10 #[.val (.ref o0)] [(.ref b131)])) _
    jvm_step X130.here [X130.here.top, hx, (hb hby d11_10), X130.method', Bd.returns, Value.isRef, FieldType.isReference]
    first | (intro acts; rw [hr _ acts rfl rfl rfl]) | rw [hr _ _ rfl rfl rfl]
    exact Steps.refl _
  · show Qgrow Z o0 w_s_DEFAULTCAPACITY_EMPTY_ELEMENTDATA w_o0_modCount h0 n0 _ T130.heap _
    exact ⟨b131, rfl, N140, K147, sz_b131, p135, p136, p137, p138, p139⟩
theorem d10_0 : decode jdk_38_method_24_code 0 = .ok (.iload_n 3, 1) := by decide +kernel
theorem d10_1 : decode jdk_38_method_24_code 1 = .ok (.aload_n 2, 1) := by decide +kernel
theorem d10_2 : decode jdk_38_method_24_code 2 = .ok (.arraylength, 1) := by decide +kernel
theorem d10_3 : decode jdk_38_method_24_code 3 = .ok (.if_icmp .ne 8, 3) := by decide +kernel
theorem d10_6 : decode jdk_38_method_24_code 6 = .ok (.aload_n 0, 1) := by decide +kernel
theorem d10_7 : decode jdk_38_method_24_code 7 = .ok (.invokevirtual 129, 3) := by decide +kernel
theorem pd_100 : parseMethodDescriptor "()[Ljava/lang/Object;" = some ⟨[], some (.array (.object "java/lang/Object"))⟩ := by decide +kernel
theorem d10_10 : decode jdk_38_method_24_code 10 = .ok (.astore_n 2, 1) := by decide +kernel
theorem d10_11 : decode jdk_38_method_24_code 11 = .ok (.aload_n 2, 1) := by decide +kernel
theorem d10_12 : decode jdk_38_method_24_code 12 = .ok (.iload_n 3, 1) := by decide +kernel
theorem d10_13 : decode jdk_38_method_24_code 13 = .ok (.aload_n 1, 1) := by decide +kernel
theorem d10_14 : decode jdk_38_method_24_code 14 = .ok (.aastore, 1) := by decide +kernel
theorem d10_15 : decode jdk_38_method_24_code 15 = .ok (.aload_n 0, 1) := by decide +kernel
theorem d10_16 : decode jdk_38_method_24_code 16 = .ok (.iload_n 3, 1) := by decide +kernel
theorem d10_17 : decode jdk_38_method_24_code 17 = .ok (.iconst 1, 1) := by decide +kernel
theorem d10_18 : decode jdk_38_method_24_code 18 = .ok (.iadd, 1) := by decide +kernel
theorem d10_19 : decode jdk_38_method_24_code 19 = .ok (.putfield 48, 3) := by decide +kernel
theorem d10_22 : decode jdk_38_method_24_code 22 = .ok (.return_, 1) := by decide +kernel
theorem ef_addI0 (m : MethodId) (x0 : Addr) (x1 : Addr) (x2 : Addr) : entryFrame m #[(.ref x0), (.ref x1), (.ref x2), (.int (0 : Int32))] 4 = mkF m 0 #[.val (.ref x0), .val (.ref x1), .val (.ref x2), .val (.int (0 : Int32))] [] := by first | (simp [entryFrame, mkF, argsToLocals, Value.category]; done) | rfl
def QaddI0 (Z : State) (o0 : Addr) (o1 : Addr) (w_s_DEFAULTCAPACITY_EMPTY_ELEMENTDATA : Addr) (w_o0_modCount : Int32) (h0 : Heap) (n0 : Nat) (v : Option Value) (h : Heap) (L : List Loc) : Prop := ∃ x0_ : Addr, v = none ∧ Fr n0 L ∧ Keep h0 h [o0] ∧ h0.size ≤ x0_ ∧ Exa Z h o0 "java/util/ArrayList" ∧ Fld Z h o0 "java/util/AbstractList" "modCount" "I" (.int w_o0_modCount) ∧ Fld Z h o0 "java/util/ArrayList" "elementData" "[Ljava/lang/Object;" (.ref x0_) ∧ Fld Z h o0 "java/util/ArrayList" "size" "I" (.int (1 : Int32)) ∧ own_ArvR Z h x0_ "java/lang/Object" (10 : Int32) [(.ref o1), .null, .null, .null, .null, .null, .null, .null, .null, .null]
set_option maxRecDepth 65536 in
set_option maxHeartbeats 40000000 in
theorem addI0 (l : Launch) (Z : State) (a0 : Array Value) (hw : ∀ d ∈ tables_1, d.before a0 Z = true) (ws : List Jvm.Cond) (o0 : Addr) (o1 : Addr) (w_s_DEFAULTCAPACITY_EMPTY_ELEMENTDATA : Addr) (w_o0_modCount : Int32) (h0 : Heap) (n0 : Nat) (Z0 : n0 ≤ h0.size) (L_w_s_DEFAULTCAPACITY_EMPTY_ELEMENTDATA : own_Len Z h0 w_s_DEFAULTCAPACITY_EMPTY_ELEMENTDATA (.object "java/lang/Object") (0 : Int32)) (F_o0_size : Fld Z h0 o0 "java/util/ArrayList" "size" "I" (.int (0 : Int32))) (F_o0_elementData : Fld Z h0 o0 "java/util/ArrayList" "elementData" "[Ljava/lang/Object;" (.ref w_s_DEFAULTCAPACITY_EMPTY_ELEMENTDATA)) (S_DEFAULTCAPACITY_EMPTY_ELEMENTDATA : Sta Z h0 "java/util/ArrayList" "DEFAULTCAPACITY_EMPTY_ELEMENTDATA" "[Ljava/lang/Object;" (.ref w_s_DEFAULTCAPACITY_EMPTY_ELEMENTDATA)) (E_o0 : Exa Z h0 o0 "java/util/ArrayList") (g_o0 : n0 ≤ o0) (F_o0_modCount : Fld Z h0 o0 "java/util/AbstractList" "modCount" "I" (.int w_o0_modCount)) (E_o1 : Exa Z h0 o1 "java/lang/String") :
    MetFree l (⟨"java/util/ArrayList", "add", "(Ljava/lang/Object;[Ljava/lang/Object;I)V"⟩ : MethodName) (head1 (Jvm.Cond.code (⟨"java/util/ArrayList", "add", "(Ljava/lang/Object;[Ljava/lang/Object;I)V"⟩ : MethodName) jdk_38_method_24_code 4 none :: ws) ({ frames := 3, cells := 1, slots := 10, locals := 41 } : Room)) (fun a U => a = #[(.ref o0), (.ref o1), (.ref w_s_DEFAULTCAPACITY_EMPTY_ELEMENTDATA), (.int (0 : Int32))] ∧ Z.Warmed39 U.vm ∧ U.heap = h0) (fun _ _ _ _ _ => True) (fun _ U o U' => ∃ v L, o = .returned v ∧ QaddI0 Z o0 o1 w_s_DEFAULTCAPACITY_EMPTY_ELEMENTDATA w_o0_modCount h0 n0 v U'.heap L ∧ FrameEnd U o U' L ({ frames := 3, cells := 1, slots := 10, locals := 41 } : Room).cells ({ frames := 3, cells := 1, slots := 10, locals := 41 } : Room).slots) := by
  refine MetFree.of_bodySF (plainFor_of_name pn_59) hisR ?_
  intro p e s m args below meth c s₁ Bd hml0 hP hK
  obtain ⟨rfl, hZ, hh⟩ := hP
  have hx := Bd.exec
  have hby := Bd.bytes
  have hml : c.maxLocals = 4 := hml0
  have hown : s.vm.findClass "java/util/ArrayList" = some m.cls := findClass_of_methodNamed Bd.named
  have hnm := (name_of_methodNamed Bd.named Bd.method).1
  have X0 : Stand p l e ({ frames := 3, cells := 1, slots := 10, locals := 41 } : Room) s m #[(.ref o0), (.ref o1), (.ref w_s_DEFAULTCAPACITY_EMPTY_ELEMENTDATA), (.int (0 : Int32))] below meth c s₁ [] 0 0 := Stand.of_body Bd
  have e0 : s₁.heap = h0 := by rw [← hh, Bd.state]; rfl
  have N0 := Fr.nil n0
  show own_Go p e below s (QaddI0 Z o0 o1 w_s_DEFAULTCAPACITY_EMPTY_ELEMENTDATA w_o0_modCount h0 n0) ({ frames := 3, cells := 1, slots := 10, locals := 41 } : Room).cells ({ frames := 3, cells := 1, slots := 10, locals := 41 } : Room).slots (s₁.setTop (entryFrame m #[(.ref o0), (.ref o1), (.ref w_s_DEFAULTCAPACITY_EMPTY_ELEMENTDATA), (.int (0 : Int32))] 4))
  rw [ef_addI0 m o0 o1 w_s_DEFAULTCAPACITY_EMPTY_ELEMENTDATA]
  have K0 : Keep h0 h0 [o0] := Keep.refl h0 [o0]
  obtain ⟨cl148, Ar148, S148, Nn148⟩ := id L_w_s_DEFAULTCAPACITY_EMPTY_ELEMENTDATA
  refine own_go (S' := s₁.setTop (mkF m 7 #[.val (.ref o0), .val (.ref o1), .val (.ref w_s_DEFAULTCAPACITY_EMPTY_ELEMENTDATA), .val (.int (0 : Int32))] [(.ref o0)])) (fun t k => ?_) ?_
  · show Steps p.tables e below (s₁.setTop (mkF m 0 #[.val (.ref o0), .val (.ref o1), .val (.ref w_s_DEFAULTCAPACITY_EMPTY_ELEMENTDATA), .val (.int (0 : Int32))] [])) t
    refine XS.iloadN X0.here hx rfl (hb hby d10_0) rfl ?_
    show Steps p.tables e below (s₁.setTop (mkF m 1 #[.val (.ref o0), .val (.ref o1), .val (.ref w_s_DEFAULTCAPACITY_EMPTY_ELEMENTDATA), .val (.int (0 : Int32))] [(.int (0 : Int32))])) t
    refine XS.aloadN X0.here hx rfl (hb hby d10_1) rfl rfl ?_
    show Steps p.tables e below (s₁.setTop (mkF m 2 #[.val (.ref o0), .val (.ref o1), .val (.ref w_s_DEFAULTCAPACITY_EMPTY_ELEMENTDATA), .val (.int (0 : Int32))] [(.ref w_s_DEFAULTCAPACITY_EMPTY_ELEMENTDATA), (.int (0 : Int32))])) t
    refine X0.arraylength hx (by (try rw [e0]); exact Ar148.1) (State.isArrayOf_alike hZ.alike Ar148.2.1) (g := (mkF m 2 #[.val (.ref o0), .val (.ref o1), .val (.ref w_s_DEFAULTCAPACITY_EMPTY_ELEMENTDATA), .val (.int (0 : Int32))] [(.ref w_s_DEFAULTCAPACITY_EMPTY_ELEMENTDATA), (.int (0 : Int32))])) rfl rfl (hb hby d10_2) _ ?_
    rw [len_of S148 Nn148]
    show Steps p.tables e below (s₁.setTop (mkF m 3 #[.val (.ref o0), .val (.ref o1), .val (.ref w_s_DEFAULTCAPACITY_EMPTY_ELEMENTDATA), .val (.int (0 : Int32))] [(.int (0 : Int32)), (.int (0 : Int32))])) t
    refine XS.icmpNo X0.here hx rfl (hb hby d10_3) rfl (teq (by decide)).2 ?_
    show Steps p.tables e below (s₁.setTop (mkF m 6 #[.val (.ref o0), .val (.ref o1), .val (.ref w_s_DEFAULTCAPACITY_EMPTY_ELEMENTDATA), .val (.int (0 : Int32))] [])) t
    refine XS.aloadN X0.here hx rfl (hb hby d10_6) rfl rfl ?_
    exact k
  obtain ⟨cq149, qa149, qb149⟩ := E_o0.cell
  obtain ⟨_, _, ⟨T149, L149, kk149, nn149⟩, -, X149, ⟨Lc149, hQ149, l149, y149, z149⟩, st149⟩ := X0.privateBack hx (y := (⟨"java/util/ArrayList", "grow", "()[Ljava/lang/Object;"⟩ : MethodName)) hown (mvT hZ (hw _ (List.mem_of_getElem? (i := 64) rfl))) (mvT hZ (hw _ (List.mem_of_getElem? (i := 65) rfl))) (mvT hZ (hw _ (List.mem_of_getElem? (i := 67) rfl))) (Cond.privateMethod_at (mvP hZ (hw _ (List.mem_of_getElem? (i := 66) rfl)) (args := #[]))) (mvT hZ (hw _ (List.mem_of_getElem? (i := 68) rfl))) (by decide) (backOf (W := 0) (grow l Z a0 hw [] o0 w_s_DEFAULTCAPACITY_EMPTY_ELEMENTDATA w_o0_modCount h0 n0 Z0 F_o0_size F_o0_elementData L_w_s_DEFAULTCAPACITY_EMPTY_ELEMENTDATA S_DEFAULTCAPACITY_EMPTY_ELEMENTDATA E_o0 g_o0 F_o0_modCount) hZ (hw _ (List.mem_of_getElem? (i := 68) rfl)) (hw _ (List.mem_of_getElem? (i := 28) rfl)) (by decide) (by decide)) (g := (mkF m 7 #[.val (.ref o0), .val (.ref o1), .val (.ref w_s_DEFAULTCAPACITY_EMPTY_ELEMENTDATA), .val (.int (0 : Int32))] [(.ref o0)])) rfl (by rw [hml]; rfl) (Steps.refl _) (a := o0) (by (try rw [e0]); exact qa149) qb149 (argsL := []) (rest := []) (lenOf pd_100 rfl) rfl (by show 2 * 0 + _ ≤ _; exact Nat.le_of_eq rfl) (hb hby d10_7) (fun _ _ => ⟨rfl, e0, (by decide : 0 + 1 ≤ _), (by decide : 0 + 10 ≤ _)⟩)
  dsimp only [Pt.U, Pt.locs, Pt.cells, Pt.slots] at X149 l149 y149 z149 st149 hQ149
  subst l149 y149 z149
  obtain ⟨b150, rfl, N151, K152, p153, p154, p155, p156, p157, p158⟩ := hQ149
  have N159 := Fr.app N0 N151
  have ne160 : w_s_DEFAULTCAPACITY_EMPTY_ELEMENTDATA ≠ b150 := Nat.ne_of_lt (Nat.lt_of_lt_of_le L_w_s_DEFAULTCAPACITY_EMPTY_ELEMENTDATA.lt p153)
  have ne161 : o0 ≠ b150 := Nat.ne_of_lt (Nat.lt_of_lt_of_le F_o0_size.lt p153)
  have ne162 : o1 ≠ b150 := Nat.ne_of_lt (Nat.lt_of_lt_of_le E_o1.lt p153)
  have g_b150 : n0 ≤ b150 := Nat.le_trans Z0 p153
  have sz_b150 : h0.size ≤ b150 := Nat.le_trans K0.1 p153
  have f163 : own_Len Z T149.heap w_s_DEFAULTCAPACITY_EMPTY_ELEMENTDATA (.object "java/lang/Object") (0 : Int32) := L_w_s_DEFAULTCAPACITY_EMPTY_ELEMENTDATA.keep K152 (ninS (Ne.symm (own_neL E_o0 L_w_s_DEFAULTCAPACITY_EMPTY_ELEMENTDATA (hw _ (List.mem_of_getElem? (i := 27) rfl)))) nin0)
  have f164 : Sta Z T149.heap "java/util/ArrayList" "DEFAULTCAPACITY_EMPTY_ELEMENTDATA" "[Ljava/lang/Object;" (.ref w_s_DEFAULTCAPACITY_EMPTY_ELEMENTDATA) := own_sta_keep S_DEFAULTCAPACITY_EMPTY_ELEMENTDATA K152 (allS (own_plain E_o0) all0)
  have f165 : Exa Z T149.heap o0 "java/util/ArrayList" := E_o0.keep K152
  have f166 : Exa Z T149.heap o1 "java/lang/String" := E_o1.keep K152
  have Z167 : n0 ≤ T149.heap.size := Nat.le_trans Z0 K152.1
  have K168 : Keep h0 T149.heap [o0] := K0.trans K152 (allS (Or.inl (List.mem_of_getElem? (i := 0) rfl)) all0)
  refine own_goT st149 ?_
  refine own_go (S' := T149.setTop (mkF m 14 #[.val (.ref o0), .val (.ref o1), .val (.ref b150), .val (.int (0 : Int32))] [(.ref o1), (.int (0 : Int32)), (.ref b150)])) (fun t k => ?_) ?_
  · show Steps p.tables e below (T149.setTop (mkF m 10 #[.val (.ref o0), .val (.ref o1), .val (.ref w_s_DEFAULTCAPACITY_EMPTY_ELEMENTDATA), .val (.int (0 : Int32))] [(.ref b150)])) t
    refine XS.astoreN X149.here hx rfl (hb hby d10_10) rfl rfl (l' := #[.val (.ref o0), .val (.ref o1), .val (.ref b150), .val (.int (0 : Int32))]) rfl ?_
    show Steps p.tables e below (T149.setTop (mkF m 11 #[.val (.ref o0), .val (.ref o1), .val (.ref b150), .val (.int (0 : Int32))] [])) t
    refine XS.aloadN X149.here hx rfl (hb hby d10_11) rfl rfl ?_
    show Steps p.tables e below (T149.setTop (mkF m 12 #[.val (.ref o0), .val (.ref o1), .val (.ref b150), .val (.int (0 : Int32))] [(.ref b150)])) t
    refine XS.iloadN X149.here hx rfl (hb hby d10_12) rfl ?_
    show Steps p.tables e below (T149.setTop (mkF m 13 #[.val (.ref o0), .val (.ref o1), .val (.ref b150), .val (.int (0 : Int32))] [(.int (0 : Int32)), (.ref b150)])) t
    refine XS.aloadN X149.here hx rfl (hb hby d10_13) rfl rfl ?_
    exact k
  obtain ⟨kq169, ⟨cl169, Ar169, q169, S169, Nn169, Hh169, G169⟩, Ov169⟩ := p158
  obtain ⟨T169, h169, X169, e169, W169, st169⟩ := stR X149 hx hZ rfl Ar169 (j := (0 : Int32)) (inb_of S169 ⟨by decide, by decide⟩) rfl (Sto.ofV Ar169 q169 Ov169 (Ins.of_exa f166 (hw _ (List.mem_of_getElem? (i := 80) rfl)))) (g := (mkF m 14 #[.val (.ref o0), .val (.ref o1), .val (.ref b150), .val (.int (0 : Int32))] [(.ref o1), (.int (0 : Int32)), (.ref b150)])) rfl rfl (hb hby d10_14)
  have f170 : own_Len Z h169 w_s_DEFAULTCAPACITY_EMPTY_ELEMENTDATA (.object "java/lang/Object") (0 : Int32) := f163.other W169 ne160
  have f171 : Sta Z h169 "java/util/ArrayList" "DEFAULTCAPACITY_EMPTY_ELEMENTDATA" "[Ljava/lang/Object;" (.ref w_s_DEFAULTCAPACITY_EMPTY_ELEMENTDATA) := f164.wr W169
  have f172 : Exa Z h169 o0 "java/util/ArrayList" := p154.wr W169
  have f173 : Exa Z h169 o1 "java/lang/String" := f166.wr W169
  have f174 : Fld Z h169 o0 "java/util/AbstractList" "modCount" "I" (.int w_o0_modCount) := p155.other W169 (Or.inl ne161)
  have f175 : Fld Z h169 o0 "java/util/ArrayList" "size" "I" (.int (0 : Int32)) := p156.other W169 (Or.inl ne161)
  have f176 : Fld Z h169 o0 "java/util/ArrayList" "elementData" "[Ljava/lang/Object;" (.ref b150) := p157.other W169 (Or.inl ne161)
  have v177 : own_ArvR Z h169 b150 "java/lang/Object" (10 : Int32) [(.ref o1), .null, .null, .null, .null, .null, .null, .null, .null, .null] := ⟨_, Arv.set Ar169 q169 S169 Nn169 Hh169 G169 rfl W169 0 rfl (Nat.le_of_ble_eq_true rfl), Ov169⟩
  have N178 := Fr.snoc X169 N159 g_b150
  have Z179 : n0 ≤ h169.size := Nat.le_trans Z167 (Keep.of_wr W169).1
  have K180 : Keep h0 h169 [o0] := K168.wr W169 (Or.inr sz_b150)
  refine own_go st169 ?_
  refine own_go (S' := T169.setTop (mkF m 19 #[.val (.ref o0), .val (.ref o1), .val (.ref b150), .val (.int (0 : Int32))] [(.int (1 : Int32)), (.ref o0)])) (fun t k => ?_) ?_
  · show Steps p.tables e below (T169.setTop (mkF m 15 #[.val (.ref o0), .val (.ref o1), .val (.ref b150), .val (.int (0 : Int32))] [])) t
    refine XS.aloadN X169.here hx rfl (hb hby d10_15) rfl rfl ?_
    show Steps p.tables e below (T169.setTop (mkF m 16 #[.val (.ref o0), .val (.ref o1), .val (.ref b150), .val (.int (0 : Int32))] [(.ref o0)])) t
    refine XS.iloadN X169.here hx rfl (hb hby d10_16) rfl ?_
    show Steps p.tables e below (T169.setTop (mkF m 17 #[.val (.ref o0), .val (.ref o1), .val (.ref b150), .val (.int (0 : Int32))] [(.int (0 : Int32)), (.ref o0)])) t
    refine XS.iconst X169.here hx rfl (hb hby d10_17) ?_
    show Steps p.tables e below (T169.setTop (mkF m 18 #[.val (.ref o0), .val (.ref o1), .val (.ref b150), .val (.int (0 : Int32))] [(.int (1 : Int32)), (.int (0 : Int32)), (.ref o0)])) t
    refine XS.iadd X169.here hx rfl (hb hby d10_18) rfl ?_
    exact k
  obtain ⟨T181, h181, X181, e181, W181, st181⟩ := putF X169 hx hZ hown (host := "") (Or.inl (hw _ (List.mem_of_getElem? (i := 57) rfl))) Via.refl e169 f175 f172 (Or.inl (hw _ (List.mem_of_getElem? (i := 58) rfl))) (hw _ (List.mem_of_getElem? (i := 27) rfl)) (ty := .int) (by decide) rfl rfl (g := (mkF m 19 #[.val (.ref o0), .val (.ref o1), .val (.ref b150), .val (.int (0 : Int32))] [(.int (1 : Int32)), (.ref o0)])) rfl rfl (hb hby d10_19)
  have f182 : own_Len Z h181 w_s_DEFAULTCAPACITY_EMPTY_ELEMENTDATA (.object "java/lang/Object") (0 : Int32) := f170.other W181 (Ne.symm (own_neL f172 f170 (hw _ (List.mem_of_getElem? (i := 27) rfl))))
  have f183 : Sta Z h181 "java/util/ArrayList" "DEFAULTCAPACITY_EMPTY_ELEMENTDATA" "[Ljava/lang/Object;" (.ref w_s_DEFAULTCAPACITY_EMPTY_ELEMENTDATA) := f171.wr W181
  have f184 : Exa Z h181 o0 "java/util/ArrayList" := f172.wr W181
  have f185 : Exa Z h181 o1 "java/lang/String" := f173.wr W181
  have f186 : Fld Z h181 o0 "java/util/AbstractList" "modCount" "I" (.int w_o0_modCount) := f174.other W181 (Or.inr (slot_ne (Or.inl (hw _ (List.mem_of_getElem? (i := 46) rfl))) (Or.inl (hw _ (List.mem_of_getElem? (i := 58) rfl))) (by decide) (t := .int) (t' := .int) (by decide) (by decide)))
  have f187 : Fld Z h181 o0 "java/util/ArrayList" "elementData" "[Ljava/lang/Object;" (.ref b150) := f176.other W181 (Or.inr (slot_ne (Or.inl (hw _ (List.mem_of_getElem? (i := 49) rfl))) (Or.inl (hw _ (List.mem_of_getElem? (i := 58) rfl))) (by decide) (t := (.array (.object "java/lang/Object"))) (t' := .int) (by decide) (by decide)))
  have f188 : own_ArvR Z h181 b150 "java/lang/Object" (10 : Int32) [(.ref o1), .null, .null, .null, .null, .null, .null, .null, .null, .null] := v177.other W181 (Ne.symm ne161)
  have f189 : Fld Z h181 o0 "java/util/ArrayList" "size" "I" (.int (1 : Int32)) := f175.same W181
  have N190 := Fr.snoc X181 N178 g_o0
  have Z191 : n0 ≤ h181.size := Nat.le_trans Z179 (Keep.of_wr W181).1
  have K192 : Keep h0 h181 [o0] := K180.wr W181 (Or.inl (List.mem_of_getElem? (i := 0) rfl))
  refine own_go st181 ?_
  obtain ⟨fs, hr, hrun, hended, hW, hsame⟩ := X181.leave (v := none) (fun _ => rfl)
  refine own_end (v := none) ?_ hrun hended ?_ hW (hsame.mono (by decide) (by decide))
  · show Steps p.tables e below (T181.setTop (mkF m 22 #[.val (.ref o0), .val (.ref o1), .val (.ref b150), .val (.int (0 : Int32))] [])) _
    exact X181.returnOut hx Bd.returns (hb hby d10_22) hr
  · show QaddI0 Z o0 o1 w_s_DEFAULTCAPACITY_EMPTY_ELEMENTDATA w_o0_modCount h0 n0 _ T181.heap _
    rw [e181]
    exact ⟨b150, rfl, N190, K192, sz_b150, f184, f186, f187, f189, f188⟩
theorem d9_0 : decode jdk_38_method_25_code 0 = .ok (.aload_n 0, 1) := by decide +kernel
theorem d9_1 : decode jdk_38_method_25_code 1 = .ok (.dup, 1) := by decide +kernel
theorem d9_2 : decode jdk_38_method_25_code 2 = .ok (.getfield 63, 3) := by decide +kernel
theorem d9_5 : decode jdk_38_method_25_code 5 = .ok (.iconst 1, 1) := by decide +kernel
theorem d9_6 : decode jdk_38_method_25_code 6 = .ok (.iadd, 1) := by decide +kernel
theorem d9_7 : decode jdk_38_method_25_code 7 = .ok (.putfield 63, 3) := by decide +kernel
theorem d9_10 : decode jdk_38_method_25_code 10 = .ok (.aload_n 0, 1) := by decide +kernel
theorem d9_11 : decode jdk_38_method_25_code 11 = .ok (.aload_n 1, 1) := by decide +kernel
theorem d9_12 : decode jdk_38_method_25_code 12 = .ok (.aload_n 0, 1) := by decide +kernel
theorem d9_13 : decode jdk_38_method_25_code 13 = .ok (.getfield 9, 3) := by decide +kernel
theorem d9_16 : decode jdk_38_method_25_code 16 = .ok (.aload_n 0, 1) := by decide +kernel
theorem d9_17 : decode jdk_38_method_25_code 17 = .ok (.getfield 48, 3) := by decide +kernel
theorem d9_20 : decode jdk_38_method_25_code 20 = .ok (.invokevirtual 131, 3) := by decide +kernel
theorem pd_125 : parseMethodDescriptor "(Ljava/lang/Object;[Ljava/lang/Object;I)V" = some ⟨[(.object "java/lang/Object"), (.array (.object "java/lang/Object")), .int], none⟩ := by decide +kernel
theorem d9_23 : decode jdk_38_method_25_code 23 = .ok (.iconst 1, 1) := by decide +kernel
theorem d9_24 : decode jdk_38_method_25_code 24 = .ok (.ireturn, 1) := by decide +kernel
theorem ef_add0 (m : MethodId) (x0 : Addr) (x1 : Addr) : entryFrame m #[(.ref x0), (.ref x1)] 2 = mkF m 0 #[.val (.ref x0), .val (.ref x1)] [] := by first | (simp [entryFrame, mkF, argsToLocals, Value.category]; done) | rfl
def Qadd0 (Z : State) (o0 : Addr) (o1 : Addr) (w_s_DEFAULTCAPACITY_EMPTY_ELEMENTDATA : Addr) (w_o0_modCount : Int32) (h0 : Heap) (n0 : Nat) (v : Option Value) (h : Heap) (L : List Loc) : Prop := ∃ x0_ : Addr, v = some (.int (1 : Int32)) ∧ Fr n0 L ∧ Keep h0 h [o0] ∧ h0.size ≤ x0_ ∧ Exa Z h o0 "java/util/ArrayList" ∧ Fld Z h o0 "java/util/AbstractList" "modCount" "I" (.int (w_o0_modCount + (1 : Int32))) ∧ Fld Z h o0 "java/util/ArrayList" "elementData" "[Ljava/lang/Object;" (.ref x0_) ∧ Fld Z h o0 "java/util/ArrayList" "size" "I" (.int (1 : Int32)) ∧ own_ArvR Z h x0_ "java/lang/Object" (10 : Int32) [(.ref o1), .null, .null, .null, .null, .null, .null, .null, .null, .null]
set_option maxRecDepth 65536 in
set_option maxHeartbeats 40000000 in
theorem add0 (l : Launch) (Z : State) (a0 : Array Value) (hw : ∀ d ∈ tables_1, d.before a0 Z = true) (ws : List Jvm.Cond) (o0 : Addr) (o1 : Addr) (w_s_DEFAULTCAPACITY_EMPTY_ELEMENTDATA : Addr) (w_o0_modCount : Int32) (h0 : Heap) (n0 : Nat) (Z0 : n0 ≤ h0.size) (F_o0_modCount : Fld Z h0 o0 "java/util/AbstractList" "modCount" "I" (.int w_o0_modCount)) (E_o0 : Exa Z h0 o0 "java/util/ArrayList") (g_o0 : n0 ≤ o0) (F_o0_elementData : Fld Z h0 o0 "java/util/ArrayList" "elementData" "[Ljava/lang/Object;" (.ref w_s_DEFAULTCAPACITY_EMPTY_ELEMENTDATA)) (F_o0_size : Fld Z h0 o0 "java/util/ArrayList" "size" "I" (.int (0 : Int32))) (L_w_s_DEFAULTCAPACITY_EMPTY_ELEMENTDATA : own_Len Z h0 w_s_DEFAULTCAPACITY_EMPTY_ELEMENTDATA (.object "java/lang/Object") (0 : Int32)) (S_DEFAULTCAPACITY_EMPTY_ELEMENTDATA : Sta Z h0 "java/util/ArrayList" "DEFAULTCAPACITY_EMPTY_ELEMENTDATA" "[Ljava/lang/Object;" (.ref w_s_DEFAULTCAPACITY_EMPTY_ELEMENTDATA)) (E_o1 : Exa Z h0 o1 "java/lang/String") :
    MetFree l (⟨"java/util/ArrayList", "add", "(Ljava/lang/Object;)Z"⟩ : MethodName) (head1 (Jvm.Cond.code (⟨"java/util/ArrayList", "add", "(Ljava/lang/Object;)Z"⟩ : MethodName) jdk_38_method_25_code 2 (some .boolean) :: ws) ({ frames := 4, cells := 1, slots := 10, locals := 56 } : Room)) (fun a U => a = #[(.ref o0), (.ref o1)] ∧ Z.Warmed39 U.vm ∧ U.heap = h0) (fun _ _ _ _ _ => True) (fun _ U o U' => ∃ v L, o = .returned v ∧ Qadd0 Z o0 o1 w_s_DEFAULTCAPACITY_EMPTY_ELEMENTDATA w_o0_modCount h0 n0 v U'.heap L ∧ FrameEnd U o U' L ({ frames := 4, cells := 1, slots := 10, locals := 56 } : Room).cells ({ frames := 4, cells := 1, slots := 10, locals := 56 } : Room).slots) := by
  refine MetFree.of_bodySF (plainFor_of_name pn_59) hisR ?_
  intro p e s m args below meth c s₁ Bd hml0 hP hK
  obtain ⟨rfl, hZ, hh⟩ := hP
  have hx := Bd.exec
  have hby := Bd.bytes
  have hml : c.maxLocals = 2 := hml0
  have hown : s.vm.findClass "java/util/ArrayList" = some m.cls := findClass_of_methodNamed Bd.named
  have hnm := (name_of_methodNamed Bd.named Bd.method).1
  have X0 : Stand p l e ({ frames := 4, cells := 1, slots := 10, locals := 56 } : Room) s m #[(.ref o0), (.ref o1)] below meth c s₁ [] 0 0 := Stand.of_body Bd
  have e0 : s₁.heap = h0 := by rw [← hh, Bd.state]; rfl
  have N0 := Fr.nil n0
  show own_Go p e below s (Qadd0 Z o0 o1 w_s_DEFAULTCAPACITY_EMPTY_ELEMENTDATA w_o0_modCount h0 n0) ({ frames := 4, cells := 1, slots := 10, locals := 56 } : Room).cells ({ frames := 4, cells := 1, slots := 10, locals := 56 } : Room).slots (s₁.setTop (entryFrame m #[(.ref o0), (.ref o1)] 2))
  rw [ef_add0 m o0 o1]
  have K0 : Keep h0 h0 [o0] := Keep.refl h0 [o0]
  refine own_go (S' := s₁.setTop (mkF m 2 #[.val (.ref o0), .val (.ref o1)] [(.ref o0), (.ref o0)])) (fun t k => ?_) ?_
  · show Steps p.tables e below (s₁.setTop (mkF m 0 #[.val (.ref o0), .val (.ref o1)] [])) t
    refine XS.aloadN X0.here hx rfl (hb hby d9_0) rfl rfl ?_
    show Steps p.tables e below (s₁.setTop (mkF m 1 #[.val (.ref o0), .val (.ref o1)] [(.ref o0)])) t
    refine XS.dup X0.here hx rfl (hb hby d9_1) rfl rfl ?_
    exact k
  obtain ⟨T193, X193, e193, st193⟩ := getF X0 hx hZ hown (host := "") (Or.inl (hw _ (List.mem_of_getElem? (i := 55) rfl))) (Via.of (hw _ (List.mem_of_getElem? (i := 56) rfl))) e0 F_o0_modCount (g := (mkF m 2 #[.val (.ref o0), .val (.ref o1)] [(.ref o0), (.ref o0)])) rfl rfl (hb hby d9_2)
  refine own_go st193 ?_
  refine own_go (S' := T193.setTop (mkF m 7 #[.val (.ref o0), .val (.ref o1)] [(.int (w_o0_modCount + (1 : Int32))), (.ref o0)])) (fun t k => ?_) ?_
  · show Steps p.tables e below (T193.setTop (mkF m 5 #[.val (.ref o0), .val (.ref o1)] [(.int w_o0_modCount), (.ref o0)])) t
    refine XS.iconst X193.here hx rfl (hb hby d9_5) ?_
    show Steps p.tables e below (T193.setTop (mkF m 6 #[.val (.ref o0), .val (.ref o1)] [(.int (1 : Int32)), (.int w_o0_modCount), (.ref o0)])) t
    refine XS.iadd X193.here hx rfl (hb hby d9_6) rfl ?_
    exact k
  obtain ⟨T194, h194, X194, e194, W194, st194⟩ := putF X193 hx hZ hown (host := "") (Or.inl (hw _ (List.mem_of_getElem? (i := 55) rfl))) (Via.of (hw _ (List.mem_of_getElem? (i := 56) rfl))) e193 F_o0_modCount E_o0 (Or.inl (hw _ (List.mem_of_getElem? (i := 46) rfl))) (hw _ (List.mem_of_getElem? (i := 27) rfl)) (ty := .int) (by decide) rfl rfl (g := (mkF m 7 #[.val (.ref o0), .val (.ref o1)] [(.int (w_o0_modCount + (1 : Int32))), (.ref o0)])) rfl rfl (hb hby d9_7)
  have f195 : Exa Z h194 o0 "java/util/ArrayList" := E_o0.wr W194
  have f196 : Fld Z h194 o0 "java/util/ArrayList" "elementData" "[Ljava/lang/Object;" (.ref w_s_DEFAULTCAPACITY_EMPTY_ELEMENTDATA) := F_o0_elementData.other W194 (Or.inr (slot_ne (Or.inl (hw _ (List.mem_of_getElem? (i := 49) rfl))) (Or.inl (hw _ (List.mem_of_getElem? (i := 46) rfl))) (by decide) (t := (.array (.object "java/lang/Object"))) (t' := .int) (by decide) (by decide)))
  have f197 : Fld Z h194 o0 "java/util/ArrayList" "size" "I" (.int (0 : Int32)) := F_o0_size.other W194 (Or.inr (slot_ne (Or.inl (hw _ (List.mem_of_getElem? (i := 58) rfl))) (Or.inl (hw _ (List.mem_of_getElem? (i := 46) rfl))) (by decide) (t := .int) (t' := .int) (by decide) (by decide)))
  have f198 : own_Len Z h194 w_s_DEFAULTCAPACITY_EMPTY_ELEMENTDATA (.object "java/lang/Object") (0 : Int32) := L_w_s_DEFAULTCAPACITY_EMPTY_ELEMENTDATA.other W194 (Ne.symm (own_neL E_o0 L_w_s_DEFAULTCAPACITY_EMPTY_ELEMENTDATA (hw _ (List.mem_of_getElem? (i := 27) rfl))))
  have f199 : Sta Z h194 "java/util/ArrayList" "DEFAULTCAPACITY_EMPTY_ELEMENTDATA" "[Ljava/lang/Object;" (.ref w_s_DEFAULTCAPACITY_EMPTY_ELEMENTDATA) := S_DEFAULTCAPACITY_EMPTY_ELEMENTDATA.wr W194
  have f200 : Exa Z h194 o1 "java/lang/String" := E_o1.wr W194
  have f201 : Fld Z h194 o0 "java/util/AbstractList" "modCount" "I" (.int (w_o0_modCount + (1 : Int32))) := F_o0_modCount.same W194
  have N202 := Fr.snoc X194 N0 g_o0
  have Z203 : n0 ≤ h194.size := Nat.le_trans Z0 (Keep.of_wr W194).1
  have K204 : Keep h0 h194 [o0] := K0.wr W194 (Or.inl (List.mem_of_getElem? (i := 0) rfl))
  refine own_go st194 ?_
  refine own_go (S' := T194.setTop (mkF m 13 #[.val (.ref o0), .val (.ref o1)] [(.ref o0), (.ref o1), (.ref o0)])) (fun t k => ?_) ?_
  · show Steps p.tables e below (T194.setTop (mkF m 10 #[.val (.ref o0), .val (.ref o1)] [])) t
    refine XS.aloadN X194.here hx rfl (hb hby d9_10) rfl rfl ?_
    show Steps p.tables e below (T194.setTop (mkF m 11 #[.val (.ref o0), .val (.ref o1)] [(.ref o0)])) t
    refine XS.aloadN X194.here hx rfl (hb hby d9_11) rfl rfl ?_
    show Steps p.tables e below (T194.setTop (mkF m 12 #[.val (.ref o0), .val (.ref o1)] [(.ref o1), (.ref o0)])) t
    refine XS.aloadN X194.here hx rfl (hb hby d9_12) rfl rfl ?_
    exact k
  obtain ⟨T205, X205, e205, st205⟩ := getF X194 hx hZ hown (host := "") (Or.inl (hw _ (List.mem_of_getElem? (i := 48) rfl))) Via.refl e194 f196 (g := (mkF m 13 #[.val (.ref o0), .val (.ref o1)] [(.ref o0), (.ref o1), (.ref o0)])) rfl rfl (hb hby d9_13)
  refine own_go st205 ?_
  refine own_go (S' := T205.setTop (mkF m 17 #[.val (.ref o0), .val (.ref o1)] [(.ref o0), (.ref w_s_DEFAULTCAPACITY_EMPTY_ELEMENTDATA), (.ref o1), (.ref o0)])) (fun t k => ?_) ?_
  · show Steps p.tables e below (T205.setTop (mkF m 16 #[.val (.ref o0), .val (.ref o1)] [(.ref w_s_DEFAULTCAPACITY_EMPTY_ELEMENTDATA), (.ref o1), (.ref o0)])) t
    refine XS.aloadN X205.here hx rfl (hb hby d9_16) rfl rfl ?_
    exact k
  obtain ⟨T206, X206, e206, st206⟩ := getF X205 hx hZ hown (host := "") (Or.inl (hw _ (List.mem_of_getElem? (i := 57) rfl))) Via.refl e205 f197 (g := (mkF m 17 #[.val (.ref o0), .val (.ref o1)] [(.ref o0), (.ref w_s_DEFAULTCAPACITY_EMPTY_ELEMENTDATA), (.ref o1), (.ref o0)])) rfl rfl (hb hby d9_17)
  refine own_go st206 ?_
  obtain ⟨cq207, qa207, qb207⟩ := f195.cell
  obtain ⟨_, _, ⟨T207, L207, kk207, nn207⟩, -, X207, ⟨Lc207, hQ207, l207, y207, z207⟩, st207⟩ := X206.privateBack hx (y := (⟨"java/util/ArrayList", "add", "(Ljava/lang/Object;[Ljava/lang/Object;I)V"⟩ : MethodName)) hown (mvT hZ (hw _ (List.mem_of_getElem? (i := 59) rfl))) (mvT hZ (hw _ (List.mem_of_getElem? (i := 60) rfl))) (mvT hZ (hw _ (List.mem_of_getElem? (i := 62) rfl))) (Cond.privateMethod_at (mvP hZ (hw _ (List.mem_of_getElem? (i := 61) rfl)) (args := #[]))) (mvT hZ (hw _ (List.mem_of_getElem? (i := 63) rfl))) (by decide) (backOf (W := 0) (addI0 l Z a0 hw [] o0 o1 w_s_DEFAULTCAPACITY_EMPTY_ELEMENTDATA (w_o0_modCount + (1 : Int32)) h194 n0 Z203 f198 f197 f196 f199 f195 g_o0 f201 f200) hZ (hw _ (List.mem_of_getElem? (i := 63) rfl)) (hw _ (List.mem_of_getElem? (i := 28) rfl)) (by decide) (by decide)) (g := (mkF m 20 #[.val (.ref o0), .val (.ref o1)] [(.int (0 : Int32)), (.ref w_s_DEFAULTCAPACITY_EMPTY_ELEMENTDATA), (.ref o1), (.ref o0)])) rfl (by rw [hml]; rfl) (Steps.refl _) (a := o0) (by (try rw [e206]); exact qa207) qb207 (argsL := [(.ref o1), (.ref w_s_DEFAULTCAPACITY_EMPTY_ELEMENTDATA), (.int (0 : Int32))]) (rest := []) (lenOf pd_125 rfl) rfl (by show 2 * 0 + _ ≤ _; exact Nat.le_of_eq rfl) (hb hby d9_20) (fun _ _ => ⟨rfl, e206, (by decide : 0 + 1 ≤ _), (by decide : 0 + 10 ≤ _)⟩)
  dsimp only [Pt.U, Pt.locs, Pt.cells, Pt.slots] at X207 l207 y207 z207 st207 hQ207
  subst l207 y207 z207
  obtain ⟨b208, rfl, N209, K210, p211, p212, p213, p214, p215, p216⟩ := hQ207
  have N217 := Fr.app N202 N209
  have ne218 : o0 ≠ b208 := Nat.ne_of_lt (Nat.lt_of_lt_of_le f195.lt p211)
  have ne219 : w_s_DEFAULTCAPACITY_EMPTY_ELEMENTDATA ≠ b208 := Nat.ne_of_lt (Nat.lt_of_lt_of_le f198.lt p211)
  have ne220 : o1 ≠ b208 := Nat.ne_of_lt (Nat.lt_of_lt_of_le f200.lt p211)
  have g_b208 : n0 ≤ b208 := Nat.le_trans Z203 p211
  have sz_b208 : h0.size ≤ b208 := Nat.le_trans K204.1 p211
  have f221 : Exa Z T207.heap o0 "java/util/ArrayList" := f195.keep K210
  have f222 : own_Len Z T207.heap w_s_DEFAULTCAPACITY_EMPTY_ELEMENTDATA (.object "java/lang/Object") (0 : Int32) := f198.keep K210 (ninS (Ne.symm (own_neL f195 f198 (hw _ (List.mem_of_getElem? (i := 27) rfl)))) nin0)
  have f223 : Sta Z T207.heap "java/util/ArrayList" "DEFAULTCAPACITY_EMPTY_ELEMENTDATA" "[Ljava/lang/Object;" (.ref w_s_DEFAULTCAPACITY_EMPTY_ELEMENTDATA) := own_sta_keep f199 K210 (allS (own_plain f195) all0)
  have f224 : Exa Z T207.heap o1 "java/lang/String" := f200.keep K210
  have Z225 : n0 ≤ T207.heap.size := Nat.le_trans Z203 K210.1
  have K226 : Keep h0 T207.heap [o0] := K204.trans K210 (allS (Or.inl (List.mem_of_getElem? (i := 0) rfl)) all0)
  refine own_goT st207 ?_
  refine own_go (S' := T207.setTop (mkF m 24 #[.val (.ref o0), .val (.ref o1)] [(.int (1 : Int32))])) (fun t k => ?_) ?_
  · show Steps p.tables e below (T207.setTop (mkF m 23 #[.val (.ref o0), .val (.ref o1)] [])) t
    refine XS.iconst X207.here hx rfl (hb hby d9_23) ?_
    exact k
  obtain ⟨fs, hr, hrun, hended, hW, hsame⟩ := X207.leave (v := some (.int (1 : Int32))) (fun h => by rw [Bd.returns] at h; cases h)
  refine own_end (v := some (.int (1 : Int32))) ?_ hrun hended ?_ hW (hsame.mono (by decide) (by decide))
  · show Steps p.tables e below (T207.setTop (mkF m 24 #[.val (.ref o0), .val (.ref o1)] [(.int (1 : Int32))])) _
    exact retN X207 hx (t := .boolean) Bd.returns (by simp) (hb hby d9_24) hr
  · show Qadd0 Z o0 o1 w_s_DEFAULTCAPACITY_EMPTY_ELEMENTDATA w_o0_modCount h0 n0 _ T207.heap _
    exact ⟨b208, rfl, N217, K226, sz_b208, p212, p213, p214, p215, p216⟩
theorem ef_addI1 (m : MethodId) (x0 : Addr) (x1 : Addr) (x2 : Addr) : entryFrame m #[(.ref x0), (.ref x1), (.ref x2), (.int (1 : Int32))] 4 = mkF m 0 #[.val (.ref x0), .val (.ref x1), .val (.ref x2), .val (.int (1 : Int32))] [] := by first | (simp [entryFrame, mkF, argsToLocals, Value.category]; done) | rfl
def QaddI1 (Z : State) (o0 : Addr) (o1 : Addr) (o2 : Addr) (u0 : Value) (u1 : Value) (u2 : Value) (u3 : Value) (u4 : Value) (u5 : Value) (u6 : Value) (u7 : Value) (u8 : Value) (u9 : Value) (w_o0_modCount : Int32) (w_o0_elementData : Value) (h0 : Heap) (n0 : Nat) (v : Option Value) (h : Heap) (L : List Loc) : Prop := v = none ∧ Fr n0 L ∧ Keep h0 h [o2, o0] ∧ own_ArvR Z h o2 "java/lang/Object" (10 : Int32) [u0, (.ref o1), u2, u3, u4, u5, u6, u7, u8, u9] ∧ Exa Z h o0 "java/util/ArrayList" ∧ Fld Z h o0 "java/util/AbstractList" "modCount" "I" (.int w_o0_modCount) ∧ Fld Z h o0 "java/util/ArrayList" "elementData" "[Ljava/lang/Object;" w_o0_elementData ∧ Fld Z h o0 "java/util/ArrayList" "size" "I" (.int (2 : Int32))
set_option maxRecDepth 65536 in
set_option maxHeartbeats 40000000 in
theorem addI1 (l : Launch) (Z : State) (a0 : Array Value) (hw : ∀ d ∈ tables_1, d.before a0 Z = true) (ws : List Jvm.Cond) (o0 : Addr) (o1 : Addr) (o2 : Addr) (u0 : Value) (u1 : Value) (u2 : Value) (u3 : Value) (u4 : Value) (u5 : Value) (u6 : Value) (u7 : Value) (u8 : Value) (u9 : Value) (w_o0_modCount : Int32) (w_o0_elementData : Value) (h0 : Heap) (n0 : Nat) (Z0 : n0 ≤ h0.size) (B_o2 : own_ArvR Z h0 o2 "java/lang/Object" (10 : Int32) [u0, u1, u2, u3, u4, u5, u6, u7, u8, u9]) (g_o2 : n0 ≤ o2) (E_o1 : Exa Z h0 o1 "java/lang/String") (E_o0 : Exa Z h0 o0 "java/util/ArrayList") (F_o0_modCount : Fld Z h0 o0 "java/util/AbstractList" "modCount" "I" (.int w_o0_modCount)) (F_o0_elementData : Fld Z h0 o0 "java/util/ArrayList" "elementData" "[Ljava/lang/Object;" w_o0_elementData) (F_o0_size : Fld Z h0 o0 "java/util/ArrayList" "size" "I" (.int (1 : Int32))) (ne_o0_o2 : o0 ≠ o2) (g_o0 : n0 ≤ o0) :
    MetFree l (⟨"java/util/ArrayList", "add", "(Ljava/lang/Object;[Ljava/lang/Object;I)V"⟩ : MethodName) (head1 (Jvm.Cond.code (⟨"java/util/ArrayList", "add", "(Ljava/lang/Object;[Ljava/lang/Object;I)V"⟩ : MethodName) jdk_38_method_24_code 4 none :: ws) ({ frames := 0, cells := 0, slots := 0, locals := 0 } : Room)) (fun a U => a = #[(.ref o0), (.ref o1), (.ref o2), (.int (1 : Int32))] ∧ Z.Warmed39 U.vm ∧ U.heap = h0) (fun _ _ _ _ _ => True) (fun _ U o U' => ∃ v L, o = .returned v ∧ QaddI1 Z o0 o1 o2 u0 u1 u2 u3 u4 u5 u6 u7 u8 u9 w_o0_modCount w_o0_elementData h0 n0 v U'.heap L ∧ FrameEnd U o U' L ({ frames := 0, cells := 0, slots := 0, locals := 0 } : Room).cells ({ frames := 0, cells := 0, slots := 0, locals := 0 } : Room).slots) := by
  refine MetFree.of_bodySF (plainFor_of_name pn_59) hisR ?_
  intro p e s m args below meth c s₁ Bd hml0 hP hK
  obtain ⟨rfl, hZ, hh⟩ := hP
  have hx := Bd.exec
  have hby := Bd.bytes
  have hml : c.maxLocals = 4 := hml0
  have hown : s.vm.findClass "java/util/ArrayList" = some m.cls := findClass_of_methodNamed Bd.named
  have hnm := (name_of_methodNamed Bd.named Bd.method).1
  have X0 : Stand p l e ({ frames := 0, cells := 0, slots := 0, locals := 0 } : Room) s m #[(.ref o0), (.ref o1), (.ref o2), (.int (1 : Int32))] below meth c s₁ [] 0 0 := Stand.of_body Bd
  have e0 : s₁.heap = h0 := by rw [← hh, Bd.state]; rfl
  have N0 := Fr.nil n0
  show own_Go p e below s (QaddI1 Z o0 o1 o2 u0 u1 u2 u3 u4 u5 u6 u7 u8 u9 w_o0_modCount w_o0_elementData h0 n0) ({ frames := 0, cells := 0, slots := 0, locals := 0 } : Room).cells ({ frames := 0, cells := 0, slots := 0, locals := 0 } : Room).slots (s₁.setTop (entryFrame m #[(.ref o0), (.ref o1), (.ref o2), (.int (1 : Int32))] 4))
  rw [ef_addI1 m o0 o1 o2]
  have K0 : Keep h0 h0 [o2, o0] := Keep.refl h0 [o2, o0]
  obtain ⟨kq227, ⟨cl227, Ar227, q227, S227, Nn227, Hh227, G227⟩, Ov227⟩ := id B_o2
  refine own_go (S' := s₁.setTop (mkF m 14 #[.val (.ref o0), .val (.ref o1), .val (.ref o2), .val (.int (1 : Int32))] [(.ref o1), (.int (1 : Int32)), (.ref o2)])) (fun t k => ?_) ?_
  · show Steps p.tables e below (s₁.setTop (mkF m 0 #[.val (.ref o0), .val (.ref o1), .val (.ref o2), .val (.int (1 : Int32))] [])) t
    refine XS.iloadN X0.here hx rfl (hb hby d10_0) rfl ?_
    show Steps p.tables e below (s₁.setTop (mkF m 1 #[.val (.ref o0), .val (.ref o1), .val (.ref o2), .val (.int (1 : Int32))] [(.int (1 : Int32))])) t
    refine XS.aloadN X0.here hx rfl (hb hby d10_1) rfl rfl ?_
    show Steps p.tables e below (s₁.setTop (mkF m 2 #[.val (.ref o0), .val (.ref o1), .val (.ref o2), .val (.int (1 : Int32))] [(.ref o2), (.int (1 : Int32))])) t
    refine X0.arraylength hx (by (try rw [e0]); exact Ar227.1) (State.isArrayOf_alike hZ.alike Ar227.2.1) (g := (mkF m 2 #[.val (.ref o0), .val (.ref o1), .val (.ref o2), .val (.int (1 : Int32))] [(.ref o2), (.int (1 : Int32))])) rfl rfl (hb hby d10_2) _ ?_
    rw [len_of S227 Nn227]
    show Steps p.tables e below (s₁.setTop (mkF m 3 #[.val (.ref o0), .val (.ref o1), .val (.ref o2), .val (.int (1 : Int32))] [(.int (10 : Int32)), (.int (1 : Int32))])) t
    refine XS.icmpYes X0.here hx rfl (pc0 := 3) (pc' := 11) rfl (hb hby d10_3) rfl (feq (by decide)).2 (by decide) (by decide) ?_
    show Steps p.tables e below (s₁.setTop (mkF m 11 #[.val (.ref o0), .val (.ref o1), .val (.ref o2), .val (.int (1 : Int32))] [])) t
    refine XS.aloadN X0.here hx rfl (hb hby d10_11) rfl rfl ?_
    show Steps p.tables e below (s₁.setTop (mkF m 12 #[.val (.ref o0), .val (.ref o1), .val (.ref o2), .val (.int (1 : Int32))] [(.ref o2)])) t
    refine XS.iloadN X0.here hx rfl (hb hby d10_12) rfl ?_
    show Steps p.tables e below (s₁.setTop (mkF m 13 #[.val (.ref o0), .val (.ref o1), .val (.ref o2), .val (.int (1 : Int32))] [(.int (1 : Int32)), (.ref o2)])) t
    refine XS.aloadN X0.here hx rfl (hb hby d10_13) rfl rfl ?_
    exact k
  obtain ⟨kq228, ⟨cl228, Ar228, q228, S228, Nn228, Hh228, G228⟩, Ov228⟩ := B_o2
  obtain ⟨T228, h228, X228, e228, W228, st228⟩ := stR X0 hx hZ e0 Ar228 (j := (1 : Int32)) (inb_of S228 ⟨by decide, by decide⟩) rfl (Sto.ofV Ar228 q228 Ov228 (Ins.of_exa E_o1 (hw _ (List.mem_of_getElem? (i := 80) rfl)))) (g := (mkF m 14 #[.val (.ref o0), .val (.ref o1), .val (.ref o2), .val (.int (1 : Int32))] [(.ref o1), (.int (1 : Int32)), (.ref o2)])) rfl rfl (hb hby d10_14)
  have f229 : Exa Z h228 o1 "java/lang/String" := E_o1.wr W228
  have f230 : Exa Z h228 o0 "java/util/ArrayList" := E_o0.wr W228
  have f231 : Fld Z h228 o0 "java/util/AbstractList" "modCount" "I" (.int w_o0_modCount) := F_o0_modCount.other W228 (Or.inl ne_o0_o2)
  have f232 : Fld Z h228 o0 "java/util/ArrayList" "elementData" "[Ljava/lang/Object;" w_o0_elementData := F_o0_elementData.other W228 (Or.inl ne_o0_o2)
  have f233 : Fld Z h228 o0 "java/util/ArrayList" "size" "I" (.int (1 : Int32)) := F_o0_size.other W228 (Or.inl ne_o0_o2)
  have v234 : own_ArvR Z h228 o2 "java/lang/Object" (10 : Int32) [u0, (.ref o1), u2, u3, u4, u5, u6, u7, u8, u9] := ⟨_, Arv.set Ar228 q228 S228 Nn228 Hh228 G228 rfl W228 1 rfl (Nat.le_of_ble_eq_true rfl), Ov228⟩
  have N235 := Fr.snoc X228 N0 g_o2
  have Z236 : n0 ≤ h228.size := Nat.le_trans Z0 (Keep.of_wr W228).1
  have K237 : Keep h0 h228 [o2, o0] := K0.wr W228 (Or.inl (List.mem_of_getElem? (i := 0) rfl))
  refine own_go st228 ?_
  refine own_go (S' := T228.setTop (mkF m 19 #[.val (.ref o0), .val (.ref o1), .val (.ref o2), .val (.int (1 : Int32))] [(.int (2 : Int32)), (.ref o0)])) (fun t k => ?_) ?_
  · show Steps p.tables e below (T228.setTop (mkF m 15 #[.val (.ref o0), .val (.ref o1), .val (.ref o2), .val (.int (1 : Int32))] [])) t
    refine XS.aloadN X228.here hx rfl (hb hby d10_15) rfl rfl ?_
    show Steps p.tables e below (T228.setTop (mkF m 16 #[.val (.ref o0), .val (.ref o1), .val (.ref o2), .val (.int (1 : Int32))] [(.ref o0)])) t
    refine XS.iloadN X228.here hx rfl (hb hby d10_16) rfl ?_
    show Steps p.tables e below (T228.setTop (mkF m 17 #[.val (.ref o0), .val (.ref o1), .val (.ref o2), .val (.int (1 : Int32))] [(.int (1 : Int32)), (.ref o0)])) t
    refine XS.iconst X228.here hx rfl (hb hby d10_17) ?_
    show Steps p.tables e below (T228.setTop (mkF m 18 #[.val (.ref o0), .val (.ref o1), .val (.ref o2), .val (.int (1 : Int32))] [(.int (1 : Int32)), (.int (1 : Int32)), (.ref o0)])) t
    refine XS.iadd X228.here hx rfl (hb hby d10_18) rfl ?_
    exact k
  obtain ⟨T238, h238, X238, e238, W238, st238⟩ := putF X228 hx hZ hown (host := "") (Or.inl (hw _ (List.mem_of_getElem? (i := 57) rfl))) Via.refl e228 f233 f230 (Or.inl (hw _ (List.mem_of_getElem? (i := 58) rfl))) (hw _ (List.mem_of_getElem? (i := 27) rfl)) (ty := .int) (by decide) rfl rfl (g := (mkF m 19 #[.val (.ref o0), .val (.ref o1), .val (.ref o2), .val (.int (1 : Int32))] [(.int (2 : Int32)), (.ref o0)])) rfl rfl (hb hby d10_19)
  have f239 : Exa Z h238 o1 "java/lang/String" := f229.wr W238
  have f240 : Exa Z h238 o0 "java/util/ArrayList" := f230.wr W238
  have f241 : Fld Z h238 o0 "java/util/AbstractList" "modCount" "I" (.int w_o0_modCount) := f231.other W238 (Or.inr (slot_ne (Or.inl (hw _ (List.mem_of_getElem? (i := 46) rfl))) (Or.inl (hw _ (List.mem_of_getElem? (i := 58) rfl))) (by decide) (t := .int) (t' := .int) (by decide) (by decide)))
  have f242 : Fld Z h238 o0 "java/util/ArrayList" "elementData" "[Ljava/lang/Object;" w_o0_elementData := f232.other W238 (Or.inr (slot_ne (Or.inl (hw _ (List.mem_of_getElem? (i := 49) rfl))) (Or.inl (hw _ (List.mem_of_getElem? (i := 58) rfl))) (by decide) (t := (.array (.object "java/lang/Object"))) (t' := .int) (by decide) (by decide)))
  have f243 : own_ArvR Z h238 o2 "java/lang/Object" (10 : Int32) [u0, (.ref o1), u2, u3, u4, u5, u6, u7, u8, u9] := v234.other W238 (Ne.symm ne_o0_o2)
  have f244 : Fld Z h238 o0 "java/util/ArrayList" "size" "I" (.int (2 : Int32)) := f233.same W238
  have N245 := Fr.snoc X238 N235 g_o0
  have Z246 : n0 ≤ h238.size := Nat.le_trans Z236 (Keep.of_wr W238).1
  have K247 : Keep h0 h238 [o2, o0] := K237.wr W238 (Or.inl (List.mem_of_getElem? (i := 1) rfl))
  refine own_go st238 ?_
  obtain ⟨fs, hr, hrun, hended, hW, hsame⟩ := X238.leave (v := none) (fun _ => rfl)
  refine own_end (v := none) ?_ hrun hended ?_ hW (hsame.mono (by decide) (by decide))
  · show Steps p.tables e below (T238.setTop (mkF m 22 #[.val (.ref o0), .val (.ref o1), .val (.ref o2), .val (.int (1 : Int32))] [])) _
    exact X238.returnOut hx Bd.returns (hb hby d10_22) hr
  · show QaddI1 Z o0 o1 o2 u0 u1 u2 u3 u4 u5 u6 u7 u8 u9 w_o0_modCount w_o0_elementData h0 n0 _ T238.heap _
    rw [e238]
    exact ⟨rfl, N245, K247, f243, f240, f241, f242, f244⟩
theorem ef_add1 (m : MethodId) (x0 : Addr) (x1 : Addr) : entryFrame m #[(.ref x0), (.ref x1)] 2 = mkF m 0 #[.val (.ref x0), .val (.ref x1)] [] := by first | (simp [entryFrame, mkF, argsToLocals, Value.category]; done) | rfl
def Qadd1 (Z : State) (o0 : Addr) (o1 : Addr) (w_o0_modCount : Int32) (w_o0_elementData : Addr) (w_o0_elementData_0 : Value) (w_o0_elementData_1 : Value) (w_o0_elementData_2 : Value) (w_o0_elementData_3 : Value) (w_o0_elementData_4 : Value) (w_o0_elementData_5 : Value) (w_o0_elementData_6 : Value) (w_o0_elementData_7 : Value) (w_o0_elementData_8 : Value) (w_o0_elementData_9 : Value) (h0 : Heap) (n0 : Nat) (v : Option Value) (h : Heap) (L : List Loc) : Prop := v = some (.int (1 : Int32)) ∧ Fr n0 L ∧ Keep h0 h [o0, w_o0_elementData] ∧ Exa Z h o0 "java/util/ArrayList" ∧ Fld Z h o0 "java/util/AbstractList" "modCount" "I" (.int (w_o0_modCount + (1 : Int32))) ∧ Fld Z h o0 "java/util/ArrayList" "elementData" "[Ljava/lang/Object;" (.ref w_o0_elementData) ∧ Fld Z h o0 "java/util/ArrayList" "size" "I" (.int (2 : Int32)) ∧ own_ArvR Z h w_o0_elementData "java/lang/Object" (10 : Int32) [w_o0_elementData_0, (.ref o1), w_o0_elementData_2, w_o0_elementData_3, w_o0_elementData_4, w_o0_elementData_5, w_o0_elementData_6, w_o0_elementData_7, w_o0_elementData_8, w_o0_elementData_9]
set_option maxRecDepth 65536 in
set_option maxHeartbeats 40000000 in
theorem add1 (l : Launch) (Z : State) (a0 : Array Value) (hw : ∀ d ∈ tables_1, d.before a0 Z = true) (ws : List Jvm.Cond) (o0 : Addr) (o1 : Addr) (w_o0_modCount : Int32) (w_o0_elementData : Addr) (w_o0_elementData_0 : Value) (w_o0_elementData_1 : Value) (w_o0_elementData_2 : Value) (w_o0_elementData_3 : Value) (w_o0_elementData_4 : Value) (w_o0_elementData_5 : Value) (w_o0_elementData_6 : Value) (w_o0_elementData_7 : Value) (w_o0_elementData_8 : Value) (w_o0_elementData_9 : Value) (h0 : Heap) (n0 : Nat) (Z0 : n0 ≤ h0.size) (F_o0_modCount : Fld Z h0 o0 "java/util/AbstractList" "modCount" "I" (.int w_o0_modCount)) (E_o0 : Exa Z h0 o0 "java/util/ArrayList") (g_o0 : n0 ≤ o0) (F_o0_elementData : Fld Z h0 o0 "java/util/ArrayList" "elementData" "[Ljava/lang/Object;" (.ref w_o0_elementData)) (F_o0_size : Fld Z h0 o0 "java/util/ArrayList" "size" "I" (.int (1 : Int32))) (B_w_o0_elementData : own_ArvR Z h0 w_o0_elementData "java/lang/Object" (10 : Int32) [w_o0_elementData_0, w_o0_elementData_1, w_o0_elementData_2, w_o0_elementData_3, w_o0_elementData_4, w_o0_elementData_5, w_o0_elementData_6, w_o0_elementData_7, w_o0_elementData_8, w_o0_elementData_9]) (g_w_o0_elementData : n0 ≤ w_o0_elementData) (E_o1 : Exa Z h0 o1 "java/lang/String") :
    MetFree l (⟨"java/util/ArrayList", "add", "(Ljava/lang/Object;)Z"⟩ : MethodName) (head1 (Jvm.Cond.code (⟨"java/util/ArrayList", "add", "(Ljava/lang/Object;)Z"⟩ : MethodName) jdk_38_method_25_code 2 (some .boolean) :: ws) ({ frames := 1, cells := 0, slots := 0, locals := 15 } : Room)) (fun a U => a = #[(.ref o0), (.ref o1)] ∧ Z.Warmed39 U.vm ∧ U.heap = h0) (fun _ _ _ _ _ => True) (fun _ U o U' => ∃ v L, o = .returned v ∧ Qadd1 Z o0 o1 w_o0_modCount w_o0_elementData w_o0_elementData_0 w_o0_elementData_1 w_o0_elementData_2 w_o0_elementData_3 w_o0_elementData_4 w_o0_elementData_5 w_o0_elementData_6 w_o0_elementData_7 w_o0_elementData_8 w_o0_elementData_9 h0 n0 v U'.heap L ∧ FrameEnd U o U' L ({ frames := 1, cells := 0, slots := 0, locals := 15 } : Room).cells ({ frames := 1, cells := 0, slots := 0, locals := 15 } : Room).slots) := by
  refine MetFree.of_bodySF (plainFor_of_name pn_59) hisR ?_
  intro p e s m args below meth c s₁ Bd hml0 hP hK
  obtain ⟨rfl, hZ, hh⟩ := hP
  have hx := Bd.exec
  have hby := Bd.bytes
  have hml : c.maxLocals = 2 := hml0
  have hown : s.vm.findClass "java/util/ArrayList" = some m.cls := findClass_of_methodNamed Bd.named
  have hnm := (name_of_methodNamed Bd.named Bd.method).1
  have X0 : Stand p l e ({ frames := 1, cells := 0, slots := 0, locals := 15 } : Room) s m #[(.ref o0), (.ref o1)] below meth c s₁ [] 0 0 := Stand.of_body Bd
  have e0 : s₁.heap = h0 := by rw [← hh, Bd.state]; rfl
  have N0 := Fr.nil n0
  show own_Go p e below s (Qadd1 Z o0 o1 w_o0_modCount w_o0_elementData w_o0_elementData_0 w_o0_elementData_1 w_o0_elementData_2 w_o0_elementData_3 w_o0_elementData_4 w_o0_elementData_5 w_o0_elementData_6 w_o0_elementData_7 w_o0_elementData_8 w_o0_elementData_9 h0 n0) ({ frames := 1, cells := 0, slots := 0, locals := 15 } : Room).cells ({ frames := 1, cells := 0, slots := 0, locals := 15 } : Room).slots (s₁.setTop (entryFrame m #[(.ref o0), (.ref o1)] 2))
  rw [ef_add1 m o0 o1]
  have K0 : Keep h0 h0 [o0, w_o0_elementData] := Keep.refl h0 [o0, w_o0_elementData]
  refine own_go (S' := s₁.setTop (mkF m 2 #[.val (.ref o0), .val (.ref o1)] [(.ref o0), (.ref o0)])) (fun t k => ?_) ?_
  · show Steps p.tables e below (s₁.setTop (mkF m 0 #[.val (.ref o0), .val (.ref o1)] [])) t
    refine XS.aloadN X0.here hx rfl (hb hby d9_0) rfl rfl ?_
    show Steps p.tables e below (s₁.setTop (mkF m 1 #[.val (.ref o0), .val (.ref o1)] [(.ref o0)])) t
    refine XS.dup X0.here hx rfl (hb hby d9_1) rfl rfl ?_
    exact k
  obtain ⟨T248, X248, e248, st248⟩ := getF X0 hx hZ hown (host := "") (Or.inl (hw _ (List.mem_of_getElem? (i := 55) rfl))) (Via.of (hw _ (List.mem_of_getElem? (i := 56) rfl))) e0 F_o0_modCount (g := (mkF m 2 #[.val (.ref o0), .val (.ref o1)] [(.ref o0), (.ref o0)])) rfl rfl (hb hby d9_2)
  refine own_go st248 ?_
  refine own_go (S' := T248.setTop (mkF m 7 #[.val (.ref o0), .val (.ref o1)] [(.int (w_o0_modCount + (1 : Int32))), (.ref o0)])) (fun t k => ?_) ?_
  · show Steps p.tables e below (T248.setTop (mkF m 5 #[.val (.ref o0), .val (.ref o1)] [(.int w_o0_modCount), (.ref o0)])) t
    refine XS.iconst X248.here hx rfl (hb hby d9_5) ?_
    show Steps p.tables e below (T248.setTop (mkF m 6 #[.val (.ref o0), .val (.ref o1)] [(.int (1 : Int32)), (.int w_o0_modCount), (.ref o0)])) t
    refine XS.iadd X248.here hx rfl (hb hby d9_6) rfl ?_
    exact k
  obtain ⟨T249, h249, X249, e249, W249, st249⟩ := putF X248 hx hZ hown (host := "") (Or.inl (hw _ (List.mem_of_getElem? (i := 55) rfl))) (Via.of (hw _ (List.mem_of_getElem? (i := 56) rfl))) e248 F_o0_modCount E_o0 (Or.inl (hw _ (List.mem_of_getElem? (i := 46) rfl))) (hw _ (List.mem_of_getElem? (i := 27) rfl)) (ty := .int) (by decide) rfl rfl (g := (mkF m 7 #[.val (.ref o0), .val (.ref o1)] [(.int (w_o0_modCount + (1 : Int32))), (.ref o0)])) rfl rfl (hb hby d9_7)
  have f250 : Exa Z h249 o0 "java/util/ArrayList" := E_o0.wr W249
  have f251 : Fld Z h249 o0 "java/util/ArrayList" "elementData" "[Ljava/lang/Object;" (.ref w_o0_elementData) := F_o0_elementData.other W249 (Or.inr (slot_ne (Or.inl (hw _ (List.mem_of_getElem? (i := 49) rfl))) (Or.inl (hw _ (List.mem_of_getElem? (i := 46) rfl))) (by decide) (t := (.array (.object "java/lang/Object"))) (t' := .int) (by decide) (by decide)))
  have f252 : Fld Z h249 o0 "java/util/ArrayList" "size" "I" (.int (1 : Int32)) := F_o0_size.other W249 (Or.inr (slot_ne (Or.inl (hw _ (List.mem_of_getElem? (i := 58) rfl))) (Or.inl (hw _ (List.mem_of_getElem? (i := 46) rfl))) (by decide) (t := .int) (t' := .int) (by decide) (by decide)))
  have f253 : own_ArvR Z h249 w_o0_elementData "java/lang/Object" (10 : Int32) [w_o0_elementData_0, w_o0_elementData_1, w_o0_elementData_2, w_o0_elementData_3, w_o0_elementData_4, w_o0_elementData_5, w_o0_elementData_6, w_o0_elementData_7, w_o0_elementData_8, w_o0_elementData_9] := B_w_o0_elementData.other W249 (Ne.symm (own_neB E_o0 B_w_o0_elementData (hw _ (List.mem_of_getElem? (i := 27) rfl))))
  have f254 : Exa Z h249 o1 "java/lang/String" := E_o1.wr W249
  have f255 : Fld Z h249 o0 "java/util/AbstractList" "modCount" "I" (.int (w_o0_modCount + (1 : Int32))) := F_o0_modCount.same W249
  have N256 := Fr.snoc X249 N0 g_o0
  have Z257 : n0 ≤ h249.size := Nat.le_trans Z0 (Keep.of_wr W249).1
  have K258 : Keep h0 h249 [o0, w_o0_elementData] := K0.wr W249 (Or.inl (List.mem_of_getElem? (i := 0) rfl))
  refine own_go st249 ?_
  refine own_go (S' := T249.setTop (mkF m 13 #[.val (.ref o0), .val (.ref o1)] [(.ref o0), (.ref o1), (.ref o0)])) (fun t k => ?_) ?_
  · show Steps p.tables e below (T249.setTop (mkF m 10 #[.val (.ref o0), .val (.ref o1)] [])) t
    refine XS.aloadN X249.here hx rfl (hb hby d9_10) rfl rfl ?_
    show Steps p.tables e below (T249.setTop (mkF m 11 #[.val (.ref o0), .val (.ref o1)] [(.ref o0)])) t
    refine XS.aloadN X249.here hx rfl (hb hby d9_11) rfl rfl ?_
    show Steps p.tables e below (T249.setTop (mkF m 12 #[.val (.ref o0), .val (.ref o1)] [(.ref o1), (.ref o0)])) t
    refine XS.aloadN X249.here hx rfl (hb hby d9_12) rfl rfl ?_
    exact k
  obtain ⟨T259, X259, e259, st259⟩ := getF X249 hx hZ hown (host := "") (Or.inl (hw _ (List.mem_of_getElem? (i := 48) rfl))) Via.refl e249 f251 (g := (mkF m 13 #[.val (.ref o0), .val (.ref o1)] [(.ref o0), (.ref o1), (.ref o0)])) rfl rfl (hb hby d9_13)
  refine own_go st259 ?_
  refine own_go (S' := T259.setTop (mkF m 17 #[.val (.ref o0), .val (.ref o1)] [(.ref o0), (.ref w_o0_elementData), (.ref o1), (.ref o0)])) (fun t k => ?_) ?_
  · show Steps p.tables e below (T259.setTop (mkF m 16 #[.val (.ref o0), .val (.ref o1)] [(.ref w_o0_elementData), (.ref o1), (.ref o0)])) t
    refine XS.aloadN X259.here hx rfl (hb hby d9_16) rfl rfl ?_
    exact k
  obtain ⟨T260, X260, e260, st260⟩ := getF X259 hx hZ hown (host := "") (Or.inl (hw _ (List.mem_of_getElem? (i := 57) rfl))) Via.refl e259 f252 (g := (mkF m 17 #[.val (.ref o0), .val (.ref o1)] [(.ref o0), (.ref w_o0_elementData), (.ref o1), (.ref o0)])) rfl rfl (hb hby d9_17)
  refine own_go st260 ?_
  obtain ⟨cq261, qa261, qb261⟩ := f250.cell
  obtain ⟨_, _, ⟨T261, L261, kk261, nn261⟩, -, X261, ⟨Lc261, hQ261, l261, y261, z261⟩, st261⟩ := X260.privateBack hx (y := (⟨"java/util/ArrayList", "add", "(Ljava/lang/Object;[Ljava/lang/Object;I)V"⟩ : MethodName)) hown (mvT hZ (hw _ (List.mem_of_getElem? (i := 59) rfl))) (mvT hZ (hw _ (List.mem_of_getElem? (i := 60) rfl))) (mvT hZ (hw _ (List.mem_of_getElem? (i := 62) rfl))) (Cond.privateMethod_at (mvP hZ (hw _ (List.mem_of_getElem? (i := 61) rfl)) (args := #[]))) (mvT hZ (hw _ (List.mem_of_getElem? (i := 63) rfl))) (by decide) (backOf (W := 0) (addI1 l Z a0 hw [] o0 o1 w_o0_elementData w_o0_elementData_0 w_o0_elementData_1 w_o0_elementData_2 w_o0_elementData_3 w_o0_elementData_4 w_o0_elementData_5 w_o0_elementData_6 w_o0_elementData_7 w_o0_elementData_8 w_o0_elementData_9 (w_o0_modCount + (1 : Int32)) (.ref w_o0_elementData) h249 n0 Z257 f253 g_w_o0_elementData f254 f250 f255 f251 f252 (own_neB f250 f253 (hw _ (List.mem_of_getElem? (i := 27) rfl))) g_o0) hZ (hw _ (List.mem_of_getElem? (i := 63) rfl)) (hw _ (List.mem_of_getElem? (i := 28) rfl)) (by decide) (by decide)) (g := (mkF m 20 #[.val (.ref o0), .val (.ref o1)] [(.int (1 : Int32)), (.ref w_o0_elementData), (.ref o1), (.ref o0)])) rfl (by rw [hml]; rfl) (Steps.refl _) (a := o0) (by (try rw [e260]); exact qa261) qb261 (argsL := [(.ref o1), (.ref w_o0_elementData), (.int (1 : Int32))]) (rest := []) (lenOf pd_125 rfl) rfl (by show 2 * 0 + _ ≤ _; exact Nat.le_of_eq rfl) (hb hby d9_20) (fun _ _ => ⟨rfl, e260, (by decide : 0 + 0 ≤ _), (by decide : 0 + 0 ≤ _)⟩)
  dsimp only [Pt.U, Pt.locs, Pt.cells, Pt.slots] at X261 l261 y261 z261 st261 hQ261
  subst l261 y261 z261
  obtain ⟨rfl, N262, K263, p264, p265, p266, p267, p268⟩ := hQ261
  have N269 := Fr.app N256 N262
  have f270 : Exa Z T261.heap o0 "java/util/ArrayList" := f250.keep K263
  have f271 : Exa Z T261.heap o1 "java/lang/String" := f254.keep K263
  have Z272 : n0 ≤ T261.heap.size := Nat.le_trans Z257 K263.1
  have K273 : Keep h0 T261.heap [o0, w_o0_elementData] := K258.trans K263 (allS (Or.inl (List.mem_of_getElem? (i := 1) rfl)) (allS (Or.inl (List.mem_of_getElem? (i := 0) rfl)) all0))
  refine own_goT st261 ?_
  refine own_go (S' := T261.setTop (mkF m 24 #[.val (.ref o0), .val (.ref o1)] [(.int (1 : Int32))])) (fun t k => ?_) ?_
  · show Steps p.tables e below (T261.setTop (mkF m 23 #[.val (.ref o0), .val (.ref o1)] [])) t
    refine XS.iconst X261.here hx rfl (hb hby d9_23) ?_
    exact k
  obtain ⟨fs, hr, hrun, hended, hW, hsame⟩ := X261.leave (v := some (.int (1 : Int32))) (fun h => by rw [Bd.returns] at h; cases h)
  refine own_end (v := some (.int (1 : Int32))) ?_ hrun hended ?_ hW (hsame.mono (by decide) (by decide))
  · show Steps p.tables e below (T261.setTop (mkF m 24 #[.val (.ref o0), .val (.ref o1)] [(.int (1 : Int32))])) _
    exact retN X261 hx (t := .boolean) Bd.returns (by simp) (hb hby d9_24) hr
  · show Qadd1 Z o0 o1 w_o0_modCount w_o0_elementData w_o0_elementData_0 w_o0_elementData_1 w_o0_elementData_2 w_o0_elementData_3 w_o0_elementData_4 w_o0_elementData_5 w_o0_elementData_6 w_o0_elementData_7 w_o0_elementData_8 w_o0_elementData_9 h0 n0 _ T261.heap _
    exact ⟨rfl, N269, K273, p265, p266, p267, p268, p264⟩
theorem ef_addI2 (m : MethodId) (x0 : Addr) (x1 : Addr) (x2 : Addr) : entryFrame m #[(.ref x0), (.ref x1), (.ref x2), (.int (2 : Int32))] 4 = mkF m 0 #[.val (.ref x0), .val (.ref x1), .val (.ref x2), .val (.int (2 : Int32))] [] := by first | (simp [entryFrame, mkF, argsToLocals, Value.category]; done) | rfl
def QaddI2 (Z : State) (o0 : Addr) (o1 : Addr) (o2 : Addr) (u0 : Value) (u1 : Value) (u2 : Value) (u3 : Value) (u4 : Value) (u5 : Value) (u6 : Value) (u7 : Value) (u8 : Value) (u9 : Value) (w_o0_modCount : Int32) (w_o0_elementData : Value) (h0 : Heap) (n0 : Nat) (v : Option Value) (h : Heap) (L : List Loc) : Prop := v = none ∧ Fr n0 L ∧ Keep h0 h [o2, o0] ∧ own_ArvR Z h o2 "java/lang/Object" (10 : Int32) [u0, u1, (.ref o1), u3, u4, u5, u6, u7, u8, u9] ∧ Exa Z h o0 "java/util/ArrayList" ∧ Fld Z h o0 "java/util/AbstractList" "modCount" "I" (.int w_o0_modCount) ∧ Fld Z h o0 "java/util/ArrayList" "elementData" "[Ljava/lang/Object;" w_o0_elementData ∧ Fld Z h o0 "java/util/ArrayList" "size" "I" (.int (3 : Int32))
set_option maxRecDepth 65536 in
set_option maxHeartbeats 40000000 in
theorem addI2 (l : Launch) (Z : State) (a0 : Array Value) (hw : ∀ d ∈ tables_1, d.before a0 Z = true) (ws : List Jvm.Cond) (o0 : Addr) (o1 : Addr) (o2 : Addr) (u0 : Value) (u1 : Value) (u2 : Value) (u3 : Value) (u4 : Value) (u5 : Value) (u6 : Value) (u7 : Value) (u8 : Value) (u9 : Value) (w_o0_modCount : Int32) (w_o0_elementData : Value) (h0 : Heap) (n0 : Nat) (Z0 : n0 ≤ h0.size) (B_o2 : own_ArvR Z h0 o2 "java/lang/Object" (10 : Int32) [u0, u1, u2, u3, u4, u5, u6, u7, u8, u9]) (g_o2 : n0 ≤ o2) (E_o1 : Exa Z h0 o1 "java/lang/String") (E_o0 : Exa Z h0 o0 "java/util/ArrayList") (F_o0_modCount : Fld Z h0 o0 "java/util/AbstractList" "modCount" "I" (.int w_o0_modCount)) (F_o0_elementData : Fld Z h0 o0 "java/util/ArrayList" "elementData" "[Ljava/lang/Object;" w_o0_elementData) (F_o0_size : Fld Z h0 o0 "java/util/ArrayList" "size" "I" (.int (2 : Int32))) (ne_o0_o2 : o0 ≠ o2) (g_o0 : n0 ≤ o0) :
    MetFree l (⟨"java/util/ArrayList", "add", "(Ljava/lang/Object;[Ljava/lang/Object;I)V"⟩ : MethodName) (head1 (Jvm.Cond.code (⟨"java/util/ArrayList", "add", "(Ljava/lang/Object;[Ljava/lang/Object;I)V"⟩ : MethodName) jdk_38_method_24_code 4 none :: ws) ({ frames := 0, cells := 0, slots := 0, locals := 0 } : Room)) (fun a U => a = #[(.ref o0), (.ref o1), (.ref o2), (.int (2 : Int32))] ∧ Z.Warmed39 U.vm ∧ U.heap = h0) (fun _ _ _ _ _ => True) (fun _ U o U' => ∃ v L, o = .returned v ∧ QaddI2 Z o0 o1 o2 u0 u1 u2 u3 u4 u5 u6 u7 u8 u9 w_o0_modCount w_o0_elementData h0 n0 v U'.heap L ∧ FrameEnd U o U' L ({ frames := 0, cells := 0, slots := 0, locals := 0 } : Room).cells ({ frames := 0, cells := 0, slots := 0, locals := 0 } : Room).slots) := by
  refine MetFree.of_bodySF (plainFor_of_name pn_59) hisR ?_
  intro p e s m args below meth c s₁ Bd hml0 hP hK
  obtain ⟨rfl, hZ, hh⟩ := hP
  have hx := Bd.exec
  have hby := Bd.bytes
  have hml : c.maxLocals = 4 := hml0
  have hown : s.vm.findClass "java/util/ArrayList" = some m.cls := findClass_of_methodNamed Bd.named
  have hnm := (name_of_methodNamed Bd.named Bd.method).1
  have X0 : Stand p l e ({ frames := 0, cells := 0, slots := 0, locals := 0 } : Room) s m #[(.ref o0), (.ref o1), (.ref o2), (.int (2 : Int32))] below meth c s₁ [] 0 0 := Stand.of_body Bd
  have e0 : s₁.heap = h0 := by rw [← hh, Bd.state]; rfl
  have N0 := Fr.nil n0
  show own_Go p e below s (QaddI2 Z o0 o1 o2 u0 u1 u2 u3 u4 u5 u6 u7 u8 u9 w_o0_modCount w_o0_elementData h0 n0) ({ frames := 0, cells := 0, slots := 0, locals := 0 } : Room).cells ({ frames := 0, cells := 0, slots := 0, locals := 0 } : Room).slots (s₁.setTop (entryFrame m #[(.ref o0), (.ref o1), (.ref o2), (.int (2 : Int32))] 4))
  rw [ef_addI2 m o0 o1 o2]
  have K0 : Keep h0 h0 [o2, o0] := Keep.refl h0 [o2, o0]
  obtain ⟨kq274, ⟨cl274, Ar274, q274, S274, Nn274, Hh274, G274⟩, Ov274⟩ := id B_o2
  refine own_go (S' := s₁.setTop (mkF m 14 #[.val (.ref o0), .val (.ref o1), .val (.ref o2), .val (.int (2 : Int32))] [(.ref o1), (.int (2 : Int32)), (.ref o2)])) (fun t k => ?_) ?_
  · show Steps p.tables e below (s₁.setTop (mkF m 0 #[.val (.ref o0), .val (.ref o1), .val (.ref o2), .val (.int (2 : Int32))] [])) t
    refine XS.iloadN X0.here hx rfl (hb hby d10_0) rfl ?_
    show Steps p.tables e below (s₁.setTop (mkF m 1 #[.val (.ref o0), .val (.ref o1), .val (.ref o2), .val (.int (2 : Int32))] [(.int (2 : Int32))])) t
    refine XS.aloadN X0.here hx rfl (hb hby d10_1) rfl rfl ?_
    show Steps p.tables e below (s₁.setTop (mkF m 2 #[.val (.ref o0), .val (.ref o1), .val (.ref o2), .val (.int (2 : Int32))] [(.ref o2), (.int (2 : Int32))])) t
    refine X0.arraylength hx (by (try rw [e0]); exact Ar274.1) (State.isArrayOf_alike hZ.alike Ar274.2.1) (g := (mkF m 2 #[.val (.ref o0), .val (.ref o1), .val (.ref o2), .val (.int (2 : Int32))] [(.ref o2), (.int (2 : Int32))])) rfl rfl (hb hby d10_2) _ ?_
    rw [len_of S274 Nn274]
    show Steps p.tables e below (s₁.setTop (mkF m 3 #[.val (.ref o0), .val (.ref o1), .val (.ref o2), .val (.int (2 : Int32))] [(.int (10 : Int32)), (.int (2 : Int32))])) t
    refine XS.icmpYes X0.here hx rfl (pc0 := 3) (pc' := 11) rfl (hb hby d10_3) rfl (feq (by decide)).2 (by decide) (by decide) ?_
    show Steps p.tables e below (s₁.setTop (mkF m 11 #[.val (.ref o0), .val (.ref o1), .val (.ref o2), .val (.int (2 : Int32))] [])) t
    refine XS.aloadN X0.here hx rfl (hb hby d10_11) rfl rfl ?_
    show Steps p.tables e below (s₁.setTop (mkF m 12 #[.val (.ref o0), .val (.ref o1), .val (.ref o2), .val (.int (2 : Int32))] [(.ref o2)])) t
    refine XS.iloadN X0.here hx rfl (hb hby d10_12) rfl ?_
    show Steps p.tables e below (s₁.setTop (mkF m 13 #[.val (.ref o0), .val (.ref o1), .val (.ref o2), .val (.int (2 : Int32))] [(.int (2 : Int32)), (.ref o2)])) t
    refine XS.aloadN X0.here hx rfl (hb hby d10_13) rfl rfl ?_
    exact k
  obtain ⟨kq275, ⟨cl275, Ar275, q275, S275, Nn275, Hh275, G275⟩, Ov275⟩ := B_o2
  obtain ⟨T275, h275, X275, e275, W275, st275⟩ := stR X0 hx hZ e0 Ar275 (j := (2 : Int32)) (inb_of S275 ⟨by decide, by decide⟩) rfl (Sto.ofV Ar275 q275 Ov275 (Ins.of_exa E_o1 (hw _ (List.mem_of_getElem? (i := 80) rfl)))) (g := (mkF m 14 #[.val (.ref o0), .val (.ref o1), .val (.ref o2), .val (.int (2 : Int32))] [(.ref o1), (.int (2 : Int32)), (.ref o2)])) rfl rfl (hb hby d10_14)
  have f276 : Exa Z h275 o1 "java/lang/String" := E_o1.wr W275
  have f277 : Exa Z h275 o0 "java/util/ArrayList" := E_o0.wr W275
  have f278 : Fld Z h275 o0 "java/util/AbstractList" "modCount" "I" (.int w_o0_modCount) := F_o0_modCount.other W275 (Or.inl ne_o0_o2)
  have f279 : Fld Z h275 o0 "java/util/ArrayList" "elementData" "[Ljava/lang/Object;" w_o0_elementData := F_o0_elementData.other W275 (Or.inl ne_o0_o2)
  have f280 : Fld Z h275 o0 "java/util/ArrayList" "size" "I" (.int (2 : Int32)) := F_o0_size.other W275 (Or.inl ne_o0_o2)
  have v281 : own_ArvR Z h275 o2 "java/lang/Object" (10 : Int32) [u0, u1, (.ref o1), u3, u4, u5, u6, u7, u8, u9] := ⟨_, Arv.set Ar275 q275 S275 Nn275 Hh275 G275 rfl W275 2 rfl (Nat.le_of_ble_eq_true rfl), Ov275⟩
  have N282 := Fr.snoc X275 N0 g_o2
  have Z283 : n0 ≤ h275.size := Nat.le_trans Z0 (Keep.of_wr W275).1
  have K284 : Keep h0 h275 [o2, o0] := K0.wr W275 (Or.inl (List.mem_of_getElem? (i := 0) rfl))
  refine own_go st275 ?_
  refine own_go (S' := T275.setTop (mkF m 19 #[.val (.ref o0), .val (.ref o1), .val (.ref o2), .val (.int (2 : Int32))] [(.int (3 : Int32)), (.ref o0)])) (fun t k => ?_) ?_
  · show Steps p.tables e below (T275.setTop (mkF m 15 #[.val (.ref o0), .val (.ref o1), .val (.ref o2), .val (.int (2 : Int32))] [])) t
    refine XS.aloadN X275.here hx rfl (hb hby d10_15) rfl rfl ?_
    show Steps p.tables e below (T275.setTop (mkF m 16 #[.val (.ref o0), .val (.ref o1), .val (.ref o2), .val (.int (2 : Int32))] [(.ref o0)])) t
    refine XS.iloadN X275.here hx rfl (hb hby d10_16) rfl ?_
    show Steps p.tables e below (T275.setTop (mkF m 17 #[.val (.ref o0), .val (.ref o1), .val (.ref o2), .val (.int (2 : Int32))] [(.int (2 : Int32)), (.ref o0)])) t
    refine XS.iconst X275.here hx rfl (hb hby d10_17) ?_
    show Steps p.tables e below (T275.setTop (mkF m 18 #[.val (.ref o0), .val (.ref o1), .val (.ref o2), .val (.int (2 : Int32))] [(.int (1 : Int32)), (.int (2 : Int32)), (.ref o0)])) t
    refine XS.iadd X275.here hx rfl (hb hby d10_18) rfl ?_
    exact k
  obtain ⟨T285, h285, X285, e285, W285, st285⟩ := putF X275 hx hZ hown (host := "") (Or.inl (hw _ (List.mem_of_getElem? (i := 57) rfl))) Via.refl e275 f280 f277 (Or.inl (hw _ (List.mem_of_getElem? (i := 58) rfl))) (hw _ (List.mem_of_getElem? (i := 27) rfl)) (ty := .int) (by decide) rfl rfl (g := (mkF m 19 #[.val (.ref o0), .val (.ref o1), .val (.ref o2), .val (.int (2 : Int32))] [(.int (3 : Int32)), (.ref o0)])) rfl rfl (hb hby d10_19)
  have f286 : Exa Z h285 o1 "java/lang/String" := f276.wr W285
  have f287 : Exa Z h285 o0 "java/util/ArrayList" := f277.wr W285
  have f288 : Fld Z h285 o0 "java/util/AbstractList" "modCount" "I" (.int w_o0_modCount) := f278.other W285 (Or.inr (slot_ne (Or.inl (hw _ (List.mem_of_getElem? (i := 46) rfl))) (Or.inl (hw _ (List.mem_of_getElem? (i := 58) rfl))) (by decide) (t := .int) (t' := .int) (by decide) (by decide)))
  have f289 : Fld Z h285 o0 "java/util/ArrayList" "elementData" "[Ljava/lang/Object;" w_o0_elementData := f279.other W285 (Or.inr (slot_ne (Or.inl (hw _ (List.mem_of_getElem? (i := 49) rfl))) (Or.inl (hw _ (List.mem_of_getElem? (i := 58) rfl))) (by decide) (t := (.array (.object "java/lang/Object"))) (t' := .int) (by decide) (by decide)))
  have f290 : own_ArvR Z h285 o2 "java/lang/Object" (10 : Int32) [u0, u1, (.ref o1), u3, u4, u5, u6, u7, u8, u9] := v281.other W285 (Ne.symm ne_o0_o2)
  have f291 : Fld Z h285 o0 "java/util/ArrayList" "size" "I" (.int (3 : Int32)) := f280.same W285
  have N292 := Fr.snoc X285 N282 g_o0
  have Z293 : n0 ≤ h285.size := Nat.le_trans Z283 (Keep.of_wr W285).1
  have K294 : Keep h0 h285 [o2, o0] := K284.wr W285 (Or.inl (List.mem_of_getElem? (i := 1) rfl))
  refine own_go st285 ?_
  obtain ⟨fs, hr, hrun, hended, hW, hsame⟩ := X285.leave (v := none) (fun _ => rfl)
  refine own_end (v := none) ?_ hrun hended ?_ hW (hsame.mono (by decide) (by decide))
  · show Steps p.tables e below (T285.setTop (mkF m 22 #[.val (.ref o0), .val (.ref o1), .val (.ref o2), .val (.int (2 : Int32))] [])) _
    exact X285.returnOut hx Bd.returns (hb hby d10_22) hr
  · show QaddI2 Z o0 o1 o2 u0 u1 u2 u3 u4 u5 u6 u7 u8 u9 w_o0_modCount w_o0_elementData h0 n0 _ T285.heap _
    rw [e285]
    exact ⟨rfl, N292, K294, f290, f287, f288, f289, f291⟩
theorem ef_add2 (m : MethodId) (x0 : Addr) (x1 : Addr) : entryFrame m #[(.ref x0), (.ref x1)] 2 = mkF m 0 #[.val (.ref x0), .val (.ref x1)] [] := by first | (simp [entryFrame, mkF, argsToLocals, Value.category]; done) | rfl
def Qadd2 (Z : State) (o0 : Addr) (o1 : Addr) (w_o0_modCount : Int32) (w_o0_elementData : Addr) (w_o0_elementData_0 : Value) (w_o0_elementData_1 : Value) (w_o0_elementData_2 : Value) (w_o0_elementData_3 : Value) (w_o0_elementData_4 : Value) (w_o0_elementData_5 : Value) (w_o0_elementData_6 : Value) (w_o0_elementData_7 : Value) (w_o0_elementData_8 : Value) (w_o0_elementData_9 : Value) (h0 : Heap) (n0 : Nat) (v : Option Value) (h : Heap) (L : List Loc) : Prop := v = some (.int (1 : Int32)) ∧ Fr n0 L ∧ Keep h0 h [o0, w_o0_elementData] ∧ Exa Z h o0 "java/util/ArrayList" ∧ Fld Z h o0 "java/util/AbstractList" "modCount" "I" (.int (w_o0_modCount + (1 : Int32))) ∧ Fld Z h o0 "java/util/ArrayList" "elementData" "[Ljava/lang/Object;" (.ref w_o0_elementData) ∧ Fld Z h o0 "java/util/ArrayList" "size" "I" (.int (3 : Int32)) ∧ own_ArvR Z h w_o0_elementData "java/lang/Object" (10 : Int32) [w_o0_elementData_0, w_o0_elementData_1, (.ref o1), w_o0_elementData_3, w_o0_elementData_4, w_o0_elementData_5, w_o0_elementData_6, w_o0_elementData_7, w_o0_elementData_8, w_o0_elementData_9]
set_option maxRecDepth 65536 in
set_option maxHeartbeats 40000000 in
theorem add2 (l : Launch) (Z : State) (a0 : Array Value) (hw : ∀ d ∈ tables_1, d.before a0 Z = true) (ws : List Jvm.Cond) (o0 : Addr) (o1 : Addr) (w_o0_modCount : Int32) (w_o0_elementData : Addr) (w_o0_elementData_0 : Value) (w_o0_elementData_1 : Value) (w_o0_elementData_2 : Value) (w_o0_elementData_3 : Value) (w_o0_elementData_4 : Value) (w_o0_elementData_5 : Value) (w_o0_elementData_6 : Value) (w_o0_elementData_7 : Value) (w_o0_elementData_8 : Value) (w_o0_elementData_9 : Value) (h0 : Heap) (n0 : Nat) (Z0 : n0 ≤ h0.size) (F_o0_modCount : Fld Z h0 o0 "java/util/AbstractList" "modCount" "I" (.int w_o0_modCount)) (E_o0 : Exa Z h0 o0 "java/util/ArrayList") (g_o0 : n0 ≤ o0) (F_o0_elementData : Fld Z h0 o0 "java/util/ArrayList" "elementData" "[Ljava/lang/Object;" (.ref w_o0_elementData)) (F_o0_size : Fld Z h0 o0 "java/util/ArrayList" "size" "I" (.int (2 : Int32))) (B_w_o0_elementData : own_ArvR Z h0 w_o0_elementData "java/lang/Object" (10 : Int32) [w_o0_elementData_0, w_o0_elementData_1, w_o0_elementData_2, w_o0_elementData_3, w_o0_elementData_4, w_o0_elementData_5, w_o0_elementData_6, w_o0_elementData_7, w_o0_elementData_8, w_o0_elementData_9]) (g_w_o0_elementData : n0 ≤ w_o0_elementData) (E_o1 : Exa Z h0 o1 "java/lang/String") :
    MetFree l (⟨"java/util/ArrayList", "add", "(Ljava/lang/Object;)Z"⟩ : MethodName) (head1 (Jvm.Cond.code (⟨"java/util/ArrayList", "add", "(Ljava/lang/Object;)Z"⟩ : MethodName) jdk_38_method_25_code 2 (some .boolean) :: ws) ({ frames := 1, cells := 0, slots := 0, locals := 15 } : Room)) (fun a U => a = #[(.ref o0), (.ref o1)] ∧ Z.Warmed39 U.vm ∧ U.heap = h0) (fun _ _ _ _ _ => True) (fun _ U o U' => ∃ v L, o = .returned v ∧ Qadd2 Z o0 o1 w_o0_modCount w_o0_elementData w_o0_elementData_0 w_o0_elementData_1 w_o0_elementData_2 w_o0_elementData_3 w_o0_elementData_4 w_o0_elementData_5 w_o0_elementData_6 w_o0_elementData_7 w_o0_elementData_8 w_o0_elementData_9 h0 n0 v U'.heap L ∧ FrameEnd U o U' L ({ frames := 1, cells := 0, slots := 0, locals := 15 } : Room).cells ({ frames := 1, cells := 0, slots := 0, locals := 15 } : Room).slots) := by
  refine MetFree.of_bodySF (plainFor_of_name pn_59) hisR ?_
  intro p e s m args below meth c s₁ Bd hml0 hP hK
  obtain ⟨rfl, hZ, hh⟩ := hP
  have hx := Bd.exec
  have hby := Bd.bytes
  have hml : c.maxLocals = 2 := hml0
  have hown : s.vm.findClass "java/util/ArrayList" = some m.cls := findClass_of_methodNamed Bd.named
  have hnm := (name_of_methodNamed Bd.named Bd.method).1
  have X0 : Stand p l e ({ frames := 1, cells := 0, slots := 0, locals := 15 } : Room) s m #[(.ref o0), (.ref o1)] below meth c s₁ [] 0 0 := Stand.of_body Bd
  have e0 : s₁.heap = h0 := by rw [← hh, Bd.state]; rfl
  have N0 := Fr.nil n0
  show own_Go p e below s (Qadd2 Z o0 o1 w_o0_modCount w_o0_elementData w_o0_elementData_0 w_o0_elementData_1 w_o0_elementData_2 w_o0_elementData_3 w_o0_elementData_4 w_o0_elementData_5 w_o0_elementData_6 w_o0_elementData_7 w_o0_elementData_8 w_o0_elementData_9 h0 n0) ({ frames := 1, cells := 0, slots := 0, locals := 15 } : Room).cells ({ frames := 1, cells := 0, slots := 0, locals := 15 } : Room).slots (s₁.setTop (entryFrame m #[(.ref o0), (.ref o1)] 2))
  rw [ef_add2 m o0 o1]
  have K0 : Keep h0 h0 [o0, w_o0_elementData] := Keep.refl h0 [o0, w_o0_elementData]
  refine own_go (S' := s₁.setTop (mkF m 2 #[.val (.ref o0), .val (.ref o1)] [(.ref o0), (.ref o0)])) (fun t k => ?_) ?_
  · show Steps p.tables e below (s₁.setTop (mkF m 0 #[.val (.ref o0), .val (.ref o1)] [])) t
    refine XS.aloadN X0.here hx rfl (hb hby d9_0) rfl rfl ?_
    show Steps p.tables e below (s₁.setTop (mkF m 1 #[.val (.ref o0), .val (.ref o1)] [(.ref o0)])) t
    refine XS.dup X0.here hx rfl (hb hby d9_1) rfl rfl ?_
    exact k
  obtain ⟨T295, X295, e295, st295⟩ := getF X0 hx hZ hown (host := "") (Or.inl (hw _ (List.mem_of_getElem? (i := 55) rfl))) (Via.of (hw _ (List.mem_of_getElem? (i := 56) rfl))) e0 F_o0_modCount (g := (mkF m 2 #[.val (.ref o0), .val (.ref o1)] [(.ref o0), (.ref o0)])) rfl rfl (hb hby d9_2)
  refine own_go st295 ?_
  refine own_go (S' := T295.setTop (mkF m 7 #[.val (.ref o0), .val (.ref o1)] [(.int (w_o0_modCount + (1 : Int32))), (.ref o0)])) (fun t k => ?_) ?_
  · show Steps p.tables e below (T295.setTop (mkF m 5 #[.val (.ref o0), .val (.ref o1)] [(.int w_o0_modCount), (.ref o0)])) t
    refine XS.iconst X295.here hx rfl (hb hby d9_5) ?_
    show Steps p.tables e below (T295.setTop (mkF m 6 #[.val (.ref o0), .val (.ref o1)] [(.int (1 : Int32)), (.int w_o0_modCount), (.ref o0)])) t
    refine XS.iadd X295.here hx rfl (hb hby d9_6) rfl ?_
    exact k
  obtain ⟨T296, h296, X296, e296, W296, st296⟩ := putF X295 hx hZ hown (host := "") (Or.inl (hw _ (List.mem_of_getElem? (i := 55) rfl))) (Via.of (hw _ (List.mem_of_getElem? (i := 56) rfl))) e295 F_o0_modCount E_o0 (Or.inl (hw _ (List.mem_of_getElem? (i := 46) rfl))) (hw _ (List.mem_of_getElem? (i := 27) rfl)) (ty := .int) (by decide) rfl rfl (g := (mkF m 7 #[.val (.ref o0), .val (.ref o1)] [(.int (w_o0_modCount + (1 : Int32))), (.ref o0)])) rfl rfl (hb hby d9_7)
  have f297 : Exa Z h296 o0 "java/util/ArrayList" := E_o0.wr W296
  have f298 : Fld Z h296 o0 "java/util/ArrayList" "elementData" "[Ljava/lang/Object;" (.ref w_o0_elementData) := F_o0_elementData.other W296 (Or.inr (slot_ne (Or.inl (hw _ (List.mem_of_getElem? (i := 49) rfl))) (Or.inl (hw _ (List.mem_of_getElem? (i := 46) rfl))) (by decide) (t := (.array (.object "java/lang/Object"))) (t' := .int) (by decide) (by decide)))
  have f299 : Fld Z h296 o0 "java/util/ArrayList" "size" "I" (.int (2 : Int32)) := F_o0_size.other W296 (Or.inr (slot_ne (Or.inl (hw _ (List.mem_of_getElem? (i := 58) rfl))) (Or.inl (hw _ (List.mem_of_getElem? (i := 46) rfl))) (by decide) (t := .int) (t' := .int) (by decide) (by decide)))
  have f300 : own_ArvR Z h296 w_o0_elementData "java/lang/Object" (10 : Int32) [w_o0_elementData_0, w_o0_elementData_1, w_o0_elementData_2, w_o0_elementData_3, w_o0_elementData_4, w_o0_elementData_5, w_o0_elementData_6, w_o0_elementData_7, w_o0_elementData_8, w_o0_elementData_9] := B_w_o0_elementData.other W296 (Ne.symm (own_neB E_o0 B_w_o0_elementData (hw _ (List.mem_of_getElem? (i := 27) rfl))))
  have f301 : Exa Z h296 o1 "java/lang/String" := E_o1.wr W296
  have f302 : Fld Z h296 o0 "java/util/AbstractList" "modCount" "I" (.int (w_o0_modCount + (1 : Int32))) := F_o0_modCount.same W296
  have N303 := Fr.snoc X296 N0 g_o0
  have Z304 : n0 ≤ h296.size := Nat.le_trans Z0 (Keep.of_wr W296).1
  have K305 : Keep h0 h296 [o0, w_o0_elementData] := K0.wr W296 (Or.inl (List.mem_of_getElem? (i := 0) rfl))
  refine own_go st296 ?_
  refine own_go (S' := T296.setTop (mkF m 13 #[.val (.ref o0), .val (.ref o1)] [(.ref o0), (.ref o1), (.ref o0)])) (fun t k => ?_) ?_
  · show Steps p.tables e below (T296.setTop (mkF m 10 #[.val (.ref o0), .val (.ref o1)] [])) t
    refine XS.aloadN X296.here hx rfl (hb hby d9_10) rfl rfl ?_
    show Steps p.tables e below (T296.setTop (mkF m 11 #[.val (.ref o0), .val (.ref o1)] [(.ref o0)])) t
    refine XS.aloadN X296.here hx rfl (hb hby d9_11) rfl rfl ?_
    show Steps p.tables e below (T296.setTop (mkF m 12 #[.val (.ref o0), .val (.ref o1)] [(.ref o1), (.ref o0)])) t
    refine XS.aloadN X296.here hx rfl (hb hby d9_12) rfl rfl ?_
    exact k
  obtain ⟨T306, X306, e306, st306⟩ := getF X296 hx hZ hown (host := "") (Or.inl (hw _ (List.mem_of_getElem? (i := 48) rfl))) Via.refl e296 f298 (g := (mkF m 13 #[.val (.ref o0), .val (.ref o1)] [(.ref o0), (.ref o1), (.ref o0)])) rfl rfl (hb hby d9_13)
  refine own_go st306 ?_
  refine own_go (S' := T306.setTop (mkF m 17 #[.val (.ref o0), .val (.ref o1)] [(.ref o0), (.ref w_o0_elementData), (.ref o1), (.ref o0)])) (fun t k => ?_) ?_
  · show Steps p.tables e below (T306.setTop (mkF m 16 #[.val (.ref o0), .val (.ref o1)] [(.ref w_o0_elementData), (.ref o1), (.ref o0)])) t
    refine XS.aloadN X306.here hx rfl (hb hby d9_16) rfl rfl ?_
    exact k
  obtain ⟨T307, X307, e307, st307⟩ := getF X306 hx hZ hown (host := "") (Or.inl (hw _ (List.mem_of_getElem? (i := 57) rfl))) Via.refl e306 f299 (g := (mkF m 17 #[.val (.ref o0), .val (.ref o1)] [(.ref o0), (.ref w_o0_elementData), (.ref o1), (.ref o0)])) rfl rfl (hb hby d9_17)
  refine own_go st307 ?_
  obtain ⟨cq308, qa308, qb308⟩ := f297.cell
  obtain ⟨_, _, ⟨T308, L308, kk308, nn308⟩, -, X308, ⟨Lc308, hQ308, l308, y308, z308⟩, st308⟩ := X307.privateBack hx (y := (⟨"java/util/ArrayList", "add", "(Ljava/lang/Object;[Ljava/lang/Object;I)V"⟩ : MethodName)) hown (mvT hZ (hw _ (List.mem_of_getElem? (i := 59) rfl))) (mvT hZ (hw _ (List.mem_of_getElem? (i := 60) rfl))) (mvT hZ (hw _ (List.mem_of_getElem? (i := 62) rfl))) (Cond.privateMethod_at (mvP hZ (hw _ (List.mem_of_getElem? (i := 61) rfl)) (args := #[]))) (mvT hZ (hw _ (List.mem_of_getElem? (i := 63) rfl))) (by decide) (backOf (W := 0) (addI2 l Z a0 hw [] o0 o1 w_o0_elementData w_o0_elementData_0 w_o0_elementData_1 w_o0_elementData_2 w_o0_elementData_3 w_o0_elementData_4 w_o0_elementData_5 w_o0_elementData_6 w_o0_elementData_7 w_o0_elementData_8 w_o0_elementData_9 (w_o0_modCount + (1 : Int32)) (.ref w_o0_elementData) h296 n0 Z304 f300 g_w_o0_elementData f301 f297 f302 f298 f299 (own_neB f297 f300 (hw _ (List.mem_of_getElem? (i := 27) rfl))) g_o0) hZ (hw _ (List.mem_of_getElem? (i := 63) rfl)) (hw _ (List.mem_of_getElem? (i := 28) rfl)) (by decide) (by decide)) (g := (mkF m 20 #[.val (.ref o0), .val (.ref o1)] [(.int (2 : Int32)), (.ref w_o0_elementData), (.ref o1), (.ref o0)])) rfl (by rw [hml]; rfl) (Steps.refl _) (a := o0) (by (try rw [e307]); exact qa308) qb308 (argsL := [(.ref o1), (.ref w_o0_elementData), (.int (2 : Int32))]) (rest := []) (lenOf pd_125 rfl) rfl (by show 2 * 0 + _ ≤ _; exact Nat.le_of_eq rfl) (hb hby d9_20) (fun _ _ => ⟨rfl, e307, (by decide : 0 + 0 ≤ _), (by decide : 0 + 0 ≤ _)⟩)
  dsimp only [Pt.U, Pt.locs, Pt.cells, Pt.slots] at X308 l308 y308 z308 st308 hQ308
  subst l308 y308 z308
  obtain ⟨rfl, N309, K310, p311, p312, p313, p314, p315⟩ := hQ308
  have N316 := Fr.app N303 N309
  have f317 : Exa Z T308.heap o0 "java/util/ArrayList" := f297.keep K310
  have f318 : Exa Z T308.heap o1 "java/lang/String" := f301.keep K310
  have Z319 : n0 ≤ T308.heap.size := Nat.le_trans Z304 K310.1
  have K320 : Keep h0 T308.heap [o0, w_o0_elementData] := K305.trans K310 (allS (Or.inl (List.mem_of_getElem? (i := 1) rfl)) (allS (Or.inl (List.mem_of_getElem? (i := 0) rfl)) all0))
  refine own_goT st308 ?_
  refine own_go (S' := T308.setTop (mkF m 24 #[.val (.ref o0), .val (.ref o1)] [(.int (1 : Int32))])) (fun t k => ?_) ?_
  · show Steps p.tables e below (T308.setTop (mkF m 23 #[.val (.ref o0), .val (.ref o1)] [])) t
    refine XS.iconst X308.here hx rfl (hb hby d9_23) ?_
    exact k
  obtain ⟨fs, hr, hrun, hended, hW, hsame⟩ := X308.leave (v := some (.int (1 : Int32))) (fun h => by rw [Bd.returns] at h; cases h)
  refine own_end (v := some (.int (1 : Int32))) ?_ hrun hended ?_ hW (hsame.mono (by decide) (by decide))
  · show Steps p.tables e below (T308.setTop (mkF m 24 #[.val (.ref o0), .val (.ref o1)] [(.int (1 : Int32))])) _
    exact retN X308 hx (t := .boolean) Bd.returns (by simp) (hb hby d9_24) hr
  · show Qadd2 Z o0 o1 w_o0_modCount w_o0_elementData w_o0_elementData_0 w_o0_elementData_1 w_o0_elementData_2 w_o0_elementData_3 w_o0_elementData_4 w_o0_elementData_5 w_o0_elementData_6 w_o0_elementData_7 w_o0_elementData_8 w_o0_elementData_9 h0 n0 _ T308.heap _
    exact ⟨rfl, N316, K320, p312, p313, p314, p315, p311⟩
theorem ef_addI3 (m : MethodId) (x0 : Addr) (x1 : Addr) (x2 : Addr) : entryFrame m #[(.ref x0), (.ref x1), (.ref x2), (.int (3 : Int32))] 4 = mkF m 0 #[.val (.ref x0), .val (.ref x1), .val (.ref x2), .val (.int (3 : Int32))] [] := by first | (simp [entryFrame, mkF, argsToLocals, Value.category]; done) | rfl
def QaddI3 (Z : State) (o0 : Addr) (o1 : Addr) (o2 : Addr) (u0 : Value) (u1 : Value) (u2 : Value) (u3 : Value) (u4 : Value) (u5 : Value) (u6 : Value) (u7 : Value) (u8 : Value) (u9 : Value) (w_o0_modCount : Int32) (w_o0_elementData : Value) (h0 : Heap) (n0 : Nat) (v : Option Value) (h : Heap) (L : List Loc) : Prop := v = none ∧ Fr n0 L ∧ Keep h0 h [o2, o0] ∧ own_ArvR Z h o2 "java/lang/Object" (10 : Int32) [u0, u1, u2, (.ref o1), u4, u5, u6, u7, u8, u9] ∧ Exa Z h o0 "java/util/ArrayList" ∧ Fld Z h o0 "java/util/AbstractList" "modCount" "I" (.int w_o0_modCount) ∧ Fld Z h o0 "java/util/ArrayList" "elementData" "[Ljava/lang/Object;" w_o0_elementData ∧ Fld Z h o0 "java/util/ArrayList" "size" "I" (.int (4 : Int32))
set_option maxRecDepth 65536 in
set_option maxHeartbeats 40000000 in
theorem addI3 (l : Launch) (Z : State) (a0 : Array Value) (hw : ∀ d ∈ tables_1, d.before a0 Z = true) (ws : List Jvm.Cond) (o0 : Addr) (o1 : Addr) (o2 : Addr) (u0 : Value) (u1 : Value) (u2 : Value) (u3 : Value) (u4 : Value) (u5 : Value) (u6 : Value) (u7 : Value) (u8 : Value) (u9 : Value) (w_o0_modCount : Int32) (w_o0_elementData : Value) (h0 : Heap) (n0 : Nat) (Z0 : n0 ≤ h0.size) (B_o2 : own_ArvR Z h0 o2 "java/lang/Object" (10 : Int32) [u0, u1, u2, u3, u4, u5, u6, u7, u8, u9]) (g_o2 : n0 ≤ o2) (E_o1 : Exa Z h0 o1 "java/lang/String") (E_o0 : Exa Z h0 o0 "java/util/ArrayList") (F_o0_modCount : Fld Z h0 o0 "java/util/AbstractList" "modCount" "I" (.int w_o0_modCount)) (F_o0_elementData : Fld Z h0 o0 "java/util/ArrayList" "elementData" "[Ljava/lang/Object;" w_o0_elementData) (F_o0_size : Fld Z h0 o0 "java/util/ArrayList" "size" "I" (.int (3 : Int32))) (ne_o0_o2 : o0 ≠ o2) (g_o0 : n0 ≤ o0) :
    MetFree l (⟨"java/util/ArrayList", "add", "(Ljava/lang/Object;[Ljava/lang/Object;I)V"⟩ : MethodName) (head1 (Jvm.Cond.code (⟨"java/util/ArrayList", "add", "(Ljava/lang/Object;[Ljava/lang/Object;I)V"⟩ : MethodName) jdk_38_method_24_code 4 none :: ws) ({ frames := 0, cells := 0, slots := 0, locals := 0 } : Room)) (fun a U => a = #[(.ref o0), (.ref o1), (.ref o2), (.int (3 : Int32))] ∧ Z.Warmed39 U.vm ∧ U.heap = h0) (fun _ _ _ _ _ => True) (fun _ U o U' => ∃ v L, o = .returned v ∧ QaddI3 Z o0 o1 o2 u0 u1 u2 u3 u4 u5 u6 u7 u8 u9 w_o0_modCount w_o0_elementData h0 n0 v U'.heap L ∧ FrameEnd U o U' L ({ frames := 0, cells := 0, slots := 0, locals := 0 } : Room).cells ({ frames := 0, cells := 0, slots := 0, locals := 0 } : Room).slots) := by
  refine MetFree.of_bodySF (plainFor_of_name pn_59) hisR ?_
  intro p e s m args below meth c s₁ Bd hml0 hP hK
  obtain ⟨rfl, hZ, hh⟩ := hP
  have hx := Bd.exec
  have hby := Bd.bytes
  have hml : c.maxLocals = 4 := hml0
  have hown : s.vm.findClass "java/util/ArrayList" = some m.cls := findClass_of_methodNamed Bd.named
  have hnm := (name_of_methodNamed Bd.named Bd.method).1
  have X0 : Stand p l e ({ frames := 0, cells := 0, slots := 0, locals := 0 } : Room) s m #[(.ref o0), (.ref o1), (.ref o2), (.int (3 : Int32))] below meth c s₁ [] 0 0 := Stand.of_body Bd
  have e0 : s₁.heap = h0 := by rw [← hh, Bd.state]; rfl
  have N0 := Fr.nil n0
  show own_Go p e below s (QaddI3 Z o0 o1 o2 u0 u1 u2 u3 u4 u5 u6 u7 u8 u9 w_o0_modCount w_o0_elementData h0 n0) ({ frames := 0, cells := 0, slots := 0, locals := 0 } : Room).cells ({ frames := 0, cells := 0, slots := 0, locals := 0 } : Room).slots (s₁.setTop (entryFrame m #[(.ref o0), (.ref o1), (.ref o2), (.int (3 : Int32))] 4))
  rw [ef_addI3 m o0 o1 o2]
  have K0 : Keep h0 h0 [o2, o0] := Keep.refl h0 [o2, o0]
  obtain ⟨kq321, ⟨cl321, Ar321, q321, S321, Nn321, Hh321, G321⟩, Ov321⟩ := id B_o2
  refine own_go (S' := s₁.setTop (mkF m 14 #[.val (.ref o0), .val (.ref o1), .val (.ref o2), .val (.int (3 : Int32))] [(.ref o1), (.int (3 : Int32)), (.ref o2)])) (fun t k => ?_) ?_
  · show Steps p.tables e below (s₁.setTop (mkF m 0 #[.val (.ref o0), .val (.ref o1), .val (.ref o2), .val (.int (3 : Int32))] [])) t
    refine XS.iloadN X0.here hx rfl (hb hby d10_0) rfl ?_
    show Steps p.tables e below (s₁.setTop (mkF m 1 #[.val (.ref o0), .val (.ref o1), .val (.ref o2), .val (.int (3 : Int32))] [(.int (3 : Int32))])) t
    refine XS.aloadN X0.here hx rfl (hb hby d10_1) rfl rfl ?_
    show Steps p.tables e below (s₁.setTop (mkF m 2 #[.val (.ref o0), .val (.ref o1), .val (.ref o2), .val (.int (3 : Int32))] [(.ref o2), (.int (3 : Int32))])) t
    refine X0.arraylength hx (by (try rw [e0]); exact Ar321.1) (State.isArrayOf_alike hZ.alike Ar321.2.1) (g := (mkF m 2 #[.val (.ref o0), .val (.ref o1), .val (.ref o2), .val (.int (3 : Int32))] [(.ref o2), (.int (3 : Int32))])) rfl rfl (hb hby d10_2) _ ?_
    rw [len_of S321 Nn321]
    show Steps p.tables e below (s₁.setTop (mkF m 3 #[.val (.ref o0), .val (.ref o1), .val (.ref o2), .val (.int (3 : Int32))] [(.int (10 : Int32)), (.int (3 : Int32))])) t
    refine XS.icmpYes X0.here hx rfl (pc0 := 3) (pc' := 11) rfl (hb hby d10_3) rfl (feq (by decide)).2 (by decide) (by decide) ?_
    show Steps p.tables e below (s₁.setTop (mkF m 11 #[.val (.ref o0), .val (.ref o1), .val (.ref o2), .val (.int (3 : Int32))] [])) t
    refine XS.aloadN X0.here hx rfl (hb hby d10_11) rfl rfl ?_
    show Steps p.tables e below (s₁.setTop (mkF m 12 #[.val (.ref o0), .val (.ref o1), .val (.ref o2), .val (.int (3 : Int32))] [(.ref o2)])) t
    refine XS.iloadN X0.here hx rfl (hb hby d10_12) rfl ?_
    show Steps p.tables e below (s₁.setTop (mkF m 13 #[.val (.ref o0), .val (.ref o1), .val (.ref o2), .val (.int (3 : Int32))] [(.int (3 : Int32)), (.ref o2)])) t
    refine XS.aloadN X0.here hx rfl (hb hby d10_13) rfl rfl ?_
    exact k
  obtain ⟨kq322, ⟨cl322, Ar322, q322, S322, Nn322, Hh322, G322⟩, Ov322⟩ := B_o2
  obtain ⟨T322, h322, X322, e322, W322, st322⟩ := stR X0 hx hZ e0 Ar322 (j := (3 : Int32)) (inb_of S322 ⟨by decide, by decide⟩) rfl (Sto.ofV Ar322 q322 Ov322 (Ins.of_exa E_o1 (hw _ (List.mem_of_getElem? (i := 80) rfl)))) (g := (mkF m 14 #[.val (.ref o0), .val (.ref o1), .val (.ref o2), .val (.int (3 : Int32))] [(.ref o1), (.int (3 : Int32)), (.ref o2)])) rfl rfl (hb hby d10_14)
  have f323 : Exa Z h322 o1 "java/lang/String" := E_o1.wr W322
  have f324 : Exa Z h322 o0 "java/util/ArrayList" := E_o0.wr W322
  have f325 : Fld Z h322 o0 "java/util/AbstractList" "modCount" "I" (.int w_o0_modCount) := F_o0_modCount.other W322 (Or.inl ne_o0_o2)
  have f326 : Fld Z h322 o0 "java/util/ArrayList" "elementData" "[Ljava/lang/Object;" w_o0_elementData := F_o0_elementData.other W322 (Or.inl ne_o0_o2)
  have f327 : Fld Z h322 o0 "java/util/ArrayList" "size" "I" (.int (3 : Int32)) := F_o0_size.other W322 (Or.inl ne_o0_o2)
  have v328 : own_ArvR Z h322 o2 "java/lang/Object" (10 : Int32) [u0, u1, u2, (.ref o1), u4, u5, u6, u7, u8, u9] := ⟨_, Arv.set Ar322 q322 S322 Nn322 Hh322 G322 rfl W322 3 rfl (Nat.le_of_ble_eq_true rfl), Ov322⟩
  have N329 := Fr.snoc X322 N0 g_o2
  have Z330 : n0 ≤ h322.size := Nat.le_trans Z0 (Keep.of_wr W322).1
  have K331 : Keep h0 h322 [o2, o0] := K0.wr W322 (Or.inl (List.mem_of_getElem? (i := 0) rfl))
  refine own_go st322 ?_
  refine own_go (S' := T322.setTop (mkF m 19 #[.val (.ref o0), .val (.ref o1), .val (.ref o2), .val (.int (3 : Int32))] [(.int (4 : Int32)), (.ref o0)])) (fun t k => ?_) ?_
  · show Steps p.tables e below (T322.setTop (mkF m 15 #[.val (.ref o0), .val (.ref o1), .val (.ref o2), .val (.int (3 : Int32))] [])) t
    refine XS.aloadN X322.here hx rfl (hb hby d10_15) rfl rfl ?_
    show Steps p.tables e below (T322.setTop (mkF m 16 #[.val (.ref o0), .val (.ref o1), .val (.ref o2), .val (.int (3 : Int32))] [(.ref o0)])) t
    refine XS.iloadN X322.here hx rfl (hb hby d10_16) rfl ?_
    show Steps p.tables e below (T322.setTop (mkF m 17 #[.val (.ref o0), .val (.ref o1), .val (.ref o2), .val (.int (3 : Int32))] [(.int (3 : Int32)), (.ref o0)])) t
    refine XS.iconst X322.here hx rfl (hb hby d10_17) ?_
    show Steps p.tables e below (T322.setTop (mkF m 18 #[.val (.ref o0), .val (.ref o1), .val (.ref o2), .val (.int (3 : Int32))] [(.int (1 : Int32)), (.int (3 : Int32)), (.ref o0)])) t
    refine XS.iadd X322.here hx rfl (hb hby d10_18) rfl ?_
    exact k
  obtain ⟨T332, h332, X332, e332, W332, st332⟩ := putF X322 hx hZ hown (host := "") (Or.inl (hw _ (List.mem_of_getElem? (i := 57) rfl))) Via.refl e322 f327 f324 (Or.inl (hw _ (List.mem_of_getElem? (i := 58) rfl))) (hw _ (List.mem_of_getElem? (i := 27) rfl)) (ty := .int) (by decide) rfl rfl (g := (mkF m 19 #[.val (.ref o0), .val (.ref o1), .val (.ref o2), .val (.int (3 : Int32))] [(.int (4 : Int32)), (.ref o0)])) rfl rfl (hb hby d10_19)
  have f333 : Exa Z h332 o1 "java/lang/String" := f323.wr W332
  have f334 : Exa Z h332 o0 "java/util/ArrayList" := f324.wr W332
  have f335 : Fld Z h332 o0 "java/util/AbstractList" "modCount" "I" (.int w_o0_modCount) := f325.other W332 (Or.inr (slot_ne (Or.inl (hw _ (List.mem_of_getElem? (i := 46) rfl))) (Or.inl (hw _ (List.mem_of_getElem? (i := 58) rfl))) (by decide) (t := .int) (t' := .int) (by decide) (by decide)))
  have f336 : Fld Z h332 o0 "java/util/ArrayList" "elementData" "[Ljava/lang/Object;" w_o0_elementData := f326.other W332 (Or.inr (slot_ne (Or.inl (hw _ (List.mem_of_getElem? (i := 49) rfl))) (Or.inl (hw _ (List.mem_of_getElem? (i := 58) rfl))) (by decide) (t := (.array (.object "java/lang/Object"))) (t' := .int) (by decide) (by decide)))
  have f337 : own_ArvR Z h332 o2 "java/lang/Object" (10 : Int32) [u0, u1, u2, (.ref o1), u4, u5, u6, u7, u8, u9] := v328.other W332 (Ne.symm ne_o0_o2)
  have f338 : Fld Z h332 o0 "java/util/ArrayList" "size" "I" (.int (4 : Int32)) := f327.same W332
  have N339 := Fr.snoc X332 N329 g_o0
  have Z340 : n0 ≤ h332.size := Nat.le_trans Z330 (Keep.of_wr W332).1
  have K341 : Keep h0 h332 [o2, o0] := K331.wr W332 (Or.inl (List.mem_of_getElem? (i := 1) rfl))
  refine own_go st332 ?_
  obtain ⟨fs, hr, hrun, hended, hW, hsame⟩ := X332.leave (v := none) (fun _ => rfl)
  refine own_end (v := none) ?_ hrun hended ?_ hW (hsame.mono (by decide) (by decide))
  · show Steps p.tables e below (T332.setTop (mkF m 22 #[.val (.ref o0), .val (.ref o1), .val (.ref o2), .val (.int (3 : Int32))] [])) _
    exact X332.returnOut hx Bd.returns (hb hby d10_22) hr
  · show QaddI3 Z o0 o1 o2 u0 u1 u2 u3 u4 u5 u6 u7 u8 u9 w_o0_modCount w_o0_elementData h0 n0 _ T332.heap _
    rw [e332]
    exact ⟨rfl, N339, K341, f337, f334, f335, f336, f338⟩
theorem ef_add3 (m : MethodId) (x0 : Addr) (x1 : Addr) : entryFrame m #[(.ref x0), (.ref x1)] 2 = mkF m 0 #[.val (.ref x0), .val (.ref x1)] [] := by first | (simp [entryFrame, mkF, argsToLocals, Value.category]; done) | rfl
def Qadd3 (Z : State) (o0 : Addr) (o1 : Addr) (w_o0_modCount : Int32) (w_o0_elementData : Addr) (w_o0_elementData_0 : Value) (w_o0_elementData_1 : Value) (w_o0_elementData_2 : Value) (w_o0_elementData_3 : Value) (w_o0_elementData_4 : Value) (w_o0_elementData_5 : Value) (w_o0_elementData_6 : Value) (w_o0_elementData_7 : Value) (w_o0_elementData_8 : Value) (w_o0_elementData_9 : Value) (h0 : Heap) (n0 : Nat) (v : Option Value) (h : Heap) (L : List Loc) : Prop := v = some (.int (1 : Int32)) ∧ Fr n0 L ∧ Keep h0 h [o0, w_o0_elementData] ∧ Exa Z h o0 "java/util/ArrayList" ∧ Fld Z h o0 "java/util/AbstractList" "modCount" "I" (.int (w_o0_modCount + (1 : Int32))) ∧ Fld Z h o0 "java/util/ArrayList" "elementData" "[Ljava/lang/Object;" (.ref w_o0_elementData) ∧ Fld Z h o0 "java/util/ArrayList" "size" "I" (.int (4 : Int32)) ∧ own_ArvR Z h w_o0_elementData "java/lang/Object" (10 : Int32) [w_o0_elementData_0, w_o0_elementData_1, w_o0_elementData_2, (.ref o1), w_o0_elementData_4, w_o0_elementData_5, w_o0_elementData_6, w_o0_elementData_7, w_o0_elementData_8, w_o0_elementData_9]
set_option maxRecDepth 65536 in
set_option maxHeartbeats 40000000 in
theorem add3 (l : Launch) (Z : State) (a0 : Array Value) (hw : ∀ d ∈ tables_1, d.before a0 Z = true) (ws : List Jvm.Cond) (o0 : Addr) (o1 : Addr) (w_o0_modCount : Int32) (w_o0_elementData : Addr) (w_o0_elementData_0 : Value) (w_o0_elementData_1 : Value) (w_o0_elementData_2 : Value) (w_o0_elementData_3 : Value) (w_o0_elementData_4 : Value) (w_o0_elementData_5 : Value) (w_o0_elementData_6 : Value) (w_o0_elementData_7 : Value) (w_o0_elementData_8 : Value) (w_o0_elementData_9 : Value) (h0 : Heap) (n0 : Nat) (Z0 : n0 ≤ h0.size) (F_o0_modCount : Fld Z h0 o0 "java/util/AbstractList" "modCount" "I" (.int w_o0_modCount)) (E_o0 : Exa Z h0 o0 "java/util/ArrayList") (g_o0 : n0 ≤ o0) (F_o0_elementData : Fld Z h0 o0 "java/util/ArrayList" "elementData" "[Ljava/lang/Object;" (.ref w_o0_elementData)) (F_o0_size : Fld Z h0 o0 "java/util/ArrayList" "size" "I" (.int (3 : Int32))) (B_w_o0_elementData : own_ArvR Z h0 w_o0_elementData "java/lang/Object" (10 : Int32) [w_o0_elementData_0, w_o0_elementData_1, w_o0_elementData_2, w_o0_elementData_3, w_o0_elementData_4, w_o0_elementData_5, w_o0_elementData_6, w_o0_elementData_7, w_o0_elementData_8, w_o0_elementData_9]) (g_w_o0_elementData : n0 ≤ w_o0_elementData) (E_o1 : Exa Z h0 o1 "java/lang/String") :
    MetFree l (⟨"java/util/ArrayList", "add", "(Ljava/lang/Object;)Z"⟩ : MethodName) (head1 (Jvm.Cond.code (⟨"java/util/ArrayList", "add", "(Ljava/lang/Object;)Z"⟩ : MethodName) jdk_38_method_25_code 2 (some .boolean) :: ws) ({ frames := 1, cells := 0, slots := 0, locals := 15 } : Room)) (fun a U => a = #[(.ref o0), (.ref o1)] ∧ Z.Warmed39 U.vm ∧ U.heap = h0) (fun _ _ _ _ _ => True) (fun _ U o U' => ∃ v L, o = .returned v ∧ Qadd3 Z o0 o1 w_o0_modCount w_o0_elementData w_o0_elementData_0 w_o0_elementData_1 w_o0_elementData_2 w_o0_elementData_3 w_o0_elementData_4 w_o0_elementData_5 w_o0_elementData_6 w_o0_elementData_7 w_o0_elementData_8 w_o0_elementData_9 h0 n0 v U'.heap L ∧ FrameEnd U o U' L ({ frames := 1, cells := 0, slots := 0, locals := 15 } : Room).cells ({ frames := 1, cells := 0, slots := 0, locals := 15 } : Room).slots) := by
  refine MetFree.of_bodySF (plainFor_of_name pn_59) hisR ?_
  intro p e s m args below meth c s₁ Bd hml0 hP hK
  obtain ⟨rfl, hZ, hh⟩ := hP
  have hx := Bd.exec
  have hby := Bd.bytes
  have hml : c.maxLocals = 2 := hml0
  have hown : s.vm.findClass "java/util/ArrayList" = some m.cls := findClass_of_methodNamed Bd.named
  have hnm := (name_of_methodNamed Bd.named Bd.method).1
  have X0 : Stand p l e ({ frames := 1, cells := 0, slots := 0, locals := 15 } : Room) s m #[(.ref o0), (.ref o1)] below meth c s₁ [] 0 0 := Stand.of_body Bd
  have e0 : s₁.heap = h0 := by rw [← hh, Bd.state]; rfl
  have N0 := Fr.nil n0
  show own_Go p e below s (Qadd3 Z o0 o1 w_o0_modCount w_o0_elementData w_o0_elementData_0 w_o0_elementData_1 w_o0_elementData_2 w_o0_elementData_3 w_o0_elementData_4 w_o0_elementData_5 w_o0_elementData_6 w_o0_elementData_7 w_o0_elementData_8 w_o0_elementData_9 h0 n0) ({ frames := 1, cells := 0, slots := 0, locals := 15 } : Room).cells ({ frames := 1, cells := 0, slots := 0, locals := 15 } : Room).slots (s₁.setTop (entryFrame m #[(.ref o0), (.ref o1)] 2))
  rw [ef_add3 m o0 o1]
  have K0 : Keep h0 h0 [o0, w_o0_elementData] := Keep.refl h0 [o0, w_o0_elementData]
  refine own_go (S' := s₁.setTop (mkF m 2 #[.val (.ref o0), .val (.ref o1)] [(.ref o0), (.ref o0)])) (fun t k => ?_) ?_
  · show Steps p.tables e below (s₁.setTop (mkF m 0 #[.val (.ref o0), .val (.ref o1)] [])) t
    refine XS.aloadN X0.here hx rfl (hb hby d9_0) rfl rfl ?_
    show Steps p.tables e below (s₁.setTop (mkF m 1 #[.val (.ref o0), .val (.ref o1)] [(.ref o0)])) t
    refine XS.dup X0.here hx rfl (hb hby d9_1) rfl rfl ?_
    exact k
  obtain ⟨T342, X342, e342, st342⟩ := getF X0 hx hZ hown (host := "") (Or.inl (hw _ (List.mem_of_getElem? (i := 55) rfl))) (Via.of (hw _ (List.mem_of_getElem? (i := 56) rfl))) e0 F_o0_modCount (g := (mkF m 2 #[.val (.ref o0), .val (.ref o1)] [(.ref o0), (.ref o0)])) rfl rfl (hb hby d9_2)
  refine own_go st342 ?_
  refine own_go (S' := T342.setTop (mkF m 7 #[.val (.ref o0), .val (.ref o1)] [(.int (w_o0_modCount + (1 : Int32))), (.ref o0)])) (fun t k => ?_) ?_
  · show Steps p.tables e below (T342.setTop (mkF m 5 #[.val (.ref o0), .val (.ref o1)] [(.int w_o0_modCount), (.ref o0)])) t
    refine XS.iconst X342.here hx rfl (hb hby d9_5) ?_
    show Steps p.tables e below (T342.setTop (mkF m 6 #[.val (.ref o0), .val (.ref o1)] [(.int (1 : Int32)), (.int w_o0_modCount), (.ref o0)])) t
    refine XS.iadd X342.here hx rfl (hb hby d9_6) rfl ?_
    exact k
  obtain ⟨T343, h343, X343, e343, W343, st343⟩ := putF X342 hx hZ hown (host := "") (Or.inl (hw _ (List.mem_of_getElem? (i := 55) rfl))) (Via.of (hw _ (List.mem_of_getElem? (i := 56) rfl))) e342 F_o0_modCount E_o0 (Or.inl (hw _ (List.mem_of_getElem? (i := 46) rfl))) (hw _ (List.mem_of_getElem? (i := 27) rfl)) (ty := .int) (by decide) rfl rfl (g := (mkF m 7 #[.val (.ref o0), .val (.ref o1)] [(.int (w_o0_modCount + (1 : Int32))), (.ref o0)])) rfl rfl (hb hby d9_7)
  have f344 : Exa Z h343 o0 "java/util/ArrayList" := E_o0.wr W343
  have f345 : Fld Z h343 o0 "java/util/ArrayList" "elementData" "[Ljava/lang/Object;" (.ref w_o0_elementData) := F_o0_elementData.other W343 (Or.inr (slot_ne (Or.inl (hw _ (List.mem_of_getElem? (i := 49) rfl))) (Or.inl (hw _ (List.mem_of_getElem? (i := 46) rfl))) (by decide) (t := (.array (.object "java/lang/Object"))) (t' := .int) (by decide) (by decide)))
  have f346 : Fld Z h343 o0 "java/util/ArrayList" "size" "I" (.int (3 : Int32)) := F_o0_size.other W343 (Or.inr (slot_ne (Or.inl (hw _ (List.mem_of_getElem? (i := 58) rfl))) (Or.inl (hw _ (List.mem_of_getElem? (i := 46) rfl))) (by decide) (t := .int) (t' := .int) (by decide) (by decide)))
  have f347 : own_ArvR Z h343 w_o0_elementData "java/lang/Object" (10 : Int32) [w_o0_elementData_0, w_o0_elementData_1, w_o0_elementData_2, w_o0_elementData_3, w_o0_elementData_4, w_o0_elementData_5, w_o0_elementData_6, w_o0_elementData_7, w_o0_elementData_8, w_o0_elementData_9] := B_w_o0_elementData.other W343 (Ne.symm (own_neB E_o0 B_w_o0_elementData (hw _ (List.mem_of_getElem? (i := 27) rfl))))
  have f348 : Exa Z h343 o1 "java/lang/String" := E_o1.wr W343
  have f349 : Fld Z h343 o0 "java/util/AbstractList" "modCount" "I" (.int (w_o0_modCount + (1 : Int32))) := F_o0_modCount.same W343
  have N350 := Fr.snoc X343 N0 g_o0
  have Z351 : n0 ≤ h343.size := Nat.le_trans Z0 (Keep.of_wr W343).1
  have K352 : Keep h0 h343 [o0, w_o0_elementData] := K0.wr W343 (Or.inl (List.mem_of_getElem? (i := 0) rfl))
  refine own_go st343 ?_
  refine own_go (S' := T343.setTop (mkF m 13 #[.val (.ref o0), .val (.ref o1)] [(.ref o0), (.ref o1), (.ref o0)])) (fun t k => ?_) ?_
  · show Steps p.tables e below (T343.setTop (mkF m 10 #[.val (.ref o0), .val (.ref o1)] [])) t
    refine XS.aloadN X343.here hx rfl (hb hby d9_10) rfl rfl ?_
    show Steps p.tables e below (T343.setTop (mkF m 11 #[.val (.ref o0), .val (.ref o1)] [(.ref o0)])) t
    refine XS.aloadN X343.here hx rfl (hb hby d9_11) rfl rfl ?_
    show Steps p.tables e below (T343.setTop (mkF m 12 #[.val (.ref o0), .val (.ref o1)] [(.ref o1), (.ref o0)])) t
    refine XS.aloadN X343.here hx rfl (hb hby d9_12) rfl rfl ?_
    exact k
  obtain ⟨T353, X353, e353, st353⟩ := getF X343 hx hZ hown (host := "") (Or.inl (hw _ (List.mem_of_getElem? (i := 48) rfl))) Via.refl e343 f345 (g := (mkF m 13 #[.val (.ref o0), .val (.ref o1)] [(.ref o0), (.ref o1), (.ref o0)])) rfl rfl (hb hby d9_13)
  refine own_go st353 ?_
  refine own_go (S' := T353.setTop (mkF m 17 #[.val (.ref o0), .val (.ref o1)] [(.ref o0), (.ref w_o0_elementData), (.ref o1), (.ref o0)])) (fun t k => ?_) ?_
  · show Steps p.tables e below (T353.setTop (mkF m 16 #[.val (.ref o0), .val (.ref o1)] [(.ref w_o0_elementData), (.ref o1), (.ref o0)])) t
    refine XS.aloadN X353.here hx rfl (hb hby d9_16) rfl rfl ?_
    exact k
  obtain ⟨T354, X354, e354, st354⟩ := getF X353 hx hZ hown (host := "") (Or.inl (hw _ (List.mem_of_getElem? (i := 57) rfl))) Via.refl e353 f346 (g := (mkF m 17 #[.val (.ref o0), .val (.ref o1)] [(.ref o0), (.ref w_o0_elementData), (.ref o1), (.ref o0)])) rfl rfl (hb hby d9_17)
  refine own_go st354 ?_
  obtain ⟨cq355, qa355, qb355⟩ := f344.cell
  obtain ⟨_, _, ⟨T355, L355, kk355, nn355⟩, -, X355, ⟨Lc355, hQ355, l355, y355, z355⟩, st355⟩ := X354.privateBack hx (y := (⟨"java/util/ArrayList", "add", "(Ljava/lang/Object;[Ljava/lang/Object;I)V"⟩ : MethodName)) hown (mvT hZ (hw _ (List.mem_of_getElem? (i := 59) rfl))) (mvT hZ (hw _ (List.mem_of_getElem? (i := 60) rfl))) (mvT hZ (hw _ (List.mem_of_getElem? (i := 62) rfl))) (Cond.privateMethod_at (mvP hZ (hw _ (List.mem_of_getElem? (i := 61) rfl)) (args := #[]))) (mvT hZ (hw _ (List.mem_of_getElem? (i := 63) rfl))) (by decide) (backOf (W := 0) (addI3 l Z a0 hw [] o0 o1 w_o0_elementData w_o0_elementData_0 w_o0_elementData_1 w_o0_elementData_2 w_o0_elementData_3 w_o0_elementData_4 w_o0_elementData_5 w_o0_elementData_6 w_o0_elementData_7 w_o0_elementData_8 w_o0_elementData_9 (w_o0_modCount + (1 : Int32)) (.ref w_o0_elementData) h343 n0 Z351 f347 g_w_o0_elementData f348 f344 f349 f345 f346 (own_neB f344 f347 (hw _ (List.mem_of_getElem? (i := 27) rfl))) g_o0) hZ (hw _ (List.mem_of_getElem? (i := 63) rfl)) (hw _ (List.mem_of_getElem? (i := 28) rfl)) (by decide) (by decide)) (g := (mkF m 20 #[.val (.ref o0), .val (.ref o1)] [(.int (3 : Int32)), (.ref w_o0_elementData), (.ref o1), (.ref o0)])) rfl (by rw [hml]; rfl) (Steps.refl _) (a := o0) (by (try rw [e354]); exact qa355) qb355 (argsL := [(.ref o1), (.ref w_o0_elementData), (.int (3 : Int32))]) (rest := []) (lenOf pd_125 rfl) rfl (by show 2 * 0 + _ ≤ _; exact Nat.le_of_eq rfl) (hb hby d9_20) (fun _ _ => ⟨rfl, e354, (by decide : 0 + 0 ≤ _), (by decide : 0 + 0 ≤ _)⟩)
  dsimp only [Pt.U, Pt.locs, Pt.cells, Pt.slots] at X355 l355 y355 z355 st355 hQ355
  subst l355 y355 z355
  obtain ⟨rfl, N356, K357, p358, p359, p360, p361, p362⟩ := hQ355
  have N363 := Fr.app N350 N356
  have f364 : Exa Z T355.heap o0 "java/util/ArrayList" := f344.keep K357
  have f365 : Exa Z T355.heap o1 "java/lang/String" := f348.keep K357
  have Z366 : n0 ≤ T355.heap.size := Nat.le_trans Z351 K357.1
  have K367 : Keep h0 T355.heap [o0, w_o0_elementData] := K352.trans K357 (allS (Or.inl (List.mem_of_getElem? (i := 1) rfl)) (allS (Or.inl (List.mem_of_getElem? (i := 0) rfl)) all0))
  refine own_goT st355 ?_
  refine own_go (S' := T355.setTop (mkF m 24 #[.val (.ref o0), .val (.ref o1)] [(.int (1 : Int32))])) (fun t k => ?_) ?_
  · show Steps p.tables e below (T355.setTop (mkF m 23 #[.val (.ref o0), .val (.ref o1)] [])) t
    refine XS.iconst X355.here hx rfl (hb hby d9_23) ?_
    exact k
  obtain ⟨fs, hr, hrun, hended, hW, hsame⟩ := X355.leave (v := some (.int (1 : Int32))) (fun h => by rw [Bd.returns] at h; cases h)
  refine own_end (v := some (.int (1 : Int32))) ?_ hrun hended ?_ hW (hsame.mono (by decide) (by decide))
  · show Steps p.tables e below (T355.setTop (mkF m 24 #[.val (.ref o0), .val (.ref o1)] [(.int (1 : Int32))])) _
    exact retN X355 hx (t := .boolean) Bd.returns (by simp) (hb hby d9_24) hr
  · show Qadd3 Z o0 o1 w_o0_modCount w_o0_elementData w_o0_elementData_0 w_o0_elementData_1 w_o0_elementData_2 w_o0_elementData_3 w_o0_elementData_4 w_o0_elementData_5 w_o0_elementData_6 w_o0_elementData_7 w_o0_elementData_8 w_o0_elementData_9 h0 n0 _ T355.heap _
    exact ⟨rfl, N363, K367, p359, p360, p361, p362, p358⟩
theorem d15_0 : decode jdk_38_method_8_code 0 = .ok (.aload_n 0, 1) := by decide +kernel
theorem d15_1 : decode jdk_38_method_8_code 1 = .ok (.getfield 48, 3) := by decide +kernel
theorem d15_4 : decode jdk_38_method_8_code 4 = .ok (.ireturn, 1) := by decide +kernel
theorem ef_alSize (m : MethodId) (x0 : Addr) : entryFrame m #[(.ref x0)] 1 = mkF m 0 #[.val (.ref x0)] [] := by first | (simp [entryFrame, mkF, argsToLocals, Value.category]; done) | rfl
def QalSize (Z : State) (o0 : Addr) (w_o0_size : Int32) (h0 : Heap) (n0 : Nat) (v : Option Value) (h : Heap) (L : List Loc) : Prop := v = some (.int w_o0_size) ∧ Fr n0 L ∧ h = h0
set_option maxRecDepth 65536 in
set_option maxHeartbeats 40000000 in
theorem alSize (l : Launch) (Z : State) (a0 : Array Value) (hw : ∀ d ∈ tables_1, d.before a0 Z = true) (ws : List Jvm.Cond) (o0 : Addr) (w_o0_size : Int32) (h0 : Heap) (n0 : Nat) (Z0 : n0 ≤ h0.size) (F_o0_size : Fld Z h0 o0 "java/util/ArrayList" "size" "I" (.int w_o0_size)) :
    MetFree l (⟨"java/util/ArrayList", "size", "()I"⟩ : MethodName) (head1 (Jvm.Cond.code (⟨"java/util/ArrayList", "size", "()I"⟩ : MethodName) jdk_38_method_8_code 1 (some .int) :: ws) ({ frames := 0, cells := 0, slots := 0, locals := 0 } : Room)) (fun a U => a = #[(.ref o0)] ∧ Z.Warmed39 U.vm ∧ U.heap = h0) (fun _ _ _ _ _ => True) (fun _ U o U' => ∃ v L, o = .returned v ∧ QalSize Z o0 w_o0_size h0 n0 v U'.heap L ∧ FrameEnd U o U' L ({ frames := 0, cells := 0, slots := 0, locals := 0 } : Room).cells ({ frames := 0, cells := 0, slots := 0, locals := 0 } : Room).slots) := by
  refine MetFree.of_bodySF (plainFor_of_name pn_59) hisR ?_
  intro p e s m args below meth c s₁ Bd hml0 hP hK
  obtain ⟨rfl, hZ, hh⟩ := hP
  have hx := Bd.exec
  have hby := Bd.bytes
  have hml : c.maxLocals = 1 := hml0
  have hown : s.vm.findClass "java/util/ArrayList" = some m.cls := findClass_of_methodNamed Bd.named
  have hnm := (name_of_methodNamed Bd.named Bd.method).1
  have X0 : Stand p l e ({ frames := 0, cells := 0, slots := 0, locals := 0 } : Room) s m #[(.ref o0)] below meth c s₁ [] 0 0 := Stand.of_body Bd
  have e0 : s₁.heap = h0 := by rw [← hh, Bd.state]; rfl
  have N0 := Fr.nil n0
  show own_Go p e below s (QalSize Z o0 w_o0_size h0 n0) ({ frames := 0, cells := 0, slots := 0, locals := 0 } : Room).cells ({ frames := 0, cells := 0, slots := 0, locals := 0 } : Room).slots (s₁.setTop (entryFrame m #[(.ref o0)] 1))
  rw [ef_alSize m o0]
  have K0 : Keep h0 h0 [] := Keep.refl h0 []
  refine own_go (S' := s₁.setTop (mkF m 1 #[.val (.ref o0)] [(.ref o0)])) (fun t k => ?_) ?_
  · show Steps p.tables e below (s₁.setTop (mkF m 0 #[.val (.ref o0)] [])) t
    refine XS.aloadN X0.here hx rfl (hb hby d15_0) rfl rfl ?_
    exact k
  obtain ⟨T368, X368, e368, st368⟩ := getF X0 hx hZ hown (host := "") (Or.inl (hw _ (List.mem_of_getElem? (i := 57) rfl))) Via.refl e0 F_o0_size (g := (mkF m 1 #[.val (.ref o0)] [(.ref o0)])) rfl rfl (hb hby d15_1)
  refine own_go st368 ?_
  obtain ⟨fs, hr, hrun, hended, hW, hsame⟩ := X368.leave (v := some (.int w_o0_size)) (fun h => by rw [Bd.returns] at h; cases h)
  refine own_end (v := some (.int w_o0_size)) ?_ hrun hended ?_ hW (hsame.mono (by decide) (by decide))
  · show Steps p.tables e below (T368.setTop (mkF m 4 #[.val (.ref o0)] [(.int w_o0_size)])) _
    exact retI X368 hx Bd.returns (hb hby d15_4) hr
  · show QalSize Z o0 w_o0_size h0 n0 _ T368.heap _
    rw [e368]
    exact ⟨rfl, N0, rfl⟩
theorem d18_0 : decode jdk_41_method_11_code 0 = .ok (.iload_n 0, 1) := by decide +kernel
theorem d18_1 : decode jdk_41_method_11_code 1 = .ok (.ifCond .lt 8, 3) := by decide +kernel
theorem d18_4 : decode jdk_41_method_11_code 4 = .ok (.iload_n 0, 1) := by decide +kernel
theorem d18_5 : decode jdk_41_method_11_code 5 = .ok (.iload_n 1, 1) := by decide +kernel
theorem d18_6 : decode jdk_41_method_11_code 6 = .ok (.if_icmp .lt 10, 3) := by decide +kernel
theorem d18_16 : decode jdk_41_method_11_code 16 = .ok (.iload_n 0, 1) := by decide +kernel
theorem d18_17 : decode jdk_41_method_11_code 17 = .ok (.ireturn, 1) := by decide +kernel
theorem pn_138 : plainName "jdk/internal/util/Preconditions" = true := by first | (simp [plainName, overriddenIn]; done) | decide +kernel
theorem ef_pChk (m : MethodId) (x0 : Int32) (x1 : Int32) : entryFrame m #[(.int x0), (.int x1), .null] 3 = mkF m 0 #[.val (.int x0), .val (.int x1), .val .null] [] := by first | (simp [entryFrame, mkF, argsToLocals, Value.category]; done) | rfl
def QpChk (Z : State) (p0 : Int32) (p1 : Int32) (h0 : Heap) (n0 : Nat) (v : Option Value) (h : Heap) (L : List Loc) : Prop := v = some (.int p0) ∧ Fr n0 L ∧ h = h0
set_option maxRecDepth 65536 in
set_option maxHeartbeats 40000000 in
theorem pChk (l : Launch) (Z : State) (a0 : Array Value) (hw : ∀ d ∈ tables_1, d.before a0 Z = true) (ws : List Jvm.Cond) (p0 : Int32) (p1 : Int32) (h0 : Heap) (n0 : Nat) (Z0 : n0 ≤ h0.size) (hc1 : ¬ (p0 < (0 : Int32))) (hc6 : p0 < p1) :
    MetFree l (⟨"jdk/internal/util/Preconditions", "checkIndex", "(IILjava/util/function/BiFunction;)I"⟩ : MethodName) (head1 (Jvm.Cond.code (⟨"jdk/internal/util/Preconditions", "checkIndex", "(IILjava/util/function/BiFunction;)I"⟩ : MethodName) jdk_41_method_11_code 3 (some .int) :: ws) ({ frames := 0, cells := 0, slots := 0, locals := 0 } : Room)) (fun a U => a = #[(.int p0), (.int p1), .null] ∧ Z.Warmed39 U.vm ∧ U.heap = h0) (fun _ _ _ _ _ => True) (fun _ U o U' => ∃ v L, o = .returned v ∧ QpChk Z p0 p1 h0 n0 v U'.heap L ∧ FrameEnd U o U' L ({ frames := 0, cells := 0, slots := 0, locals := 0 } : Room).cells ({ frames := 0, cells := 0, slots := 0, locals := 0 } : Room).slots) := by
  refine MetFree.of_bodySF (plainFor_of_name pn_138) hisR ?_
  intro p e s m args below meth c s₁ Bd hml0 hP hK
  obtain ⟨rfl, hZ, hh⟩ := hP
  have hx := Bd.exec
  have hby := Bd.bytes
  have hml : c.maxLocals = 3 := hml0
  have hown : s.vm.findClass "jdk/internal/util/Preconditions" = some m.cls := findClass_of_methodNamed Bd.named
  have hnm := (name_of_methodNamed Bd.named Bd.method).1
  have X0 : Stand p l e ({ frames := 0, cells := 0, slots := 0, locals := 0 } : Room) s m #[(.int p0), (.int p1), .null] below meth c s₁ [] 0 0 := Stand.of_body Bd
  have e0 : s₁.heap = h0 := by rw [← hh, Bd.state]; rfl
  have N0 := Fr.nil n0
  show own_Go p e below s (QpChk Z p0 p1 h0 n0) ({ frames := 0, cells := 0, slots := 0, locals := 0 } : Room).cells ({ frames := 0, cells := 0, slots := 0, locals := 0 } : Room).slots (s₁.setTop (entryFrame m #[(.int p0), (.int p1), .null] 3))
  rw [ef_pChk m p0 p1]
  have K0 : Keep h0 h0 [] := Keep.refl h0 []
  refine own_go (S' := s₁.setTop (mkF m 17 #[.val (.int p0), .val (.int p1), .val .null] [(.int p0)])) (fun t k => ?_) ?_
  · show Steps p.tables e below (s₁.setTop (mkF m 0 #[.val (.int p0), .val (.int p1), .val .null] [])) t
    refine XS.iloadN X0.here hx rfl (hb hby d18_0) rfl ?_
    show Steps p.tables e below (s₁.setTop (mkF m 1 #[.val (.int p0), .val (.int p1), .val .null] [(.int p0)])) t
    refine XS.ifNo X0.here hx rfl (hb hby d18_1) rfl ((if0 _ _).trans (flt hc1).1) ?_
    show Steps p.tables e below (s₁.setTop (mkF m 4 #[.val (.int p0), .val (.int p1), .val .null] [])) t
    refine XS.iloadN X0.here hx rfl (hb hby d18_4) rfl ?_
    show Steps p.tables e below (s₁.setTop (mkF m 5 #[.val (.int p0), .val (.int p1), .val .null] [(.int p0)])) t
    refine XS.iloadN X0.here hx rfl (hb hby d18_5) rfl ?_
    show Steps p.tables e below (s₁.setTop (mkF m 6 #[.val (.int p0), .val (.int p1), .val .null] [(.int p1), (.int p0)])) t
    refine XS.icmpYes X0.here hx rfl (pc0 := 6) (pc' := 16) rfl (hb hby d18_6) rfl (tlt hc6).1 (by decide) (by decide) ?_
    show Steps p.tables e below (s₁.setTop (mkF m 16 #[.val (.int p0), .val (.int p1), .val .null] [])) t
    refine XS.iloadN X0.here hx rfl (hb hby d18_16) rfl ?_
    exact k
  obtain ⟨fs, hr, hrun, hended, hW, hsame⟩ := X0.leave (v := some (.int p0)) (fun h => by rw [Bd.returns] at h; cases h)
  refine own_end (v := some (.int p0)) ?_ hrun hended ?_ hW (hsame.mono (by decide) (by decide))
  · show Steps p.tables e below (s₁.setTop (mkF m 17 #[.val (.int p0), .val (.int p1), .val .null] [(.int p0)])) _
    exact retI X0 hx Bd.returns (hb hby d18_17) hr
  · show QpChk Z p0 p1 h0 n0 _ s₁.heap _
    rw [e0]
    exact ⟨rfl, N0, rfl⟩
theorem d17_0 : decode jdk_31_method_17_code 0 = .ok (.iload_n 0, 1) := by decide +kernel
theorem d17_1 : decode jdk_31_method_17_code 1 = .ok (.iload_n 1, 1) := by decide +kernel
theorem d17_2 : decode jdk_31_method_17_code 2 = .ok (.aconst_null, 1) := by decide +kernel
theorem d17_3 : decode jdk_31_method_17_code 3 = .ok (.invokestatic 105, 3) := by decide +kernel
theorem pd_143 : parseMethodDescriptor "(IILjava/util/function/BiFunction;)I" = some ⟨[.int, .int, (.object "java/util/function/BiFunction")], some .int⟩ := by decide +kernel
theorem d17_6 : decode jdk_31_method_17_code 6 = .ok (.ireturn, 1) := by decide +kernel
theorem pn_145 : plainName "java/util/Objects" = true := by first | (simp [plainName, overriddenIn]; done) | decide +kernel
theorem ef_oChk (m : MethodId) (x0 : Int32) (x1 : Int32) : entryFrame m #[(.int x0), (.int x1)] 2 = mkF m 0 #[.val (.int x0), .val (.int x1)] [] := by first | (simp [entryFrame, mkF, argsToLocals, Value.category]; done) | rfl
def QoChk (Z : State) (p0 : Int32) (p1 : Int32) (h0 : Heap) (n0 : Nat) (v : Option Value) (h : Heap) (L : List Loc) : Prop := v = some (.int p0) ∧ Fr n0 L ∧ h = h0
set_option maxRecDepth 65536 in
set_option maxHeartbeats 40000000 in
theorem oChk (l : Launch) (Z : State) (a0 : Array Value) (hw : ∀ d ∈ tables_1, d.before a0 Z = true) (ws : List Jvm.Cond) (p0 : Int32) (p1 : Int32) (h0 : Heap) (n0 : Nat) (Z0 : n0 ≤ h0.size) (hc1 : ¬ (p0 < (0 : Int32))) (hc6 : p0 < p1) :
    MetFree l (⟨"java/util/Objects", "checkIndex", "(II)I"⟩ : MethodName) (head1 (Jvm.Cond.code (⟨"java/util/Objects", "checkIndex", "(II)I"⟩ : MethodName) jdk_31_method_17_code 2 (some .int) :: ws) ({ frames := 1, cells := 0, slots := 0, locals := 14 } : Room)) (fun a U => a = #[(.int p0), (.int p1)] ∧ Z.Warmed39 U.vm ∧ U.heap = h0) (fun _ _ _ _ _ => True) (fun _ U o U' => ∃ v L, o = .returned v ∧ QoChk Z p0 p1 h0 n0 v U'.heap L ∧ FrameEnd U o U' L ({ frames := 1, cells := 0, slots := 0, locals := 14 } : Room).cells ({ frames := 1, cells := 0, slots := 0, locals := 14 } : Room).slots) := by
  refine MetFree.of_bodySF (plainFor_of_name pn_145) hisR ?_
  intro p e s m args below meth c s₁ Bd hml0 hP hK
  obtain ⟨rfl, hZ, hh⟩ := hP
  have hx := Bd.exec
  have hby := Bd.bytes
  have hml : c.maxLocals = 2 := hml0
  have hown : s.vm.findClass "java/util/Objects" = some m.cls := findClass_of_methodNamed Bd.named
  have hnm := (name_of_methodNamed Bd.named Bd.method).1
  have X0 : Stand p l e ({ frames := 1, cells := 0, slots := 0, locals := 14 } : Room) s m #[(.int p0), (.int p1)] below meth c s₁ [] 0 0 := Stand.of_body Bd
  have e0 : s₁.heap = h0 := by rw [← hh, Bd.state]; rfl
  have N0 := Fr.nil n0
  show own_Go p e below s (QoChk Z p0 p1 h0 n0) ({ frames := 1, cells := 0, slots := 0, locals := 14 } : Room).cells ({ frames := 1, cells := 0, slots := 0, locals := 14 } : Room).slots (s₁.setTop (entryFrame m #[(.int p0), (.int p1)] 2))
  rw [ef_oChk m p0 p1]
  have K0 : Keep h0 h0 [] := Keep.refl h0 []
  refine own_go (S' := s₁.setTop (mkF m 3 #[.val (.int p0), .val (.int p1)] [.null, (.int p1), (.int p0)])) (fun t k => ?_) ?_
  · show Steps p.tables e below (s₁.setTop (mkF m 0 #[.val (.int p0), .val (.int p1)] [])) t
    refine XS.iloadN X0.here hx rfl (hb hby d17_0) rfl ?_
    show Steps p.tables e below (s₁.setTop (mkF m 1 #[.val (.int p0), .val (.int p1)] [(.int p0)])) t
    refine XS.iloadN X0.here hx rfl (hb hby d17_1) rfl ?_
    show Steps p.tables e below (s₁.setTop (mkF m 2 #[.val (.int p0), .val (.int p1)] [(.int p1), (.int p0)])) t
    refine XS.aconstNull X0.here hx rfl (hb hby d17_2) ?_
    exact k
  obtain ⟨_, _, ⟨T369, L369, kk369, nn369⟩, -, X369, ⟨Lc369, hQ369, l369, y369, z369⟩, st369⟩ := Jvm.LawKit.callS X0 hx (y := (⟨"jdk/internal/util/Preconditions", "checkIndex", "(IILjava/util/function/BiFunction;)I"⟩ : MethodName)) hown (mvT hZ (hw _ (List.mem_of_getElem? (i := 112) rfl))) (mvT hZ (hw _ (List.mem_of_getElem? (i := 113) rfl))) (mvT hZ (hw _ (List.mem_of_getElem? (i := 114) rfl))) (mvT hZ (hw _ (List.mem_of_getElem? (i := 115) rfl))) (by decide) (backOf (W := 0) (pChk l Z a0 hw [] p0 p1 h0 n0 Z0 (hc1 : ¬ (p0 < (0 : Int32))) (hc6 : p0 < p1)) hZ (hw _ (List.mem_of_getElem? (i := 115) rfl)) (hw _ (List.mem_of_getElem? (i := 114) rfl)) (by decide) (by decide)) (g := (mkF m 3 #[.val (.int p0), .val (.int p1)] [.null, (.int p1), (.int p0)])) rfl (by rw [hml]; rfl) (argsL := [(.int p0), (.int p1), .null]) (rest := []) (lenOf pd_143 rfl) rfl (by show 2 * 0 + _ ≤ _; exact Nat.le_of_eq rfl) (hb hby d17_3) (fun _ _ => ⟨rfl, e0, (by decide : 0 + 0 ≤ _), (by decide : 0 + 0 ≤ _)⟩)
  dsimp only [Pt.U, Pt.locs, Pt.cells, Pt.slots] at X369 l369 y369 z369 st369 hQ369
  subst l369 y369 z369
  obtain ⟨rfl, N370, e369⟩ := hQ369
  have N372 := Fr.app N0 N370
  refine own_go st369 ?_
  obtain ⟨fs, hr, hrun, hended, hW, hsame⟩ := X369.leave (v := some (.int p0)) (fun h => by rw [Bd.returns] at h; cases h)
  refine own_end (v := some (.int p0)) ?_ hrun hended ?_ hW (hsame.mono (by decide) (by decide))
  · show Steps p.tables e below (T369.setTop (mkF m 6 #[.val (.int p0), .val (.int p1)] [(.int p0)])) _
    exact retI X369 hx Bd.returns (hb hby d17_6) hr
  · show QoChk Z p0 p1 h0 n0 _ T369.heap _
    rw [e369]
    exact ⟨rfl, N372, rfl⟩
theorem d19_0 : decode jdk_38_method_18_code 0 = .ok (.aload_n 0, 1) := by decide +kernel
theorem d19_1 : decode jdk_38_method_18_code 1 = .ok (.getfield 9, 3) := by decide +kernel
theorem d19_4 : decode jdk_38_method_18_code 4 = .ok (.iload_n 1, 1) := by decide +kernel
theorem d19_5 : decode jdk_38_method_18_code 5 = .ok (.aaload, 1) := by decide +kernel
theorem d19_6 : decode jdk_38_method_18_code 6 = .ok (.areturn, 1) := by decide +kernel
theorem ef_elD0 (m : MethodId) (x0 : Addr) : entryFrame m #[(.ref x0), (.int (0 : Int32))] 2 = mkF m 0 #[.val (.ref x0), .val (.int (0 : Int32))] [] := by first | (simp [entryFrame, mkF, argsToLocals, Value.category]; done) | rfl
def QelD0 (Z : State) (o0 : Addr) (w_o0_elementData : Addr) (r0 : Addr) (u1 : Value) (u2 : Value) (u3 : Value) (u4 : Value) (u5 : Value) (u6 : Value) (u7 : Value) (u8 : Value) (u9 : Value) (h0 : Heap) (n0 : Nat) (v : Option Value) (h : Heap) (L : List Loc) : Prop := v = some (.ref r0) ∧ Fr n0 L ∧ h = h0
set_option maxRecDepth 65536 in
set_option maxHeartbeats 40000000 in
theorem elD0 (l : Launch) (Z : State) (a0 : Array Value) (hw : ∀ d ∈ tables_1, d.before a0 Z = true) (ws : List Jvm.Cond) (o0 : Addr) (w_o0_elementData : Addr) (r0 : Addr) (u1 : Value) (u2 : Value) (u3 : Value) (u4 : Value) (u5 : Value) (u6 : Value) (u7 : Value) (u8 : Value) (u9 : Value) (h0 : Heap) (n0 : Nat) (Z0 : n0 ≤ h0.size) (F_o0_elementData : Fld Z h0 o0 "java/util/ArrayList" "elementData" "[Ljava/lang/Object;" (.ref w_o0_elementData)) (B_w_o0_elementData : own_ArvR Z h0 w_o0_elementData "java/lang/Object" (10 : Int32) [(.ref r0), u1, u2, u3, u4, u5, u6, u7, u8, u9]) :
    MetFree l (⟨"java/util/ArrayList", "elementData", "(I)Ljava/lang/Object;"⟩ : MethodName) (head1 (Jvm.Cond.code (⟨"java/util/ArrayList", "elementData", "(I)Ljava/lang/Object;"⟩ : MethodName) jdk_38_method_18_code 2 (some (.object "java/lang/Object")) :: ws) ({ frames := 0, cells := 0, slots := 0, locals := 0 } : Room)) (fun a U => a = #[(.ref o0), (.int (0 : Int32))] ∧ Z.Warmed39 U.vm ∧ U.heap = h0) (fun _ _ _ _ _ => True) (fun _ U o U' => ∃ v L, o = .returned v ∧ QelD0 Z o0 w_o0_elementData r0 u1 u2 u3 u4 u5 u6 u7 u8 u9 h0 n0 v U'.heap L ∧ FrameEnd U o U' L ({ frames := 0, cells := 0, slots := 0, locals := 0 } : Room).cells ({ frames := 0, cells := 0, slots := 0, locals := 0 } : Room).slots) := by
  refine MetFree.of_bodySF (plainFor_of_name pn_59) hisR ?_
  intro p e s m args below meth c s₁ Bd hml0 hP hK
  obtain ⟨rfl, hZ, hh⟩ := hP
  have hx := Bd.exec
  have hby := Bd.bytes
  have hml : c.maxLocals = 2 := hml0
  have hown : s.vm.findClass "java/util/ArrayList" = some m.cls := findClass_of_methodNamed Bd.named
  have hnm := (name_of_methodNamed Bd.named Bd.method).1
  have X0 : Stand p l e ({ frames := 0, cells := 0, slots := 0, locals := 0 } : Room) s m #[(.ref o0), (.int (0 : Int32))] below meth c s₁ [] 0 0 := Stand.of_body Bd
  have e0 : s₁.heap = h0 := by rw [← hh, Bd.state]; rfl
  have N0 := Fr.nil n0
  show own_Go p e below s (QelD0 Z o0 w_o0_elementData r0 u1 u2 u3 u4 u5 u6 u7 u8 u9 h0 n0) ({ frames := 0, cells := 0, slots := 0, locals := 0 } : Room).cells ({ frames := 0, cells := 0, slots := 0, locals := 0 } : Room).slots (s₁.setTop (entryFrame m #[(.ref o0), (.int (0 : Int32))] 2))
  rw [ef_elD0 m o0]
  have K0 : Keep h0 h0 [] := Keep.refl h0 []
  refine own_go (S' := s₁.setTop (mkF m 1 #[.val (.ref o0), .val (.int (0 : Int32))] [(.ref o0)])) (fun t k => ?_) ?_
  · show Steps p.tables e below (s₁.setTop (mkF m 0 #[.val (.ref o0), .val (.int (0 : Int32))] [])) t
    refine XS.aloadN X0.here hx rfl (hb hby d19_0) rfl rfl ?_
    exact k
  obtain ⟨T373, X373, e373, st373⟩ := getF X0 hx hZ hown (host := "") (Or.inl (hw _ (List.mem_of_getElem? (i := 48) rfl))) Via.refl e0 F_o0_elementData (g := (mkF m 1 #[.val (.ref o0), .val (.int (0 : Int32))] [(.ref o0)])) rfl rfl (hb hby d19_1)
  refine own_go st373 ?_
  refine own_go (S' := T373.setTop (mkF m 5 #[.val (.ref o0), .val (.int (0 : Int32))] [(.int (0 : Int32)), (.ref w_o0_elementData)])) (fun t k => ?_) ?_
  · show Steps p.tables e below (T373.setTop (mkF m 4 #[.val (.ref o0), .val (.int (0 : Int32))] [(.ref w_o0_elementData)])) t
    refine XS.iloadN X373.here hx rfl (hb hby d19_4) rfl ?_
    exact k
  obtain ⟨kq374, ⟨cl374, Ar374, q374, S374, Nn374, Hh374, G374⟩, Ov374⟩ := id B_w_o0_elementData
  refine own_go (S' := T373.setTop (mkF m 6 #[.val (.ref o0), .val (.int (0 : Int32))] [(.ref r0)])) (fun t k => ?_) ?_
  · show Steps p.tables e below (T373.setTop (mkF m 5 #[.val (.ref o0), .val (.int (0 : Int32))] [(.int (0 : Int32)), (.ref w_o0_elementData)])) t
    exact X373.aaload hx (j := (0 : Int32)) (v := (.ref r0)) (by (try rw [e373]); exact Ar374.1) (State.isArrayOf_alike hZ.alike Ar374.2.1) rfl Ar374.2.2 (inb_of S374 ⟨by decide, by decide⟩) (Hh374.at (inb_of S374 ⟨by decide, by decide⟩) rfl) (g := (mkF m 5 #[.val (.ref o0), .val (.int (0 : Int32))] [(.int (0 : Int32)), (.ref w_o0_elementData)])) rfl rfl (hb hby d19_5) _ k
  obtain ⟨fs, hr, hrun, hended, hW, hsame⟩ := X373.leave (v := some (.ref r0)) (fun h => by rw [Bd.returns] at h; cases h)
  refine own_end (v := some (.ref r0)) ?_ hrun hended ?_ hW (hsame.mono (by decide) (by decide))
  · show Steps p.tables e below (T373.setTop (mkF m 6 #[.val (.ref o0), .val (.int (0 : Int32))] [(.ref r0)])) _
    jvm_step X373.here [X373.here.top, hx, (hb hby d19_6), X373.method', Bd.returns, Value.isRef, FieldType.isReference]
    first | (intro acts; rw [hr _ acts rfl rfl rfl]) | rw [hr _ _ rfl rfl rfl]
    exact Steps.refl _
  · show QelD0 Z o0 w_o0_elementData r0 u1 u2 u3 u4 u5 u6 u7 u8 u9 h0 n0 _ T373.heap _
    rw [e373]
    exact ⟨rfl, N0, rfl⟩
theorem d16_0 : decode jdk_38_method_20_code 0 = .ok (.iload_n 1, 1) := by decide +kernel
theorem d16_1 : decode jdk_38_method_20_code 1 = .ok (.aload_n 0, 1) := by decide +kernel
theorem d16_2 : decode jdk_38_method_20_code 2 = .ok (.getfield 48, 3) := by decide +kernel
theorem d16_5 : decode jdk_38_method_20_code 5 = .ok (.invokestatic 118, 3) := by decide +kernel
theorem d16_8 : decode jdk_38_method_20_code 8 = .ok (.pop, 1) := by decide +kernel
theorem d16_9 : decode jdk_38_method_20_code 9 = .ok (.aload_n 0, 1) := by decide +kernel
theorem d16_10 : decode jdk_38_method_20_code 10 = .ok (.iload_n 1, 1) := by decide +kernel
theorem d16_11 : decode jdk_38_method_20_code 11 = .ok (.invokevirtual 123, 3) := by decide +kernel
theorem pd_159 : parseMethodDescriptor "(I)Ljava/lang/Object;" = some ⟨[.int], some (.object "java/lang/Object")⟩ := by decide +kernel
theorem d16_14 : decode jdk_38_method_20_code 14 = .ok (.areturn, 1) := by decide +kernel
theorem ef_get0 (m : MethodId) (x0 : Addr) : entryFrame m #[(.ref x0), (.int (0 : Int32))] 2 = mkF m 0 #[.val (.ref x0), .val (.int (0 : Int32))] [] := by first | (simp [entryFrame, mkF, argsToLocals, Value.category]; done) | rfl
def Qget0 (Z : State) (o0 : Addr) (w_o0_size : Int32) (w_o0_elementData : Addr) (w_o0_elementData_0 : Addr) (w_o0_elementData_1 : Value) (w_o0_elementData_2 : Value) (w_o0_elementData_3 : Value) (w_o0_elementData_4 : Value) (w_o0_elementData_5 : Value) (w_o0_elementData_6 : Value) (w_o0_elementData_7 : Value) (w_o0_elementData_8 : Value) (w_o0_elementData_9 : Value) (h0 : Heap) (n0 : Nat) (v : Option Value) (h : Heap) (L : List Loc) : Prop := v = some (.ref w_o0_elementData_0) ∧ Fr n0 L ∧ h = h0
set_option maxRecDepth 65536 in
set_option maxHeartbeats 40000000 in
theorem get0 (l : Launch) (Z : State) (a0 : Array Value) (hw : ∀ d ∈ tables_1, d.before a0 Z = true) (ws : List Jvm.Cond) (o0 : Addr) (w_o0_size : Int32) (w_o0_elementData : Addr) (w_o0_elementData_0 : Addr) (w_o0_elementData_1 : Value) (w_o0_elementData_2 : Value) (w_o0_elementData_3 : Value) (w_o0_elementData_4 : Value) (w_o0_elementData_5 : Value) (w_o0_elementData_6 : Value) (w_o0_elementData_7 : Value) (w_o0_elementData_8 : Value) (w_o0_elementData_9 : Value) (h0 : Heap) (n0 : Nat) (Z0 : n0 ≤ h0.size) (hc6 : (0 : Int32) < w_o0_size) (F_o0_size : Fld Z h0 o0 "java/util/ArrayList" "size" "I" (.int w_o0_size)) (F_o0_elementData : Fld Z h0 o0 "java/util/ArrayList" "elementData" "[Ljava/lang/Object;" (.ref w_o0_elementData)) (B_w_o0_elementData : own_ArvR Z h0 w_o0_elementData "java/lang/Object" (10 : Int32) [(.ref w_o0_elementData_0), w_o0_elementData_1, w_o0_elementData_2, w_o0_elementData_3, w_o0_elementData_4, w_o0_elementData_5, w_o0_elementData_6, w_o0_elementData_7, w_o0_elementData_8, w_o0_elementData_9]) (E_o0 : Exa Z h0 o0 "java/util/ArrayList") :
    MetFree l (⟨"java/util/ArrayList", "get", "(I)Ljava/lang/Object;"⟩ : MethodName) (head1 (Jvm.Cond.code (⟨"java/util/ArrayList", "get", "(I)Ljava/lang/Object;"⟩ : MethodName) jdk_38_method_20_code 2 (some (.object "java/lang/Object")) :: ws) ({ frames := 2, cells := 0, slots := 0, locals := 27 } : Room)) (fun a U => a = #[(.ref o0), (.int (0 : Int32))] ∧ Z.Warmed39 U.vm ∧ U.heap = h0) (fun _ _ _ _ _ => True) (fun _ U o U' => ∃ v L, o = .returned v ∧ Qget0 Z o0 w_o0_size w_o0_elementData w_o0_elementData_0 w_o0_elementData_1 w_o0_elementData_2 w_o0_elementData_3 w_o0_elementData_4 w_o0_elementData_5 w_o0_elementData_6 w_o0_elementData_7 w_o0_elementData_8 w_o0_elementData_9 h0 n0 v U'.heap L ∧ FrameEnd U o U' L ({ frames := 2, cells := 0, slots := 0, locals := 27 } : Room).cells ({ frames := 2, cells := 0, slots := 0, locals := 27 } : Room).slots) := by
  refine MetFree.of_bodySF (plainFor_of_name pn_59) hisR ?_
  intro p e s m args below meth c s₁ Bd hml0 hP hK
  obtain ⟨rfl, hZ, hh⟩ := hP
  have hx := Bd.exec
  have hby := Bd.bytes
  have hml : c.maxLocals = 2 := hml0
  have hown : s.vm.findClass "java/util/ArrayList" = some m.cls := findClass_of_methodNamed Bd.named
  have hnm := (name_of_methodNamed Bd.named Bd.method).1
  have X0 : Stand p l e ({ frames := 2, cells := 0, slots := 0, locals := 27 } : Room) s m #[(.ref o0), (.int (0 : Int32))] below meth c s₁ [] 0 0 := Stand.of_body Bd
  have e0 : s₁.heap = h0 := by rw [← hh, Bd.state]; rfl
  have N0 := Fr.nil n0
  show own_Go p e below s (Qget0 Z o0 w_o0_size w_o0_elementData w_o0_elementData_0 w_o0_elementData_1 w_o0_elementData_2 w_o0_elementData_3 w_o0_elementData_4 w_o0_elementData_5 w_o0_elementData_6 w_o0_elementData_7 w_o0_elementData_8 w_o0_elementData_9 h0 n0) ({ frames := 2, cells := 0, slots := 0, locals := 27 } : Room).cells ({ frames := 2, cells := 0, slots := 0, locals := 27 } : Room).slots (s₁.setTop (entryFrame m #[(.ref o0), (.int (0 : Int32))] 2))
  rw [ef_get0 m o0]
  have K0 : Keep h0 h0 [] := Keep.refl h0 []
  refine own_go (S' := s₁.setTop (mkF m 2 #[.val (.ref o0), .val (.int (0 : Int32))] [(.ref o0), (.int (0 : Int32))])) (fun t k => ?_) ?_
  · show Steps p.tables e below (s₁.setTop (mkF m 0 #[.val (.ref o0), .val (.int (0 : Int32))] [])) t
    refine XS.iloadN X0.here hx rfl (hb hby d16_0) rfl ?_
    show Steps p.tables e below (s₁.setTop (mkF m 1 #[.val (.ref o0), .val (.int (0 : Int32))] [(.int (0 : Int32))])) t
    refine XS.aloadN X0.here hx rfl (hb hby d16_1) rfl rfl ?_
    exact k
  obtain ⟨T375, X375, e375, st375⟩ := getF X0 hx hZ hown (host := "") (Or.inl (hw _ (List.mem_of_getElem? (i := 57) rfl))) Via.refl e0 F_o0_size (g := (mkF m 2 #[.val (.ref o0), .val (.int (0 : Int32))] [(.ref o0), (.int (0 : Int32))])) rfl rfl (hb hby d16_2)
  refine own_go st375 ?_
  obtain ⟨_, _, ⟨T376, L376, kk376, nn376⟩, -, X376, ⟨Lc376, hQ376, l376, y376, z376⟩, st376⟩ := Jvm.LawKit.callS X375 hx (y := (⟨"java/util/Objects", "checkIndex", "(II)I"⟩ : MethodName)) hown (mvT hZ (hw _ (List.mem_of_getElem? (i := 108) rfl))) (mvT hZ (hw _ (List.mem_of_getElem? (i := 109) rfl))) (mvT hZ (hw _ (List.mem_of_getElem? (i := 110) rfl))) (mvT hZ (hw _ (List.mem_of_getElem? (i := 111) rfl))) (by decide) (backOf (W := 0) (oChk l Z a0 hw [] (0 : Int32) w_o0_size h0 n0 Z0 (by decide : ¬ ((0 : Int32) < (0 : Int32))) (hc6 : (0 : Int32) < w_o0_size)) hZ (hw _ (List.mem_of_getElem? (i := 111) rfl)) (hw _ (List.mem_of_getElem? (i := 110) rfl)) (by decide) (by decide)) (g := (mkF m 5 #[.val (.ref o0), .val (.int (0 : Int32))] [(.int w_o0_size), (.int (0 : Int32))])) rfl (by rw [hml]; rfl) (argsL := [(.int (0 : Int32)), (.int w_o0_size)]) (rest := []) (lenOf pd_81 rfl) rfl (by show 2 * 0 + _ ≤ _; exact Nat.le_of_eq rfl) (hb hby d16_5) (fun _ _ => ⟨rfl, e375, (by decide : 0 + 0 ≤ _), (by decide : 0 + 0 ≤ _)⟩)
  dsimp only [Pt.U, Pt.locs, Pt.cells, Pt.slots] at X376 l376 y376 z376 st376 hQ376
  subst l376 y376 z376
  obtain ⟨rfl, N377, e376⟩ := hQ376
  have N379 := Fr.app N0 N377
  refine own_go st376 ?_
  refine own_go (S' := T376.setTop (mkF m 11 #[.val (.ref o0), .val (.int (0 : Int32))] [(.int (0 : Int32)), (.ref o0)])) (fun t k => ?_) ?_
  · show Steps p.tables e below (T376.setTop (mkF m 8 #[.val (.ref o0), .val (.int (0 : Int32))] [(.int (0 : Int32))])) t
    refine XS.pop X376.here hx rfl (hb hby d16_8) rfl rfl ?_
    show Steps p.tables e below (T376.setTop (mkF m 9 #[.val (.ref o0), .val (.int (0 : Int32))] [])) t
    refine XS.aloadN X376.here hx rfl (hb hby d16_9) rfl rfl ?_
    show Steps p.tables e below (T376.setTop (mkF m 10 #[.val (.ref o0), .val (.int (0 : Int32))] [(.ref o0)])) t
    refine XS.iloadN X376.here hx rfl (hb hby d16_10) rfl ?_
    exact k
  obtain ⟨cq380, kq380, qa380, qb380, qc380⟩ := isOf hZ e376 E_o0
  obtain ⟨_, _, ⟨T380, L380, kk380, nn380⟩, -, X380, ⟨Lc380, hQ380, l380, y380, z380⟩, st380⟩ := X376.virtualBack hx (y := (⟨"java/util/ArrayList", "elementData", "(I)Ljava/lang/Object;"⟩ : MethodName)) (z := (⟨"java/util/ArrayList", "elementData", "(I)Ljava/lang/Object;"⟩ : MethodName)) hown (mvT hZ (hw _ (List.mem_of_getElem? (i := 116) rfl))) (mvT hZ (hw _ (List.mem_of_getElem? (i := 117) rfl))) (notFace_of_selects (args := #[]) (mvT hZ (hw _ (List.mem_of_getElem? (i := 119) rfl)))) (mvT hZ (hw _ (List.mem_of_getElem? (i := 119) rfl))) (mvT hZ (hw _ (List.mem_of_getElem? (i := 118) rfl))) (by decide) (backOf (W := 0) (elD0 l Z a0 hw [] o0 w_o0_elementData w_o0_elementData_0 w_o0_elementData_1 w_o0_elementData_2 w_o0_elementData_3 w_o0_elementData_4 w_o0_elementData_5 w_o0_elementData_6 w_o0_elementData_7 w_o0_elementData_8 w_o0_elementData_9 h0 n0 Z0 F_o0_elementData B_w_o0_elementData) hZ (hw _ (List.mem_of_getElem? (i := 120) rfl)) (hw _ (List.mem_of_getElem? (i := 28) rfl)) (by decide) (by decide)) qa380 qc380 (g := (mkF m 11 #[.val (.ref o0), .val (.int (0 : Int32))] [(.int (0 : Int32)), (.ref o0)])) rfl (by rw [hml]; rfl) (Steps.refl _) (argsL := [(.int (0 : Int32))]) (rest := []) (lenOf pd_159 rfl) rfl (by show 2 * 0 + _ ≤ _; exact Nat.le_of_eq rfl) (hb hby d16_11) (fun _ _ => ⟨rfl, e376, (by decide : 0 + 0 ≤ _), (by decide : 0 + 0 ≤ _)⟩)
  dsimp only [Pt.U, Pt.locs, Pt.cells, Pt.slots] at X380 l380 y380 z380 st380 hQ380
  subst l380 y380 z380
  obtain ⟨rfl, N381, e380⟩ := hQ380
  have N383 := Fr.app N379 N381
  refine own_goT st380 ?_
  obtain ⟨fs, hr, hrun, hended, hW, hsame⟩ := X380.leave (v := some (.ref w_o0_elementData_0)) (fun h => by rw [Bd.returns] at h; cases h)
  refine own_end (v := some (.ref w_o0_elementData_0)) ?_ hrun hended ?_ hW (hsame.mono (by decide) (by decide))
  · show Steps p.tables e below (T380.setTop (mkF m 14 #[.val (.ref o0), .val (.int (0 : Int32))] [(.ref w_o0_elementData_0)])) _
    jvm_step X380.here [X380.here.top, hx, (hb hby d16_14), X380.method', Bd.returns, Value.isRef, FieldType.isReference]
    first | (intro acts; rw [hr _ acts rfl rfl rfl]) | rw [hr _ _ rfl rfl rfl]
    exact Steps.refl _
  · show Qget0 Z o0 w_o0_size w_o0_elementData w_o0_elementData_0 w_o0_elementData_1 w_o0_elementData_2 w_o0_elementData_3 w_o0_elementData_4 w_o0_elementData_5 w_o0_elementData_6 w_o0_elementData_7 w_o0_elementData_8 w_o0_elementData_9 h0 n0 _ T380.heap _
    rw [e380]
    exact ⟨rfl, N383, rfl⟩
theorem d14_0 : decode prog_4_method_2_code 0 = .ok (.iload_n 2, 1) := by decide +kernel
theorem d14_1 : decode prog_4_method_2_code 1 = .ok (.aload_n 1, 1) := by decide +kernel
theorem d14_2 : decode prog_4_method_2_code 2 = .ok (.invokeinterface 7 1, 5) := by decide +kernel
theorem pd_164 : parseMethodDescriptor "()I" = some ⟨[], some .int⟩ := by decide +kernel
theorem d14_7 : decode prog_4_method_2_code 7 = .ok (.if_icmp .ne 20, 3) := by decide +kernel
theorem d14_27 : decode prog_4_method_2_code 27 = .ok (.aload_n 1, 1) := by decide +kernel
theorem d14_28 : decode prog_4_method_2_code 28 = .ok (.iload_n 2, 1) := by decide +kernel
theorem d14_29 : decode prog_4_method_2_code 29 = .ok (.invokeinterface 22 2, 5) := by decide +kernel
theorem d14_34 : decode prog_4_method_2_code 34 = .ok (.checkcast 26, 3) := by decide +kernel
theorem d14_37 : decode prog_4_method_2_code 37 = .ok (.areturn, 1) := by decide +kernel
theorem pn_171 : plainName "com/example/scorebench/scorebench/OptionValue" = true := by first | (simp [plainName, overriddenIn]; done) | decide +kernel
theorem ef_of0 (m : MethodId) (x0 : Addr) (x1 : Addr) (x3 : Addr) (x4 : Addr) : entryFrame m #[(.ref x0), (.ref x1), (.int (0 : Int32)), (.ref x3), (.ref x4)] 5 = mkF m 0 #[.val (.ref x0), .val (.ref x1), .val (.int (0 : Int32)), .val (.ref x3), .val (.ref x4)] [] := by first | (simp [entryFrame, mkF, argsToLocals, Value.category]; done) | rfl
def Qof0 (Z : State) (o0 : Addr) (o1 : Addr) (o3 : Addr) (o4 : Addr) (w_o1_size : Int32) (w_o1_elementData : Addr) (w_o1_elementData_0 : Addr) (w_o1_elementData_1 : Value) (w_o1_elementData_2 : Value) (w_o1_elementData_3 : Value) (w_o1_elementData_4 : Value) (w_o1_elementData_5 : Value) (w_o1_elementData_6 : Value) (w_o1_elementData_7 : Value) (w_o1_elementData_8 : Value) (w_o1_elementData_9 : Value) (h0 : Heap) (n0 : Nat) (v : Option Value) (h : Heap) (L : List Loc) : Prop := v = some (.ref w_o1_elementData_0) ∧ Fr n0 L ∧ h = h0
set_option maxRecDepth 65536 in
set_option maxHeartbeats 40000000 in
theorem of0 (l : Launch) (Z : State) (a0 : Array Value) (hw : ∀ d ∈ tables_1, d.before a0 Z = true) (ws : List Jvm.Cond) (o0 : Addr) (o1 : Addr) (o3 : Addr) (o4 : Addr) (w_o1_size : Int32) (w_o1_elementData : Addr) (w_o1_elementData_0 : Addr) (w_o1_elementData_1 : Value) (w_o1_elementData_2 : Value) (w_o1_elementData_3 : Value) (w_o1_elementData_4 : Value) (w_o1_elementData_5 : Value) (w_o1_elementData_6 : Value) (w_o1_elementData_7 : Value) (w_o1_elementData_8 : Value) (w_o1_elementData_9 : Value) (h0 : Heap) (n0 : Nat) (Z0 : n0 ≤ h0.size) (hc6 : (0 : Int32) < w_o1_size) (F_o1_size : Fld Z h0 o1 "java/util/ArrayList" "size" "I" (.int w_o1_size)) (E_o1 : Exa Z h0 o1 "java/util/ArrayList") (hc7 : ¬ ((0 : Int32) = w_o1_size)) (F_o1_elementData : Fld Z h0 o1 "java/util/ArrayList" "elementData" "[Ljava/lang/Object;" (.ref w_o1_elementData)) (B_w_o1_elementData : own_ArvR Z h0 w_o1_elementData "java/lang/Object" (10 : Int32) [(.ref w_o1_elementData_0), w_o1_elementData_1, w_o1_elementData_2, w_o1_elementData_3, w_o1_elementData_4, w_o1_elementData_5, w_o1_elementData_6, w_o1_elementData_7, w_o1_elementData_8, w_o1_elementData_9]) (E_w_o1_elementData_0 : Exa Z h0 w_o1_elementData_0 "java/lang/String") :
    MetFree l (⟨"com/example/scorebench/scorebench/OptionValue", "of", "(Ljava/lang/String;Ljava/util/List;ILjava/lang/String;Ljava/lang/String;)Ljava/lang/String;"⟩ : MethodName) (head1 (Jvm.Cond.code (⟨"com/example/scorebench/scorebench/OptionValue", "of", "(Ljava/lang/String;Ljava/util/List;ILjava/lang/String;Ljava/lang/String;)Ljava/lang/String;"⟩ : MethodName) prog_4_method_2_code 5 (some (.object "java/lang/String")) :: ws) ({ frames := 3, cells := 0, slots := 0, locals := 40 } : Room)) (fun a U => a = #[(.ref o0), (.ref o1), (.int (0 : Int32)), (.ref o3), (.ref o4)] ∧ Z.Warmed39 U.vm ∧ U.heap = h0) (fun _ _ _ _ _ => True) (fun _ U o U' => ∃ v L, o = .returned v ∧ Qof0 Z o0 o1 o3 o4 w_o1_size w_o1_elementData w_o1_elementData_0 w_o1_elementData_1 w_o1_elementData_2 w_o1_elementData_3 w_o1_elementData_4 w_o1_elementData_5 w_o1_elementData_6 w_o1_elementData_7 w_o1_elementData_8 w_o1_elementData_9 h0 n0 v U'.heap L ∧ FrameEnd U o U' L ({ frames := 3, cells := 0, slots := 0, locals := 40 } : Room).cells ({ frames := 3, cells := 0, slots := 0, locals := 40 } : Room).slots) := by
  refine MetFree.of_bodySF (plainFor_of_name pn_171) hisR ?_
  intro p e s m args below meth c s₁ Bd hml0 hP hK
  obtain ⟨rfl, hZ, hh⟩ := hP
  have hx := Bd.exec
  have hby := Bd.bytes
  have hml : c.maxLocals = 5 := hml0
  have hown : s.vm.findClass "com/example/scorebench/scorebench/OptionValue" = some m.cls := findClass_of_methodNamed Bd.named
  have hnm := (name_of_methodNamed Bd.named Bd.method).1
  have X0 : Stand p l e ({ frames := 3, cells := 0, slots := 0, locals := 40 } : Room) s m #[(.ref o0), (.ref o1), (.int (0 : Int32)), (.ref o3), (.ref o4)] below meth c s₁ [] 0 0 := Stand.of_body Bd
  have e0 : s₁.heap = h0 := by rw [← hh, Bd.state]; rfl
  have N0 := Fr.nil n0
  show own_Go p e below s (Qof0 Z o0 o1 o3 o4 w_o1_size w_o1_elementData w_o1_elementData_0 w_o1_elementData_1 w_o1_elementData_2 w_o1_elementData_3 w_o1_elementData_4 w_o1_elementData_5 w_o1_elementData_6 w_o1_elementData_7 w_o1_elementData_8 w_o1_elementData_9 h0 n0) ({ frames := 3, cells := 0, slots := 0, locals := 40 } : Room).cells ({ frames := 3, cells := 0, slots := 0, locals := 40 } : Room).slots (s₁.setTop (entryFrame m #[(.ref o0), (.ref o1), (.int (0 : Int32)), (.ref o3), (.ref o4)] 5))
  rw [ef_of0 m o0 o1 o3 o4]
  have K0 : Keep h0 h0 [] := Keep.refl h0 []
  refine own_go (S' := s₁.setTop (mkF m 2 #[.val (.ref o0), .val (.ref o1), .val (.int (0 : Int32)), .val (.ref o3), .val (.ref o4)] [(.ref o1), (.int (0 : Int32))])) (fun t k => ?_) ?_
  · show Steps p.tables e below (s₁.setTop (mkF m 0 #[.val (.ref o0), .val (.ref o1), .val (.int (0 : Int32)), .val (.ref o3), .val (.ref o4)] [])) t
    refine XS.iloadN X0.here hx rfl (hb hby d14_0) rfl ?_
    show Steps p.tables e below (s₁.setTop (mkF m 1 #[.val (.ref o0), .val (.ref o1), .val (.int (0 : Int32)), .val (.ref o3), .val (.ref o4)] [(.int (0 : Int32))])) t
    refine XS.aloadN X0.here hx rfl (hb hby d14_1) rfl rfl ?_
    exact k
  obtain ⟨cq384, kq384, qa384, qb384, qc384⟩ := isOf hZ e0 E_o1
  obtain ⟨_, _, ⟨T384, L384, kk384, nn384⟩, -, X384, ⟨Lc384, hQ384, l384, y384, z384⟩, st384⟩ := X0.interfaceBack hx (xi := (⟨"java/util/List", "size", "()I"⟩ : MethodName)) (y := (⟨"java/util/ArrayList", "size", "()I"⟩ : MethodName)) hown (mvT hZ (hw _ (List.mem_of_getElem? (i := 91) rfl))) (mvT hZ (hw _ (List.mem_of_getElem? (i := 92) rfl))) (mvT hZ (hw _ (List.mem_of_getElem? (i := 93) rfl))) (mvT hZ (hw _ (List.mem_of_getElem? (i := 94) rfl))) (mvT hZ (hw _ (List.mem_of_getElem? (i := 95) rfl))) (mvT hZ (hw _ (List.mem_of_getElem? (i := 96) rfl))) (mvT hZ (hw _ (List.mem_of_getElem? (i := 97) rfl))) (mvT hZ (hw _ (List.mem_of_getElem? (i := 98) rfl))) (by decide) (backOf (W := 1) (alSize l Z a0 hw [] o1 w_o1_size h0 n0 Z0 F_o1_size) hZ (hw _ (List.mem_of_getElem? (i := 99) rfl)) (hw _ (List.mem_of_getElem? (i := 28) rfl)) (by decide) (by decide)) qa384 qb384 qc384 (g := (mkF m 2 #[.val (.ref o0), .val (.ref o1), .val (.int (0 : Int32)), .val (.ref o3), .val (.ref o4)] [(.ref o1), (.int (0 : Int32))])) rfl (by rw [hml]; rfl) (Steps.refl _) (argsL := []) (rest := [(.int (0 : Int32))]) (lenOf pd_164 rfl) rfl (by show 2 * 0 + _ ≤ _; exact Nat.le_of_eq rfl) (hb hby d14_2) (fun _ _ => ⟨rfl, e0, (by decide : 0 + 0 ≤ _), (by decide : 0 + 0 ≤ _)⟩)
  dsimp only [Pt.U, Pt.locs, Pt.cells, Pt.slots] at X384 l384 y384 z384 st384 hQ384
  subst l384 y384 z384
  obtain ⟨rfl, N385, e384⟩ := hQ384
  have N387 := Fr.app N0 N385
  refine own_goT st384 ?_
  refine own_go (S' := T384.setTop (mkF m 29 #[.val (.ref o0), .val (.ref o1), .val (.int (0 : Int32)), .val (.ref o3), .val (.ref o4)] [(.int (0 : Int32)), (.ref o1)])) (fun t k => ?_) ?_
  · show Steps p.tables e below (T384.setTop (mkF m 7 #[.val (.ref o0), .val (.ref o1), .val (.int (0 : Int32)), .val (.ref o3), .val (.ref o4)] [(.int w_o1_size), (.int (0 : Int32))])) t
    refine XS.icmpYes X384.here hx rfl (pc0 := 7) (pc' := 27) rfl (hb hby d14_7) rfl (feq hc7).2 (by decide) (by decide) ?_
    show Steps p.tables e below (T384.setTop (mkF m 27 #[.val (.ref o0), .val (.ref o1), .val (.int (0 : Int32)), .val (.ref o3), .val (.ref o4)] [])) t
    refine XS.aloadN X384.here hx rfl (hb hby d14_27) rfl rfl ?_
    show Steps p.tables e below (T384.setTop (mkF m 28 #[.val (.ref o0), .val (.ref o1), .val (.int (0 : Int32)), .val (.ref o3), .val (.ref o4)] [(.ref o1)])) t
    refine XS.iloadN X384.here hx rfl (hb hby d14_28) rfl ?_
    exact k
  obtain ⟨cq388, kq388, qa388, qb388, qc388⟩ := isOf hZ e384 E_o1
  obtain ⟨_, _, ⟨T388, L388, kk388, nn388⟩, -, X388, ⟨Lc388, hQ388, l388, y388, z388⟩, st388⟩ := X384.interfaceBack hx (xi := (⟨"java/util/List", "get", "(I)Ljava/lang/Object;"⟩ : MethodName)) (y := (⟨"java/util/ArrayList", "get", "(I)Ljava/lang/Object;"⟩ : MethodName)) hown (mvT hZ (hw _ (List.mem_of_getElem? (i := 100) rfl))) (mvT hZ (hw _ (List.mem_of_getElem? (i := 101) rfl))) (mvT hZ (hw _ (List.mem_of_getElem? (i := 102) rfl))) (mvT hZ (hw _ (List.mem_of_getElem? (i := 103) rfl))) (mvT hZ (hw _ (List.mem_of_getElem? (i := 104) rfl))) (mvT hZ (hw _ (List.mem_of_getElem? (i := 105) rfl))) (mvT hZ (hw _ (List.mem_of_getElem? (i := 106) rfl))) (mvT hZ (hw _ (List.mem_of_getElem? (i := 98) rfl))) (by decide) (backOf (W := 0) (get0 l Z a0 hw [] o1 w_o1_size w_o1_elementData w_o1_elementData_0 w_o1_elementData_1 w_o1_elementData_2 w_o1_elementData_3 w_o1_elementData_4 w_o1_elementData_5 w_o1_elementData_6 w_o1_elementData_7 w_o1_elementData_8 w_o1_elementData_9 h0 n0 Z0 (hc6 : (0 : Int32) < w_o1_size) F_o1_size F_o1_elementData B_w_o1_elementData E_o1) hZ (hw _ (List.mem_of_getElem? (i := 107) rfl)) (hw _ (List.mem_of_getElem? (i := 28) rfl)) (by decide) (by decide)) qa388 qb388 qc388 (g := (mkF m 29 #[.val (.ref o0), .val (.ref o1), .val (.int (0 : Int32)), .val (.ref o3), .val (.ref o4)] [(.int (0 : Int32)), (.ref o1)])) rfl (by rw [hml]; rfl) (Steps.refl _) (argsL := [(.int (0 : Int32))]) (rest := []) (lenOf pd_159 rfl) rfl (by show 2 * 0 + _ ≤ _; exact Nat.le_of_eq rfl) (hb hby d14_29) (fun _ _ => ⟨rfl, e384, (by decide : 0 + 0 ≤ _), (by decide : 0 + 0 ≤ _)⟩)
  dsimp only [Pt.U, Pt.locs, Pt.cells, Pt.slots] at X388 l388 y388 z388 st388 hQ388
  subst l388 y388 z388
  obtain ⟨rfl, N389, e388⟩ := hQ388
  have N391 := Fr.app N387 N389
  refine own_goT st388 ?_
  obtain ⟨T392, X392, e392, st392⟩ := castY X388 hx hZ hown (hw _ (List.mem_of_getElem? (i := 121) rfl)) e388 (Ins.self E_w_o1_elementData_0) (g := (mkF m 34 #[.val (.ref o0), .val (.ref o1), .val (.int (0 : Int32)), .val (.ref o3), .val (.ref o4)] [(.ref w_o1_elementData_0)])) rfl rfl (hb hby d14_34)
  refine own_go st392 ?_
  obtain ⟨fs, hr, hrun, hended, hW, hsame⟩ := X392.leave (v := some (.ref w_o1_elementData_0)) (fun h => by rw [Bd.returns] at h; cases h)
  refine own_end (v := some (.ref w_o1_elementData_0)) ?_ hrun hended ?_ hW (hsame.mono (by decide) (by decide))
  · show Steps p.tables e below (T392.setTop (mkF m 37 #[.val (.ref o0), .val (.ref o1), .val (.int (0 : Int32)), .val (.ref o3), .val (.ref o4)] [(.ref w_o1_elementData_0)])) _
    jvm_step X392.here [X392.here.top, hx, (hb hby d14_37), X392.method', Bd.returns, Value.isRef, FieldType.isReference]
    first | (intro acts; rw [hr _ acts rfl rfl rfl]) | rw [hr _ _ rfl rfl rfl]
    exact Steps.refl _
  · show Qof0 Z o0 o1 o3 o4 w_o1_size w_o1_elementData w_o1_elementData_0 w_o1_elementData_1 w_o1_elementData_2 w_o1_elementData_3 w_o1_elementData_4 w_o1_elementData_5 w_o1_elementData_6 w_o1_elementData_7 w_o1_elementData_8 w_o1_elementData_9 h0 n0 _ T392.heap _
    rw [e392]
    exact ⟨rfl, N391, rfl⟩
theorem ef_elD1 (m : MethodId) (x0 : Addr) : entryFrame m #[(.ref x0), (.int (1 : Int32))] 2 = mkF m 0 #[.val (.ref x0), .val (.int (1 : Int32))] [] := by first | (simp [entryFrame, mkF, argsToLocals, Value.category]; done) | rfl
def QelD1 (Z : State) (o0 : Addr) (w_o0_elementData : Addr) (u0 : Value) (r1 : Addr) (u2 : Value) (u3 : Value) (u4 : Value) (u5 : Value) (u6 : Value) (u7 : Value) (u8 : Value) (u9 : Value) (h0 : Heap) (n0 : Nat) (v : Option Value) (h : Heap) (L : List Loc) : Prop := v = some (.ref r1) ∧ Fr n0 L ∧ h = h0
set_option maxRecDepth 65536 in
set_option maxHeartbeats 40000000 in
theorem elD1 (l : Launch) (Z : State) (a0 : Array Value) (hw : ∀ d ∈ tables_1, d.before a0 Z = true) (ws : List Jvm.Cond) (o0 : Addr) (w_o0_elementData : Addr) (u0 : Value) (r1 : Addr) (u2 : Value) (u3 : Value) (u4 : Value) (u5 : Value) (u6 : Value) (u7 : Value) (u8 : Value) (u9 : Value) (h0 : Heap) (n0 : Nat) (Z0 : n0 ≤ h0.size) (F_o0_elementData : Fld Z h0 o0 "java/util/ArrayList" "elementData" "[Ljava/lang/Object;" (.ref w_o0_elementData)) (B_w_o0_elementData : own_ArvR Z h0 w_o0_elementData "java/lang/Object" (10 : Int32) [u0, (.ref r1), u2, u3, u4, u5, u6, u7, u8, u9]) :
    MetFree l (⟨"java/util/ArrayList", "elementData", "(I)Ljava/lang/Object;"⟩ : MethodName) (head1 (Jvm.Cond.code (⟨"java/util/ArrayList", "elementData", "(I)Ljava/lang/Object;"⟩ : MethodName) jdk_38_method_18_code 2 (some (.object "java/lang/Object")) :: ws) ({ frames := 0, cells := 0, slots := 0, locals := 0 } : Room)) (fun a U => a = #[(.ref o0), (.int (1 : Int32))] ∧ Z.Warmed39 U.vm ∧ U.heap = h0) (fun _ _ _ _ _ => True) (fun _ U o U' => ∃ v L, o = .returned v ∧ QelD1 Z o0 w_o0_elementData u0 r1 u2 u3 u4 u5 u6 u7 u8 u9 h0 n0 v U'.heap L ∧ FrameEnd U o U' L ({ frames := 0, cells := 0, slots := 0, locals := 0 } : Room).cells ({ frames := 0, cells := 0, slots := 0, locals := 0 } : Room).slots) := by
  refine MetFree.of_bodySF (plainFor_of_name pn_59) hisR ?_
  intro p e s m args below meth c s₁ Bd hml0 hP hK
  obtain ⟨rfl, hZ, hh⟩ := hP
  have hx := Bd.exec
  have hby := Bd.bytes
  have hml : c.maxLocals = 2 := hml0
  have hown : s.vm.findClass "java/util/ArrayList" = some m.cls := findClass_of_methodNamed Bd.named
  have hnm := (name_of_methodNamed Bd.named Bd.method).1
  have X0 : Stand p l e ({ frames := 0, cells := 0, slots := 0, locals := 0 } : Room) s m #[(.ref o0), (.int (1 : Int32))] below meth c s₁ [] 0 0 := Stand.of_body Bd
  have e0 : s₁.heap = h0 := by rw [← hh, Bd.state]; rfl
  have N0 := Fr.nil n0
  show own_Go p e below s (QelD1 Z o0 w_o0_elementData u0 r1 u2 u3 u4 u5 u6 u7 u8 u9 h0 n0) ({ frames := 0, cells := 0, slots := 0, locals := 0 } : Room).cells ({ frames := 0, cells := 0, slots := 0, locals := 0 } : Room).slots (s₁.setTop (entryFrame m #[(.ref o0), (.int (1 : Int32))] 2))
  rw [ef_elD1 m o0]
  have K0 : Keep h0 h0 [] := Keep.refl h0 []
  refine own_go (S' := s₁.setTop (mkF m 1 #[.val (.ref o0), .val (.int (1 : Int32))] [(.ref o0)])) (fun t k => ?_) ?_
  · show Steps p.tables e below (s₁.setTop (mkF m 0 #[.val (.ref o0), .val (.int (1 : Int32))] [])) t
    refine XS.aloadN X0.here hx rfl (hb hby d19_0) rfl rfl ?_
    exact k
  obtain ⟨T393, X393, e393, st393⟩ := getF X0 hx hZ hown (host := "") (Or.inl (hw _ (List.mem_of_getElem? (i := 48) rfl))) Via.refl e0 F_o0_elementData (g := (mkF m 1 #[.val (.ref o0), .val (.int (1 : Int32))] [(.ref o0)])) rfl rfl (hb hby d19_1)
  refine own_go st393 ?_
  refine own_go (S' := T393.setTop (mkF m 5 #[.val (.ref o0), .val (.int (1 : Int32))] [(.int (1 : Int32)), (.ref w_o0_elementData)])) (fun t k => ?_) ?_
  · show Steps p.tables e below (T393.setTop (mkF m 4 #[.val (.ref o0), .val (.int (1 : Int32))] [(.ref w_o0_elementData)])) t
    refine XS.iloadN X393.here hx rfl (hb hby d19_4) rfl ?_
    exact k
  obtain ⟨kq394, ⟨cl394, Ar394, q394, S394, Nn394, Hh394, G394⟩, Ov394⟩ := id B_w_o0_elementData
  refine own_go (S' := T393.setTop (mkF m 6 #[.val (.ref o0), .val (.int (1 : Int32))] [(.ref r1)])) (fun t k => ?_) ?_
  · show Steps p.tables e below (T393.setTop (mkF m 5 #[.val (.ref o0), .val (.int (1 : Int32))] [(.int (1 : Int32)), (.ref w_o0_elementData)])) t
    exact X393.aaload hx (j := (1 : Int32)) (v := (.ref r1)) (by (try rw [e393]); exact Ar394.1) (State.isArrayOf_alike hZ.alike Ar394.2.1) rfl Ar394.2.2 (inb_of S394 ⟨by decide, by decide⟩) (Hh394.at (inb_of S394 ⟨by decide, by decide⟩) rfl) (g := (mkF m 5 #[.val (.ref o0), .val (.int (1 : Int32))] [(.int (1 : Int32)), (.ref w_o0_elementData)])) rfl rfl (hb hby d19_5) _ k
  obtain ⟨fs, hr, hrun, hended, hW, hsame⟩ := X393.leave (v := some (.ref r1)) (fun h => by rw [Bd.returns] at h; cases h)
  refine own_end (v := some (.ref r1)) ?_ hrun hended ?_ hW (hsame.mono (by decide) (by decide))
  · show Steps p.tables e below (T393.setTop (mkF m 6 #[.val (.ref o0), .val (.int (1 : Int32))] [(.ref r1)])) _
    jvm_step X393.here [X393.here.top, hx, (hb hby d19_6), X393.method', Bd.returns, Value.isRef, FieldType.isReference]
    first | (intro acts; rw [hr _ acts rfl rfl rfl]) | rw [hr _ _ rfl rfl rfl]
    exact Steps.refl _
  · show QelD1 Z o0 w_o0_elementData u0 r1 u2 u3 u4 u5 u6 u7 u8 u9 h0 n0 _ T393.heap _
    rw [e393]
    exact ⟨rfl, N0, rfl⟩
theorem ef_get1 (m : MethodId) (x0 : Addr) : entryFrame m #[(.ref x0), (.int (1 : Int32))] 2 = mkF m 0 #[.val (.ref x0), .val (.int (1 : Int32))] [] := by first | (simp [entryFrame, mkF, argsToLocals, Value.category]; done) | rfl
def Qget1 (Z : State) (o0 : Addr) (w_o0_size : Int32) (w_o0_elementData : Addr) (w_o0_elementData_0 : Value) (w_o0_elementData_1 : Addr) (w_o0_elementData_2 : Value) (w_o0_elementData_3 : Value) (w_o0_elementData_4 : Value) (w_o0_elementData_5 : Value) (w_o0_elementData_6 : Value) (w_o0_elementData_7 : Value) (w_o0_elementData_8 : Value) (w_o0_elementData_9 : Value) (h0 : Heap) (n0 : Nat) (v : Option Value) (h : Heap) (L : List Loc) : Prop := v = some (.ref w_o0_elementData_1) ∧ Fr n0 L ∧ h = h0
set_option maxRecDepth 65536 in
set_option maxHeartbeats 40000000 in
theorem get1 (l : Launch) (Z : State) (a0 : Array Value) (hw : ∀ d ∈ tables_1, d.before a0 Z = true) (ws : List Jvm.Cond) (o0 : Addr) (w_o0_size : Int32) (w_o0_elementData : Addr) (w_o0_elementData_0 : Value) (w_o0_elementData_1 : Addr) (w_o0_elementData_2 : Value) (w_o0_elementData_3 : Value) (w_o0_elementData_4 : Value) (w_o0_elementData_5 : Value) (w_o0_elementData_6 : Value) (w_o0_elementData_7 : Value) (w_o0_elementData_8 : Value) (w_o0_elementData_9 : Value) (h0 : Heap) (n0 : Nat) (Z0 : n0 ≤ h0.size) (hc6 : (1 : Int32) < w_o0_size) (F_o0_size : Fld Z h0 o0 "java/util/ArrayList" "size" "I" (.int w_o0_size)) (F_o0_elementData : Fld Z h0 o0 "java/util/ArrayList" "elementData" "[Ljava/lang/Object;" (.ref w_o0_elementData)) (B_w_o0_elementData : own_ArvR Z h0 w_o0_elementData "java/lang/Object" (10 : Int32) [w_o0_elementData_0, (.ref w_o0_elementData_1), w_o0_elementData_2, w_o0_elementData_3, w_o0_elementData_4, w_o0_elementData_5, w_o0_elementData_6, w_o0_elementData_7, w_o0_elementData_8, w_o0_elementData_9]) (E_o0 : Exa Z h0 o0 "java/util/ArrayList") :
    MetFree l (⟨"java/util/ArrayList", "get", "(I)Ljava/lang/Object;"⟩ : MethodName) (head1 (Jvm.Cond.code (⟨"java/util/ArrayList", "get", "(I)Ljava/lang/Object;"⟩ : MethodName) jdk_38_method_20_code 2 (some (.object "java/lang/Object")) :: ws) ({ frames := 2, cells := 0, slots := 0, locals := 27 } : Room)) (fun a U => a = #[(.ref o0), (.int (1 : Int32))] ∧ Z.Warmed39 U.vm ∧ U.heap = h0) (fun _ _ _ _ _ => True) (fun _ U o U' => ∃ v L, o = .returned v ∧ Qget1 Z o0 w_o0_size w_o0_elementData w_o0_elementData_0 w_o0_elementData_1 w_o0_elementData_2 w_o0_elementData_3 w_o0_elementData_4 w_o0_elementData_5 w_o0_elementData_6 w_o0_elementData_7 w_o0_elementData_8 w_o0_elementData_9 h0 n0 v U'.heap L ∧ FrameEnd U o U' L ({ frames := 2, cells := 0, slots := 0, locals := 27 } : Room).cells ({ frames := 2, cells := 0, slots := 0, locals := 27 } : Room).slots) := by
  refine MetFree.of_bodySF (plainFor_of_name pn_59) hisR ?_
  intro p e s m args below meth c s₁ Bd hml0 hP hK
  obtain ⟨rfl, hZ, hh⟩ := hP
  have hx := Bd.exec
  have hby := Bd.bytes
  have hml : c.maxLocals = 2 := hml0
  have hown : s.vm.findClass "java/util/ArrayList" = some m.cls := findClass_of_methodNamed Bd.named
  have hnm := (name_of_methodNamed Bd.named Bd.method).1
  have X0 : Stand p l e ({ frames := 2, cells := 0, slots := 0, locals := 27 } : Room) s m #[(.ref o0), (.int (1 : Int32))] below meth c s₁ [] 0 0 := Stand.of_body Bd
  have e0 : s₁.heap = h0 := by rw [← hh, Bd.state]; rfl
  have N0 := Fr.nil n0
  show own_Go p e below s (Qget1 Z o0 w_o0_size w_o0_elementData w_o0_elementData_0 w_o0_elementData_1 w_o0_elementData_2 w_o0_elementData_3 w_o0_elementData_4 w_o0_elementData_5 w_o0_elementData_6 w_o0_elementData_7 w_o0_elementData_8 w_o0_elementData_9 h0 n0) ({ frames := 2, cells := 0, slots := 0, locals := 27 } : Room).cells ({ frames := 2, cells := 0, slots := 0, locals := 27 } : Room).slots (s₁.setTop (entryFrame m #[(.ref o0), (.int (1 : Int32))] 2))
  rw [ef_get1 m o0]
  have K0 : Keep h0 h0 [] := Keep.refl h0 []
  refine own_go (S' := s₁.setTop (mkF m 2 #[.val (.ref o0), .val (.int (1 : Int32))] [(.ref o0), (.int (1 : Int32))])) (fun t k => ?_) ?_
  · show Steps p.tables e below (s₁.setTop (mkF m 0 #[.val (.ref o0), .val (.int (1 : Int32))] [])) t
    refine XS.iloadN X0.here hx rfl (hb hby d16_0) rfl ?_
    show Steps p.tables e below (s₁.setTop (mkF m 1 #[.val (.ref o0), .val (.int (1 : Int32))] [(.int (1 : Int32))])) t
    refine XS.aloadN X0.here hx rfl (hb hby d16_1) rfl rfl ?_
    exact k
  obtain ⟨T395, X395, e395, st395⟩ := getF X0 hx hZ hown (host := "") (Or.inl (hw _ (List.mem_of_getElem? (i := 57) rfl))) Via.refl e0 F_o0_size (g := (mkF m 2 #[.val (.ref o0), .val (.int (1 : Int32))] [(.ref o0), (.int (1 : Int32))])) rfl rfl (hb hby d16_2)
  refine own_go st395 ?_
  obtain ⟨_, _, ⟨T396, L396, kk396, nn396⟩, -, X396, ⟨Lc396, hQ396, l396, y396, z396⟩, st396⟩ := Jvm.LawKit.callS X395 hx (y := (⟨"java/util/Objects", "checkIndex", "(II)I"⟩ : MethodName)) hown (mvT hZ (hw _ (List.mem_of_getElem? (i := 108) rfl))) (mvT hZ (hw _ (List.mem_of_getElem? (i := 109) rfl))) (mvT hZ (hw _ (List.mem_of_getElem? (i := 110) rfl))) (mvT hZ (hw _ (List.mem_of_getElem? (i := 111) rfl))) (by decide) (backOf (W := 0) (oChk l Z a0 hw [] (1 : Int32) w_o0_size h0 n0 Z0 (by decide : ¬ ((1 : Int32) < (0 : Int32))) (hc6 : (1 : Int32) < w_o0_size)) hZ (hw _ (List.mem_of_getElem? (i := 111) rfl)) (hw _ (List.mem_of_getElem? (i := 110) rfl)) (by decide) (by decide)) (g := (mkF m 5 #[.val (.ref o0), .val (.int (1 : Int32))] [(.int w_o0_size), (.int (1 : Int32))])) rfl (by rw [hml]; rfl) (argsL := [(.int (1 : Int32)), (.int w_o0_size)]) (rest := []) (lenOf pd_81 rfl) rfl (by show 2 * 0 + _ ≤ _; exact Nat.le_of_eq rfl) (hb hby d16_5) (fun _ _ => ⟨rfl, e395, (by decide : 0 + 0 ≤ _), (by decide : 0 + 0 ≤ _)⟩)
  dsimp only [Pt.U, Pt.locs, Pt.cells, Pt.slots] at X396 l396 y396 z396 st396 hQ396
  subst l396 y396 z396
  obtain ⟨rfl, N397, e396⟩ := hQ396
  have N399 := Fr.app N0 N397
  refine own_go st396 ?_
  refine own_go (S' := T396.setTop (mkF m 11 #[.val (.ref o0), .val (.int (1 : Int32))] [(.int (1 : Int32)), (.ref o0)])) (fun t k => ?_) ?_
  · show Steps p.tables e below (T396.setTop (mkF m 8 #[.val (.ref o0), .val (.int (1 : Int32))] [(.int (1 : Int32))])) t
    refine XS.pop X396.here hx rfl (hb hby d16_8) rfl rfl ?_
    show Steps p.tables e below (T396.setTop (mkF m 9 #[.val (.ref o0), .val (.int (1 : Int32))] [])) t
    refine XS.aloadN X396.here hx rfl (hb hby d16_9) rfl rfl ?_
    show Steps p.tables e below (T396.setTop (mkF m 10 #[.val (.ref o0), .val (.int (1 : Int32))] [(.ref o0)])) t
    refine XS.iloadN X396.here hx rfl (hb hby d16_10) rfl ?_
    exact k
  obtain ⟨cq400, kq400, qa400, qb400, qc400⟩ := isOf hZ e396 E_o0
  obtain ⟨_, _, ⟨T400, L400, kk400, nn400⟩, -, X400, ⟨Lc400, hQ400, l400, y400, z400⟩, st400⟩ := X396.virtualBack hx (y := (⟨"java/util/ArrayList", "elementData", "(I)Ljava/lang/Object;"⟩ : MethodName)) (z := (⟨"java/util/ArrayList", "elementData", "(I)Ljava/lang/Object;"⟩ : MethodName)) hown (mvT hZ (hw _ (List.mem_of_getElem? (i := 116) rfl))) (mvT hZ (hw _ (List.mem_of_getElem? (i := 117) rfl))) (notFace_of_selects (args := #[]) (mvT hZ (hw _ (List.mem_of_getElem? (i := 119) rfl)))) (mvT hZ (hw _ (List.mem_of_getElem? (i := 119) rfl))) (mvT hZ (hw _ (List.mem_of_getElem? (i := 118) rfl))) (by decide) (backOf (W := 0) (elD1 l Z a0 hw [] o0 w_o0_elementData w_o0_elementData_0 w_o0_elementData_1 w_o0_elementData_2 w_o0_elementData_3 w_o0_elementData_4 w_o0_elementData_5 w_o0_elementData_6 w_o0_elementData_7 w_o0_elementData_8 w_o0_elementData_9 h0 n0 Z0 F_o0_elementData B_w_o0_elementData) hZ (hw _ (List.mem_of_getElem? (i := 120) rfl)) (hw _ (List.mem_of_getElem? (i := 28) rfl)) (by decide) (by decide)) qa400 qc400 (g := (mkF m 11 #[.val (.ref o0), .val (.int (1 : Int32))] [(.int (1 : Int32)), (.ref o0)])) rfl (by rw [hml]; rfl) (Steps.refl _) (argsL := [(.int (1 : Int32))]) (rest := []) (lenOf pd_159 rfl) rfl (by show 2 * 0 + _ ≤ _; exact Nat.le_of_eq rfl) (hb hby d16_11) (fun _ _ => ⟨rfl, e396, (by decide : 0 + 0 ≤ _), (by decide : 0 + 0 ≤ _)⟩)
  dsimp only [Pt.U, Pt.locs, Pt.cells, Pt.slots] at X400 l400 y400 z400 st400 hQ400
  subst l400 y400 z400
  obtain ⟨rfl, N401, e400⟩ := hQ400
  have N403 := Fr.app N399 N401
  refine own_goT st400 ?_
  obtain ⟨fs, hr, hrun, hended, hW, hsame⟩ := X400.leave (v := some (.ref w_o0_elementData_1)) (fun h => by rw [Bd.returns] at h; cases h)
  refine own_end (v := some (.ref w_o0_elementData_1)) ?_ hrun hended ?_ hW (hsame.mono (by decide) (by decide))
  · show Steps p.tables e below (T400.setTop (mkF m 14 #[.val (.ref o0), .val (.int (1 : Int32))] [(.ref w_o0_elementData_1)])) _
    jvm_step X400.here [X400.here.top, hx, (hb hby d16_14), X400.method', Bd.returns, Value.isRef, FieldType.isReference]
    first | (intro acts; rw [hr _ acts rfl rfl rfl]) | rw [hr _ _ rfl rfl rfl]
    exact Steps.refl _
  · show Qget1 Z o0 w_o0_size w_o0_elementData w_o0_elementData_0 w_o0_elementData_1 w_o0_elementData_2 w_o0_elementData_3 w_o0_elementData_4 w_o0_elementData_5 w_o0_elementData_6 w_o0_elementData_7 w_o0_elementData_8 w_o0_elementData_9 h0 n0 _ T400.heap _
    rw [e400]
    exact ⟨rfl, N403, rfl⟩
theorem ef_of1 (m : MethodId) (x0 : Addr) (x1 : Addr) (x3 : Addr) (x4 : Addr) : entryFrame m #[(.ref x0), (.ref x1), (.int (1 : Int32)), (.ref x3), (.ref x4)] 5 = mkF m 0 #[.val (.ref x0), .val (.ref x1), .val (.int (1 : Int32)), .val (.ref x3), .val (.ref x4)] [] := by first | (simp [entryFrame, mkF, argsToLocals, Value.category]; done) | rfl
def Qof1 (Z : State) (o0 : Addr) (o1 : Addr) (o3 : Addr) (o4 : Addr) (w_o1_size : Int32) (w_o1_elementData : Addr) (w_o1_elementData_0 : Value) (w_o1_elementData_1 : Addr) (w_o1_elementData_2 : Value) (w_o1_elementData_3 : Value) (w_o1_elementData_4 : Value) (w_o1_elementData_5 : Value) (w_o1_elementData_6 : Value) (w_o1_elementData_7 : Value) (w_o1_elementData_8 : Value) (w_o1_elementData_9 : Value) (h0 : Heap) (n0 : Nat) (v : Option Value) (h : Heap) (L : List Loc) : Prop := v = some (.ref w_o1_elementData_1) ∧ Fr n0 L ∧ h = h0
set_option maxRecDepth 65536 in
set_option maxHeartbeats 40000000 in
theorem of1 (l : Launch) (Z : State) (a0 : Array Value) (hw : ∀ d ∈ tables_1, d.before a0 Z = true) (ws : List Jvm.Cond) (o0 : Addr) (o1 : Addr) (o3 : Addr) (o4 : Addr) (w_o1_size : Int32) (w_o1_elementData : Addr) (w_o1_elementData_0 : Value) (w_o1_elementData_1 : Addr) (w_o1_elementData_2 : Value) (w_o1_elementData_3 : Value) (w_o1_elementData_4 : Value) (w_o1_elementData_5 : Value) (w_o1_elementData_6 : Value) (w_o1_elementData_7 : Value) (w_o1_elementData_8 : Value) (w_o1_elementData_9 : Value) (h0 : Heap) (n0 : Nat) (Z0 : n0 ≤ h0.size) (hc6 : (1 : Int32) < w_o1_size) (F_o1_size : Fld Z h0 o1 "java/util/ArrayList" "size" "I" (.int w_o1_size)) (E_o1 : Exa Z h0 o1 "java/util/ArrayList") (hc7 : ¬ ((1 : Int32) = w_o1_size)) (F_o1_elementData : Fld Z h0 o1 "java/util/ArrayList" "elementData" "[Ljava/lang/Object;" (.ref w_o1_elementData)) (B_w_o1_elementData : own_ArvR Z h0 w_o1_elementData "java/lang/Object" (10 : Int32) [w_o1_elementData_0, (.ref w_o1_elementData_1), w_o1_elementData_2, w_o1_elementData_3, w_o1_elementData_4, w_o1_elementData_5, w_o1_elementData_6, w_o1_elementData_7, w_o1_elementData_8, w_o1_elementData_9]) (E_w_o1_elementData_1 : Exa Z h0 w_o1_elementData_1 "java/lang/String") :
    MetFree l (⟨"com/example/scorebench/scorebench/OptionValue", "of", "(Ljava/lang/String;Ljava/util/List;ILjava/lang/String;Ljava/lang/String;)Ljava/lang/String;"⟩ : MethodName) (head1 (Jvm.Cond.code (⟨"com/example/scorebench/scorebench/OptionValue", "of", "(Ljava/lang/String;Ljava/util/List;ILjava/lang/String;Ljava/lang/String;)Ljava/lang/String;"⟩ : MethodName) prog_4_method_2_code 5 (some (.object "java/lang/String")) :: ws) ({ frames := 3, cells := 0, slots := 0, locals := 40 } : Room)) (fun a U => a = #[(.ref o0), (.ref o1), (.int (1 : Int32)), (.ref o3), (.ref o4)] ∧ Z.Warmed39 U.vm ∧ U.heap = h0) (fun _ _ _ _ _ => True) (fun _ U o U' => ∃ v L, o = .returned v ∧ Qof1 Z o0 o1 o3 o4 w_o1_size w_o1_elementData w_o1_elementData_0 w_o1_elementData_1 w_o1_elementData_2 w_o1_elementData_3 w_o1_elementData_4 w_o1_elementData_5 w_o1_elementData_6 w_o1_elementData_7 w_o1_elementData_8 w_o1_elementData_9 h0 n0 v U'.heap L ∧ FrameEnd U o U' L ({ frames := 3, cells := 0, slots := 0, locals := 40 } : Room).cells ({ frames := 3, cells := 0, slots := 0, locals := 40 } : Room).slots) := by
  refine MetFree.of_bodySF (plainFor_of_name pn_171) hisR ?_
  intro p e s m args below meth c s₁ Bd hml0 hP hK
  obtain ⟨rfl, hZ, hh⟩ := hP
  have hx := Bd.exec
  have hby := Bd.bytes
  have hml : c.maxLocals = 5 := hml0
  have hown : s.vm.findClass "com/example/scorebench/scorebench/OptionValue" = some m.cls := findClass_of_methodNamed Bd.named
  have hnm := (name_of_methodNamed Bd.named Bd.method).1
  have X0 : Stand p l e ({ frames := 3, cells := 0, slots := 0, locals := 40 } : Room) s m #[(.ref o0), (.ref o1), (.int (1 : Int32)), (.ref o3), (.ref o4)] below meth c s₁ [] 0 0 := Stand.of_body Bd
  have e0 : s₁.heap = h0 := by rw [← hh, Bd.state]; rfl
  have N0 := Fr.nil n0
  show own_Go p e below s (Qof1 Z o0 o1 o3 o4 w_o1_size w_o1_elementData w_o1_elementData_0 w_o1_elementData_1 w_o1_elementData_2 w_o1_elementData_3 w_o1_elementData_4 w_o1_elementData_5 w_o1_elementData_6 w_o1_elementData_7 w_o1_elementData_8 w_o1_elementData_9 h0 n0) ({ frames := 3, cells := 0, slots := 0, locals := 40 } : Room).cells ({ frames := 3, cells := 0, slots := 0, locals := 40 } : Room).slots (s₁.setTop (entryFrame m #[(.ref o0), (.ref o1), (.int (1 : Int32)), (.ref o3), (.ref o4)] 5))
  rw [ef_of1 m o0 o1 o3 o4]
  have K0 : Keep h0 h0 [] := Keep.refl h0 []
  refine own_go (S' := s₁.setTop (mkF m 2 #[.val (.ref o0), .val (.ref o1), .val (.int (1 : Int32)), .val (.ref o3), .val (.ref o4)] [(.ref o1), (.int (1 : Int32))])) (fun t k => ?_) ?_
  · show Steps p.tables e below (s₁.setTop (mkF m 0 #[.val (.ref o0), .val (.ref o1), .val (.int (1 : Int32)), .val (.ref o3), .val (.ref o4)] [])) t
    refine XS.iloadN X0.here hx rfl (hb hby d14_0) rfl ?_
    show Steps p.tables e below (s₁.setTop (mkF m 1 #[.val (.ref o0), .val (.ref o1), .val (.int (1 : Int32)), .val (.ref o3), .val (.ref o4)] [(.int (1 : Int32))])) t
    refine XS.aloadN X0.here hx rfl (hb hby d14_1) rfl rfl ?_
    exact k
  obtain ⟨cq404, kq404, qa404, qb404, qc404⟩ := isOf hZ e0 E_o1
  obtain ⟨_, _, ⟨T404, L404, kk404, nn404⟩, -, X404, ⟨Lc404, hQ404, l404, y404, z404⟩, st404⟩ := X0.interfaceBack hx (xi := (⟨"java/util/List", "size", "()I"⟩ : MethodName)) (y := (⟨"java/util/ArrayList", "size", "()I"⟩ : MethodName)) hown (mvT hZ (hw _ (List.mem_of_getElem? (i := 91) rfl))) (mvT hZ (hw _ (List.mem_of_getElem? (i := 92) rfl))) (mvT hZ (hw _ (List.mem_of_getElem? (i := 93) rfl))) (mvT hZ (hw _ (List.mem_of_getElem? (i := 94) rfl))) (mvT hZ (hw _ (List.mem_of_getElem? (i := 95) rfl))) (mvT hZ (hw _ (List.mem_of_getElem? (i := 96) rfl))) (mvT hZ (hw _ (List.mem_of_getElem? (i := 97) rfl))) (mvT hZ (hw _ (List.mem_of_getElem? (i := 98) rfl))) (by decide) (backOf (W := 1) (alSize l Z a0 hw [] o1 w_o1_size h0 n0 Z0 F_o1_size) hZ (hw _ (List.mem_of_getElem? (i := 99) rfl)) (hw _ (List.mem_of_getElem? (i := 28) rfl)) (by decide) (by decide)) qa404 qb404 qc404 (g := (mkF m 2 #[.val (.ref o0), .val (.ref o1), .val (.int (1 : Int32)), .val (.ref o3), .val (.ref o4)] [(.ref o1), (.int (1 : Int32))])) rfl (by rw [hml]; rfl) (Steps.refl _) (argsL := []) (rest := [(.int (1 : Int32))]) (lenOf pd_164 rfl) rfl (by show 2 * 0 + _ ≤ _; exact Nat.le_of_eq rfl) (hb hby d14_2) (fun _ _ => ⟨rfl, e0, (by decide : 0 + 0 ≤ _), (by decide : 0 + 0 ≤ _)⟩)
  dsimp only [Pt.U, Pt.locs, Pt.cells, Pt.slots] at X404 l404 y404 z404 st404 hQ404
  subst l404 y404 z404
  obtain ⟨rfl, N405, e404⟩ := hQ404
  have N407 := Fr.app N0 N405
  refine own_goT st404 ?_
  refine own_go (S' := T404.setTop (mkF m 29 #[.val (.ref o0), .val (.ref o1), .val (.int (1 : Int32)), .val (.ref o3), .val (.ref o4)] [(.int (1 : Int32)), (.ref o1)])) (fun t k => ?_) ?_
  · show Steps p.tables e below (T404.setTop (mkF m 7 #[.val (.ref o0), .val (.ref o1), .val (.int (1 : Int32)), .val (.ref o3), .val (.ref o4)] [(.int w_o1_size), (.int (1 : Int32))])) t
    refine XS.icmpYes X404.here hx rfl (pc0 := 7) (pc' := 27) rfl (hb hby d14_7) rfl (feq hc7).2 (by decide) (by decide) ?_
    show Steps p.tables e below (T404.setTop (mkF m 27 #[.val (.ref o0), .val (.ref o1), .val (.int (1 : Int32)), .val (.ref o3), .val (.ref o4)] [])) t
    refine XS.aloadN X404.here hx rfl (hb hby d14_27) rfl rfl ?_
    show Steps p.tables e below (T404.setTop (mkF m 28 #[.val (.ref o0), .val (.ref o1), .val (.int (1 : Int32)), .val (.ref o3), .val (.ref o4)] [(.ref o1)])) t
    refine XS.iloadN X404.here hx rfl (hb hby d14_28) rfl ?_
    exact k
  obtain ⟨cq408, kq408, qa408, qb408, qc408⟩ := isOf hZ e404 E_o1
  obtain ⟨_, _, ⟨T408, L408, kk408, nn408⟩, -, X408, ⟨Lc408, hQ408, l408, y408, z408⟩, st408⟩ := X404.interfaceBack hx (xi := (⟨"java/util/List", "get", "(I)Ljava/lang/Object;"⟩ : MethodName)) (y := (⟨"java/util/ArrayList", "get", "(I)Ljava/lang/Object;"⟩ : MethodName)) hown (mvT hZ (hw _ (List.mem_of_getElem? (i := 100) rfl))) (mvT hZ (hw _ (List.mem_of_getElem? (i := 101) rfl))) (mvT hZ (hw _ (List.mem_of_getElem? (i := 102) rfl))) (mvT hZ (hw _ (List.mem_of_getElem? (i := 103) rfl))) (mvT hZ (hw _ (List.mem_of_getElem? (i := 104) rfl))) (mvT hZ (hw _ (List.mem_of_getElem? (i := 105) rfl))) (mvT hZ (hw _ (List.mem_of_getElem? (i := 106) rfl))) (mvT hZ (hw _ (List.mem_of_getElem? (i := 98) rfl))) (by decide) (backOf (W := 0) (get1 l Z a0 hw [] o1 w_o1_size w_o1_elementData w_o1_elementData_0 w_o1_elementData_1 w_o1_elementData_2 w_o1_elementData_3 w_o1_elementData_4 w_o1_elementData_5 w_o1_elementData_6 w_o1_elementData_7 w_o1_elementData_8 w_o1_elementData_9 h0 n0 Z0 (hc6 : (1 : Int32) < w_o1_size) F_o1_size F_o1_elementData B_w_o1_elementData E_o1) hZ (hw _ (List.mem_of_getElem? (i := 107) rfl)) (hw _ (List.mem_of_getElem? (i := 28) rfl)) (by decide) (by decide)) qa408 qb408 qc408 (g := (mkF m 29 #[.val (.ref o0), .val (.ref o1), .val (.int (1 : Int32)), .val (.ref o3), .val (.ref o4)] [(.int (1 : Int32)), (.ref o1)])) rfl (by rw [hml]; rfl) (Steps.refl _) (argsL := [(.int (1 : Int32))]) (rest := []) (lenOf pd_159 rfl) rfl (by show 2 * 0 + _ ≤ _; exact Nat.le_of_eq rfl) (hb hby d14_29) (fun _ _ => ⟨rfl, e404, (by decide : 0 + 0 ≤ _), (by decide : 0 + 0 ≤ _)⟩)
  dsimp only [Pt.U, Pt.locs, Pt.cells, Pt.slots] at X408 l408 y408 z408 st408 hQ408
  subst l408 y408 z408
  obtain ⟨rfl, N409, e408⟩ := hQ408
  have N411 := Fr.app N407 N409
  refine own_goT st408 ?_
  obtain ⟨T412, X412, e412, st412⟩ := castY X408 hx hZ hown (hw _ (List.mem_of_getElem? (i := 121) rfl)) e408 (Ins.self E_w_o1_elementData_1) (g := (mkF m 34 #[.val (.ref o0), .val (.ref o1), .val (.int (1 : Int32)), .val (.ref o3), .val (.ref o4)] [(.ref w_o1_elementData_1)])) rfl rfl (hb hby d14_34)
  refine own_go st412 ?_
  obtain ⟨fs, hr, hrun, hended, hW, hsame⟩ := X412.leave (v := some (.ref w_o1_elementData_1)) (fun h => by rw [Bd.returns] at h; cases h)
  refine own_end (v := some (.ref w_o1_elementData_1)) ?_ hrun hended ?_ hW (hsame.mono (by decide) (by decide))
  · show Steps p.tables e below (T412.setTop (mkF m 37 #[.val (.ref o0), .val (.ref o1), .val (.int (1 : Int32)), .val (.ref o3), .val (.ref o4)] [(.ref w_o1_elementData_1)])) _
    jvm_step X412.here [X412.here.top, hx, (hb hby d14_37), X412.method', Bd.returns, Value.isRef, FieldType.isReference]
    first | (intro acts; rw [hr _ acts rfl rfl rfl]) | rw [hr _ _ rfl rfl rfl]
    exact Steps.refl _
  · show Qof1 Z o0 o1 o3 o4 w_o1_size w_o1_elementData w_o1_elementData_0 w_o1_elementData_1 w_o1_elementData_2 w_o1_elementData_3 w_o1_elementData_4 w_o1_elementData_5 w_o1_elementData_6 w_o1_elementData_7 w_o1_elementData_8 w_o1_elementData_9 h0 n0 _ T412.heap _
    rw [e412]
    exact ⟨rfl, N411, rfl⟩
theorem ef_elD2 (m : MethodId) (x0 : Addr) : entryFrame m #[(.ref x0), (.int (2 : Int32))] 2 = mkF m 0 #[.val (.ref x0), .val (.int (2 : Int32))] [] := by first | (simp [entryFrame, mkF, argsToLocals, Value.category]; done) | rfl
def QelD2 (Z : State) (o0 : Addr) (w_o0_elementData : Addr) (u0 : Value) (u1 : Value) (r2 : Addr) (u3 : Value) (u4 : Value) (u5 : Value) (u6 : Value) (u7 : Value) (u8 : Value) (u9 : Value) (h0 : Heap) (n0 : Nat) (v : Option Value) (h : Heap) (L : List Loc) : Prop := v = some (.ref r2) ∧ Fr n0 L ∧ h = h0
set_option maxRecDepth 65536 in
set_option maxHeartbeats 40000000 in
theorem elD2 (l : Launch) (Z : State) (a0 : Array Value) (hw : ∀ d ∈ tables_1, d.before a0 Z = true) (ws : List Jvm.Cond) (o0 : Addr) (w_o0_elementData : Addr) (u0 : Value) (u1 : Value) (r2 : Addr) (u3 : Value) (u4 : Value) (u5 : Value) (u6 : Value) (u7 : Value) (u8 : Value) (u9 : Value) (h0 : Heap) (n0 : Nat) (Z0 : n0 ≤ h0.size) (F_o0_elementData : Fld Z h0 o0 "java/util/ArrayList" "elementData" "[Ljava/lang/Object;" (.ref w_o0_elementData)) (B_w_o0_elementData : own_ArvR Z h0 w_o0_elementData "java/lang/Object" (10 : Int32) [u0, u1, (.ref r2), u3, u4, u5, u6, u7, u8, u9]) :
    MetFree l (⟨"java/util/ArrayList", "elementData", "(I)Ljava/lang/Object;"⟩ : MethodName) (head1 (Jvm.Cond.code (⟨"java/util/ArrayList", "elementData", "(I)Ljava/lang/Object;"⟩ : MethodName) jdk_38_method_18_code 2 (some (.object "java/lang/Object")) :: ws) ({ frames := 0, cells := 0, slots := 0, locals := 0 } : Room)) (fun a U => a = #[(.ref o0), (.int (2 : Int32))] ∧ Z.Warmed39 U.vm ∧ U.heap = h0) (fun _ _ _ _ _ => True) (fun _ U o U' => ∃ v L, o = .returned v ∧ QelD2 Z o0 w_o0_elementData u0 u1 r2 u3 u4 u5 u6 u7 u8 u9 h0 n0 v U'.heap L ∧ FrameEnd U o U' L ({ frames := 0, cells := 0, slots := 0, locals := 0 } : Room).cells ({ frames := 0, cells := 0, slots := 0, locals := 0 } : Room).slots) := by
  refine MetFree.of_bodySF (plainFor_of_name pn_59) hisR ?_
  intro p e s m args below meth c s₁ Bd hml0 hP hK
  obtain ⟨rfl, hZ, hh⟩ := hP
  have hx := Bd.exec
  have hby := Bd.bytes
  have hml : c.maxLocals = 2 := hml0
  have hown : s.vm.findClass "java/util/ArrayList" = some m.cls := findClass_of_methodNamed Bd.named
  have hnm := (name_of_methodNamed Bd.named Bd.method).1
  have X0 : Stand p l e ({ frames := 0, cells := 0, slots := 0, locals := 0 } : Room) s m #[(.ref o0), (.int (2 : Int32))] below meth c s₁ [] 0 0 := Stand.of_body Bd
  have e0 : s₁.heap = h0 := by rw [← hh, Bd.state]; rfl
  have N0 := Fr.nil n0
  show own_Go p e below s (QelD2 Z o0 w_o0_elementData u0 u1 r2 u3 u4 u5 u6 u7 u8 u9 h0 n0) ({ frames := 0, cells := 0, slots := 0, locals := 0 } : Room).cells ({ frames := 0, cells := 0, slots := 0, locals := 0 } : Room).slots (s₁.setTop (entryFrame m #[(.ref o0), (.int (2 : Int32))] 2))
  rw [ef_elD2 m o0]
  have K0 : Keep h0 h0 [] := Keep.refl h0 []
  refine own_go (S' := s₁.setTop (mkF m 1 #[.val (.ref o0), .val (.int (2 : Int32))] [(.ref o0)])) (fun t k => ?_) ?_
  · show Steps p.tables e below (s₁.setTop (mkF m 0 #[.val (.ref o0), .val (.int (2 : Int32))] [])) t
    refine XS.aloadN X0.here hx rfl (hb hby d19_0) rfl rfl ?_
    exact k
  obtain ⟨T413, X413, e413, st413⟩ := getF X0 hx hZ hown (host := "") (Or.inl (hw _ (List.mem_of_getElem? (i := 48) rfl))) Via.refl e0 F_o0_elementData (g := (mkF m 1 #[.val (.ref o0), .val (.int (2 : Int32))] [(.ref o0)])) rfl rfl (hb hby d19_1)
  refine own_go st413 ?_
  refine own_go (S' := T413.setTop (mkF m 5 #[.val (.ref o0), .val (.int (2 : Int32))] [(.int (2 : Int32)), (.ref w_o0_elementData)])) (fun t k => ?_) ?_
  · show Steps p.tables e below (T413.setTop (mkF m 4 #[.val (.ref o0), .val (.int (2 : Int32))] [(.ref w_o0_elementData)])) t
    refine XS.iloadN X413.here hx rfl (hb hby d19_4) rfl ?_
    exact k
  obtain ⟨kq414, ⟨cl414, Ar414, q414, S414, Nn414, Hh414, G414⟩, Ov414⟩ := id B_w_o0_elementData
  refine own_go (S' := T413.setTop (mkF m 6 #[.val (.ref o0), .val (.int (2 : Int32))] [(.ref r2)])) (fun t k => ?_) ?_
  · show Steps p.tables e below (T413.setTop (mkF m 5 #[.val (.ref o0), .val (.int (2 : Int32))] [(.int (2 : Int32)), (.ref w_o0_elementData)])) t
    exact X413.aaload hx (j := (2 : Int32)) (v := (.ref r2)) (by (try rw [e413]); exact Ar414.1) (State.isArrayOf_alike hZ.alike Ar414.2.1) rfl Ar414.2.2 (inb_of S414 ⟨by decide, by decide⟩) (Hh414.at (inb_of S414 ⟨by decide, by decide⟩) rfl) (g := (mkF m 5 #[.val (.ref o0), .val (.int (2 : Int32))] [(.int (2 : Int32)), (.ref w_o0_elementData)])) rfl rfl (hb hby d19_5) _ k
  obtain ⟨fs, hr, hrun, hended, hW, hsame⟩ := X413.leave (v := some (.ref r2)) (fun h => by rw [Bd.returns] at h; cases h)
  refine own_end (v := some (.ref r2)) ?_ hrun hended ?_ hW (hsame.mono (by decide) (by decide))
  · show Steps p.tables e below (T413.setTop (mkF m 6 #[.val (.ref o0), .val (.int (2 : Int32))] [(.ref r2)])) _
    jvm_step X413.here [X413.here.top, hx, (hb hby d19_6), X413.method', Bd.returns, Value.isRef, FieldType.isReference]
    first | (intro acts; rw [hr _ acts rfl rfl rfl]) | rw [hr _ _ rfl rfl rfl]
    exact Steps.refl _
  · show QelD2 Z o0 w_o0_elementData u0 u1 r2 u3 u4 u5 u6 u7 u8 u9 h0 n0 _ T413.heap _
    rw [e413]
    exact ⟨rfl, N0, rfl⟩
theorem ef_get2 (m : MethodId) (x0 : Addr) : entryFrame m #[(.ref x0), (.int (2 : Int32))] 2 = mkF m 0 #[.val (.ref x0), .val (.int (2 : Int32))] [] := by first | (simp [entryFrame, mkF, argsToLocals, Value.category]; done) | rfl
def Qget2 (Z : State) (o0 : Addr) (w_o0_size : Int32) (w_o0_elementData : Addr) (w_o0_elementData_0 : Value) (w_o0_elementData_1 : Value) (w_o0_elementData_2 : Addr) (w_o0_elementData_3 : Value) (w_o0_elementData_4 : Value) (w_o0_elementData_5 : Value) (w_o0_elementData_6 : Value) (w_o0_elementData_7 : Value) (w_o0_elementData_8 : Value) (w_o0_elementData_9 : Value) (h0 : Heap) (n0 : Nat) (v : Option Value) (h : Heap) (L : List Loc) : Prop := v = some (.ref w_o0_elementData_2) ∧ Fr n0 L ∧ h = h0
set_option maxRecDepth 65536 in
set_option maxHeartbeats 40000000 in
theorem get2 (l : Launch) (Z : State) (a0 : Array Value) (hw : ∀ d ∈ tables_1, d.before a0 Z = true) (ws : List Jvm.Cond) (o0 : Addr) (w_o0_size : Int32) (w_o0_elementData : Addr) (w_o0_elementData_0 : Value) (w_o0_elementData_1 : Value) (w_o0_elementData_2 : Addr) (w_o0_elementData_3 : Value) (w_o0_elementData_4 : Value) (w_o0_elementData_5 : Value) (w_o0_elementData_6 : Value) (w_o0_elementData_7 : Value) (w_o0_elementData_8 : Value) (w_o0_elementData_9 : Value) (h0 : Heap) (n0 : Nat) (Z0 : n0 ≤ h0.size) (hc6 : (2 : Int32) < w_o0_size) (F_o0_size : Fld Z h0 o0 "java/util/ArrayList" "size" "I" (.int w_o0_size)) (F_o0_elementData : Fld Z h0 o0 "java/util/ArrayList" "elementData" "[Ljava/lang/Object;" (.ref w_o0_elementData)) (B_w_o0_elementData : own_ArvR Z h0 w_o0_elementData "java/lang/Object" (10 : Int32) [w_o0_elementData_0, w_o0_elementData_1, (.ref w_o0_elementData_2), w_o0_elementData_3, w_o0_elementData_4, w_o0_elementData_5, w_o0_elementData_6, w_o0_elementData_7, w_o0_elementData_8, w_o0_elementData_9]) (E_o0 : Exa Z h0 o0 "java/util/ArrayList") :
    MetFree l (⟨"java/util/ArrayList", "get", "(I)Ljava/lang/Object;"⟩ : MethodName) (head1 (Jvm.Cond.code (⟨"java/util/ArrayList", "get", "(I)Ljava/lang/Object;"⟩ : MethodName) jdk_38_method_20_code 2 (some (.object "java/lang/Object")) :: ws) ({ frames := 2, cells := 0, slots := 0, locals := 27 } : Room)) (fun a U => a = #[(.ref o0), (.int (2 : Int32))] ∧ Z.Warmed39 U.vm ∧ U.heap = h0) (fun _ _ _ _ _ => True) (fun _ U o U' => ∃ v L, o = .returned v ∧ Qget2 Z o0 w_o0_size w_o0_elementData w_o0_elementData_0 w_o0_elementData_1 w_o0_elementData_2 w_o0_elementData_3 w_o0_elementData_4 w_o0_elementData_5 w_o0_elementData_6 w_o0_elementData_7 w_o0_elementData_8 w_o0_elementData_9 h0 n0 v U'.heap L ∧ FrameEnd U o U' L ({ frames := 2, cells := 0, slots := 0, locals := 27 } : Room).cells ({ frames := 2, cells := 0, slots := 0, locals := 27 } : Room).slots) := by
  refine MetFree.of_bodySF (plainFor_of_name pn_59) hisR ?_
  intro p e s m args below meth c s₁ Bd hml0 hP hK
  obtain ⟨rfl, hZ, hh⟩ := hP
  have hx := Bd.exec
  have hby := Bd.bytes
  have hml : c.maxLocals = 2 := hml0
  have hown : s.vm.findClass "java/util/ArrayList" = some m.cls := findClass_of_methodNamed Bd.named
  have hnm := (name_of_methodNamed Bd.named Bd.method).1
  have X0 : Stand p l e ({ frames := 2, cells := 0, slots := 0, locals := 27 } : Room) s m #[(.ref o0), (.int (2 : Int32))] below meth c s₁ [] 0 0 := Stand.of_body Bd
  have e0 : s₁.heap = h0 := by rw [← hh, Bd.state]; rfl
  have N0 := Fr.nil n0
  show own_Go p e below s (Qget2 Z o0 w_o0_size w_o0_elementData w_o0_elementData_0 w_o0_elementData_1 w_o0_elementData_2 w_o0_elementData_3 w_o0_elementData_4 w_o0_elementData_5 w_o0_elementData_6 w_o0_elementData_7 w_o0_elementData_8 w_o0_elementData_9 h0 n0) ({ frames := 2, cells := 0, slots := 0, locals := 27 } : Room).cells ({ frames := 2, cells := 0, slots := 0, locals := 27 } : Room).slots (s₁.setTop (entryFrame m #[(.ref o0), (.int (2 : Int32))] 2))
  rw [ef_get2 m o0]
  have K0 : Keep h0 h0 [] := Keep.refl h0 []
  refine own_go (S' := s₁.setTop (mkF m 2 #[.val (.ref o0), .val (.int (2 : Int32))] [(.ref o0), (.int (2 : Int32))])) (fun t k => ?_) ?_
  · show Steps p.tables e below (s₁.setTop (mkF m 0 #[.val (.ref o0), .val (.int (2 : Int32))] [])) t
    refine XS.iloadN X0.here hx rfl (hb hby d16_0) rfl ?_
    show Steps p.tables e below (s₁.setTop (mkF m 1 #[.val (.ref o0), .val (.int (2 : Int32))] [(.int (2 : Int32))])) t
    refine XS.aloadN X0.here hx rfl (hb hby d16_1) rfl rfl ?_
    exact k
  obtain ⟨T415, X415, e415, st415⟩ := getF X0 hx hZ hown (host := "") (Or.inl (hw _ (List.mem_of_getElem? (i := 57) rfl))) Via.refl e0 F_o0_size (g := (mkF m 2 #[.val (.ref o0), .val (.int (2 : Int32))] [(.ref o0), (.int (2 : Int32))])) rfl rfl (hb hby d16_2)
  refine own_go st415 ?_
  obtain ⟨_, _, ⟨T416, L416, kk416, nn416⟩, -, X416, ⟨Lc416, hQ416, l416, y416, z416⟩, st416⟩ := Jvm.LawKit.callS X415 hx (y := (⟨"java/util/Objects", "checkIndex", "(II)I"⟩ : MethodName)) hown (mvT hZ (hw _ (List.mem_of_getElem? (i := 108) rfl))) (mvT hZ (hw _ (List.mem_of_getElem? (i := 109) rfl))) (mvT hZ (hw _ (List.mem_of_getElem? (i := 110) rfl))) (mvT hZ (hw _ (List.mem_of_getElem? (i := 111) rfl))) (by decide) (backOf (W := 0) (oChk l Z a0 hw [] (2 : Int32) w_o0_size h0 n0 Z0 (by decide : ¬ ((2 : Int32) < (0 : Int32))) (hc6 : (2 : Int32) < w_o0_size)) hZ (hw _ (List.mem_of_getElem? (i := 111) rfl)) (hw _ (List.mem_of_getElem? (i := 110) rfl)) (by decide) (by decide)) (g := (mkF m 5 #[.val (.ref o0), .val (.int (2 : Int32))] [(.int w_o0_size), (.int (2 : Int32))])) rfl (by rw [hml]; rfl) (argsL := [(.int (2 : Int32)), (.int w_o0_size)]) (rest := []) (lenOf pd_81 rfl) rfl (by show 2 * 0 + _ ≤ _; exact Nat.le_of_eq rfl) (hb hby d16_5) (fun _ _ => ⟨rfl, e415, (by decide : 0 + 0 ≤ _), (by decide : 0 + 0 ≤ _)⟩)
  dsimp only [Pt.U, Pt.locs, Pt.cells, Pt.slots] at X416 l416 y416 z416 st416 hQ416
  subst l416 y416 z416
  obtain ⟨rfl, N417, e416⟩ := hQ416
  have N419 := Fr.app N0 N417
  refine own_go st416 ?_
  refine own_go (S' := T416.setTop (mkF m 11 #[.val (.ref o0), .val (.int (2 : Int32))] [(.int (2 : Int32)), (.ref o0)])) (fun t k => ?_) ?_
  · show Steps p.tables e below (T416.setTop (mkF m 8 #[.val (.ref o0), .val (.int (2 : Int32))] [(.int (2 : Int32))])) t
    refine XS.pop X416.here hx rfl (hb hby d16_8) rfl rfl ?_
    show Steps p.tables e below (T416.setTop (mkF m 9 #[.val (.ref o0), .val (.int (2 : Int32))] [])) t
    refine XS.aloadN X416.here hx rfl (hb hby d16_9) rfl rfl ?_
    show Steps p.tables e below (T416.setTop (mkF m 10 #[.val (.ref o0), .val (.int (2 : Int32))] [(.ref o0)])) t
    refine XS.iloadN X416.here hx rfl (hb hby d16_10) rfl ?_
    exact k
  obtain ⟨cq420, kq420, qa420, qb420, qc420⟩ := isOf hZ e416 E_o0
  obtain ⟨_, _, ⟨T420, L420, kk420, nn420⟩, -, X420, ⟨Lc420, hQ420, l420, y420, z420⟩, st420⟩ := X416.virtualBack hx (y := (⟨"java/util/ArrayList", "elementData", "(I)Ljava/lang/Object;"⟩ : MethodName)) (z := (⟨"java/util/ArrayList", "elementData", "(I)Ljava/lang/Object;"⟩ : MethodName)) hown (mvT hZ (hw _ (List.mem_of_getElem? (i := 116) rfl))) (mvT hZ (hw _ (List.mem_of_getElem? (i := 117) rfl))) (notFace_of_selects (args := #[]) (mvT hZ (hw _ (List.mem_of_getElem? (i := 119) rfl)))) (mvT hZ (hw _ (List.mem_of_getElem? (i := 119) rfl))) (mvT hZ (hw _ (List.mem_of_getElem? (i := 118) rfl))) (by decide) (backOf (W := 0) (elD2 l Z a0 hw [] o0 w_o0_elementData w_o0_elementData_0 w_o0_elementData_1 w_o0_elementData_2 w_o0_elementData_3 w_o0_elementData_4 w_o0_elementData_5 w_o0_elementData_6 w_o0_elementData_7 w_o0_elementData_8 w_o0_elementData_9 h0 n0 Z0 F_o0_elementData B_w_o0_elementData) hZ (hw _ (List.mem_of_getElem? (i := 120) rfl)) (hw _ (List.mem_of_getElem? (i := 28) rfl)) (by decide) (by decide)) qa420 qc420 (g := (mkF m 11 #[.val (.ref o0), .val (.int (2 : Int32))] [(.int (2 : Int32)), (.ref o0)])) rfl (by rw [hml]; rfl) (Steps.refl _) (argsL := [(.int (2 : Int32))]) (rest := []) (lenOf pd_159 rfl) rfl (by show 2 * 0 + _ ≤ _; exact Nat.le_of_eq rfl) (hb hby d16_11) (fun _ _ => ⟨rfl, e416, (by decide : 0 + 0 ≤ _), (by decide : 0 + 0 ≤ _)⟩)
  dsimp only [Pt.U, Pt.locs, Pt.cells, Pt.slots] at X420 l420 y420 z420 st420 hQ420
  subst l420 y420 z420
  obtain ⟨rfl, N421, e420⟩ := hQ420
  have N423 := Fr.app N419 N421
  refine own_goT st420 ?_
  obtain ⟨fs, hr, hrun, hended, hW, hsame⟩ := X420.leave (v := some (.ref w_o0_elementData_2)) (fun h => by rw [Bd.returns] at h; cases h)
  refine own_end (v := some (.ref w_o0_elementData_2)) ?_ hrun hended ?_ hW (hsame.mono (by decide) (by decide))
  · show Steps p.tables e below (T420.setTop (mkF m 14 #[.val (.ref o0), .val (.int (2 : Int32))] [(.ref w_o0_elementData_2)])) _
    jvm_step X420.here [X420.here.top, hx, (hb hby d16_14), X420.method', Bd.returns, Value.isRef, FieldType.isReference]
    first | (intro acts; rw [hr _ acts rfl rfl rfl]) | rw [hr _ _ rfl rfl rfl]
    exact Steps.refl _
  · show Qget2 Z o0 w_o0_size w_o0_elementData w_o0_elementData_0 w_o0_elementData_1 w_o0_elementData_2 w_o0_elementData_3 w_o0_elementData_4 w_o0_elementData_5 w_o0_elementData_6 w_o0_elementData_7 w_o0_elementData_8 w_o0_elementData_9 h0 n0 _ T420.heap _
    rw [e420]
    exact ⟨rfl, N423, rfl⟩
theorem ef_of2 (m : MethodId) (x0 : Addr) (x1 : Addr) (x3 : Addr) (x4 : Addr) : entryFrame m #[(.ref x0), (.ref x1), (.int (2 : Int32)), (.ref x3), (.ref x4)] 5 = mkF m 0 #[.val (.ref x0), .val (.ref x1), .val (.int (2 : Int32)), .val (.ref x3), .val (.ref x4)] [] := by first | (simp [entryFrame, mkF, argsToLocals, Value.category]; done) | rfl
def Qof2 (Z : State) (o0 : Addr) (o1 : Addr) (o3 : Addr) (o4 : Addr) (w_o1_size : Int32) (w_o1_elementData : Addr) (w_o1_elementData_0 : Value) (w_o1_elementData_1 : Value) (w_o1_elementData_2 : Addr) (w_o1_elementData_3 : Value) (w_o1_elementData_4 : Value) (w_o1_elementData_5 : Value) (w_o1_elementData_6 : Value) (w_o1_elementData_7 : Value) (w_o1_elementData_8 : Value) (w_o1_elementData_9 : Value) (h0 : Heap) (n0 : Nat) (v : Option Value) (h : Heap) (L : List Loc) : Prop := v = some (.ref w_o1_elementData_2) ∧ Fr n0 L ∧ h = h0
set_option maxRecDepth 65536 in
set_option maxHeartbeats 40000000 in
theorem of2 (l : Launch) (Z : State) (a0 : Array Value) (hw : ∀ d ∈ tables_1, d.before a0 Z = true) (ws : List Jvm.Cond) (o0 : Addr) (o1 : Addr) (o3 : Addr) (o4 : Addr) (w_o1_size : Int32) (w_o1_elementData : Addr) (w_o1_elementData_0 : Value) (w_o1_elementData_1 : Value) (w_o1_elementData_2 : Addr) (w_o1_elementData_3 : Value) (w_o1_elementData_4 : Value) (w_o1_elementData_5 : Value) (w_o1_elementData_6 : Value) (w_o1_elementData_7 : Value) (w_o1_elementData_8 : Value) (w_o1_elementData_9 : Value) (h0 : Heap) (n0 : Nat) (Z0 : n0 ≤ h0.size) (hc6 : (2 : Int32) < w_o1_size) (F_o1_size : Fld Z h0 o1 "java/util/ArrayList" "size" "I" (.int w_o1_size)) (E_o1 : Exa Z h0 o1 "java/util/ArrayList") (hc7 : ¬ ((2 : Int32) = w_o1_size)) (F_o1_elementData : Fld Z h0 o1 "java/util/ArrayList" "elementData" "[Ljava/lang/Object;" (.ref w_o1_elementData)) (B_w_o1_elementData : own_ArvR Z h0 w_o1_elementData "java/lang/Object" (10 : Int32) [w_o1_elementData_0, w_o1_elementData_1, (.ref w_o1_elementData_2), w_o1_elementData_3, w_o1_elementData_4, w_o1_elementData_5, w_o1_elementData_6, w_o1_elementData_7, w_o1_elementData_8, w_o1_elementData_9]) (E_w_o1_elementData_2 : Exa Z h0 w_o1_elementData_2 "java/lang/String") :
    MetFree l (⟨"com/example/scorebench/scorebench/OptionValue", "of", "(Ljava/lang/String;Ljava/util/List;ILjava/lang/String;Ljava/lang/String;)Ljava/lang/String;"⟩ : MethodName) (head1 (Jvm.Cond.code (⟨"com/example/scorebench/scorebench/OptionValue", "of", "(Ljava/lang/String;Ljava/util/List;ILjava/lang/String;Ljava/lang/String;)Ljava/lang/String;"⟩ : MethodName) prog_4_method_2_code 5 (some (.object "java/lang/String")) :: ws) ({ frames := 3, cells := 0, slots := 0, locals := 40 } : Room)) (fun a U => a = #[(.ref o0), (.ref o1), (.int (2 : Int32)), (.ref o3), (.ref o4)] ∧ Z.Warmed39 U.vm ∧ U.heap = h0) (fun _ _ _ _ _ => True) (fun _ U o U' => ∃ v L, o = .returned v ∧ Qof2 Z o0 o1 o3 o4 w_o1_size w_o1_elementData w_o1_elementData_0 w_o1_elementData_1 w_o1_elementData_2 w_o1_elementData_3 w_o1_elementData_4 w_o1_elementData_5 w_o1_elementData_6 w_o1_elementData_7 w_o1_elementData_8 w_o1_elementData_9 h0 n0 v U'.heap L ∧ FrameEnd U o U' L ({ frames := 3, cells := 0, slots := 0, locals := 40 } : Room).cells ({ frames := 3, cells := 0, slots := 0, locals := 40 } : Room).slots) := by
  refine MetFree.of_bodySF (plainFor_of_name pn_171) hisR ?_
  intro p e s m args below meth c s₁ Bd hml0 hP hK
  obtain ⟨rfl, hZ, hh⟩ := hP
  have hx := Bd.exec
  have hby := Bd.bytes
  have hml : c.maxLocals = 5 := hml0
  have hown : s.vm.findClass "com/example/scorebench/scorebench/OptionValue" = some m.cls := findClass_of_methodNamed Bd.named
  have hnm := (name_of_methodNamed Bd.named Bd.method).1
  have X0 : Stand p l e ({ frames := 3, cells := 0, slots := 0, locals := 40 } : Room) s m #[(.ref o0), (.ref o1), (.int (2 : Int32)), (.ref o3), (.ref o4)] below meth c s₁ [] 0 0 := Stand.of_body Bd
  have e0 : s₁.heap = h0 := by rw [← hh, Bd.state]; rfl
  have N0 := Fr.nil n0
  show own_Go p e below s (Qof2 Z o0 o1 o3 o4 w_o1_size w_o1_elementData w_o1_elementData_0 w_o1_elementData_1 w_o1_elementData_2 w_o1_elementData_3 w_o1_elementData_4 w_o1_elementData_5 w_o1_elementData_6 w_o1_elementData_7 w_o1_elementData_8 w_o1_elementData_9 h0 n0) ({ frames := 3, cells := 0, slots := 0, locals := 40 } : Room).cells ({ frames := 3, cells := 0, slots := 0, locals := 40 } : Room).slots (s₁.setTop (entryFrame m #[(.ref o0), (.ref o1), (.int (2 : Int32)), (.ref o3), (.ref o4)] 5))
  rw [ef_of2 m o0 o1 o3 o4]
  have K0 : Keep h0 h0 [] := Keep.refl h0 []
  refine own_go (S' := s₁.setTop (mkF m 2 #[.val (.ref o0), .val (.ref o1), .val (.int (2 : Int32)), .val (.ref o3), .val (.ref o4)] [(.ref o1), (.int (2 : Int32))])) (fun t k => ?_) ?_
  · show Steps p.tables e below (s₁.setTop (mkF m 0 #[.val (.ref o0), .val (.ref o1), .val (.int (2 : Int32)), .val (.ref o3), .val (.ref o4)] [])) t
    refine XS.iloadN X0.here hx rfl (hb hby d14_0) rfl ?_
    show Steps p.tables e below (s₁.setTop (mkF m 1 #[.val (.ref o0), .val (.ref o1), .val (.int (2 : Int32)), .val (.ref o3), .val (.ref o4)] [(.int (2 : Int32))])) t
    refine XS.aloadN X0.here hx rfl (hb hby d14_1) rfl rfl ?_
    exact k
  obtain ⟨cq424, kq424, qa424, qb424, qc424⟩ := isOf hZ e0 E_o1
  obtain ⟨_, _, ⟨T424, L424, kk424, nn424⟩, -, X424, ⟨Lc424, hQ424, l424, y424, z424⟩, st424⟩ := X0.interfaceBack hx (xi := (⟨"java/util/List", "size", "()I"⟩ : MethodName)) (y := (⟨"java/util/ArrayList", "size", "()I"⟩ : MethodName)) hown (mvT hZ (hw _ (List.mem_of_getElem? (i := 91) rfl))) (mvT hZ (hw _ (List.mem_of_getElem? (i := 92) rfl))) (mvT hZ (hw _ (List.mem_of_getElem? (i := 93) rfl))) (mvT hZ (hw _ (List.mem_of_getElem? (i := 94) rfl))) (mvT hZ (hw _ (List.mem_of_getElem? (i := 95) rfl))) (mvT hZ (hw _ (List.mem_of_getElem? (i := 96) rfl))) (mvT hZ (hw _ (List.mem_of_getElem? (i := 97) rfl))) (mvT hZ (hw _ (List.mem_of_getElem? (i := 98) rfl))) (by decide) (backOf (W := 1) (alSize l Z a0 hw [] o1 w_o1_size h0 n0 Z0 F_o1_size) hZ (hw _ (List.mem_of_getElem? (i := 99) rfl)) (hw _ (List.mem_of_getElem? (i := 28) rfl)) (by decide) (by decide)) qa424 qb424 qc424 (g := (mkF m 2 #[.val (.ref o0), .val (.ref o1), .val (.int (2 : Int32)), .val (.ref o3), .val (.ref o4)] [(.ref o1), (.int (2 : Int32))])) rfl (by rw [hml]; rfl) (Steps.refl _) (argsL := []) (rest := [(.int (2 : Int32))]) (lenOf pd_164 rfl) rfl (by show 2 * 0 + _ ≤ _; exact Nat.le_of_eq rfl) (hb hby d14_2) (fun _ _ => ⟨rfl, e0, (by decide : 0 + 0 ≤ _), (by decide : 0 + 0 ≤ _)⟩)
  dsimp only [Pt.U, Pt.locs, Pt.cells, Pt.slots] at X424 l424 y424 z424 st424 hQ424
  subst l424 y424 z424
  obtain ⟨rfl, N425, e424⟩ := hQ424
  have N427 := Fr.app N0 N425
  refine own_goT st424 ?_
  refine own_go (S' := T424.setTop (mkF m 29 #[.val (.ref o0), .val (.ref o1), .val (.int (2 : Int32)), .val (.ref o3), .val (.ref o4)] [(.int (2 : Int32)), (.ref o1)])) (fun t k => ?_) ?_
  · show Steps p.tables e below (T424.setTop (mkF m 7 #[.val (.ref o0), .val (.ref o1), .val (.int (2 : Int32)), .val (.ref o3), .val (.ref o4)] [(.int w_o1_size), (.int (2 : Int32))])) t
    refine XS.icmpYes X424.here hx rfl (pc0 := 7) (pc' := 27) rfl (hb hby d14_7) rfl (feq hc7).2 (by decide) (by decide) ?_
    show Steps p.tables e below (T424.setTop (mkF m 27 #[.val (.ref o0), .val (.ref o1), .val (.int (2 : Int32)), .val (.ref o3), .val (.ref o4)] [])) t
    refine XS.aloadN X424.here hx rfl (hb hby d14_27) rfl rfl ?_
    show Steps p.tables e below (T424.setTop (mkF m 28 #[.val (.ref o0), .val (.ref o1), .val (.int (2 : Int32)), .val (.ref o3), .val (.ref o4)] [(.ref o1)])) t
    refine XS.iloadN X424.here hx rfl (hb hby d14_28) rfl ?_
    exact k
  obtain ⟨cq428, kq428, qa428, qb428, qc428⟩ := isOf hZ e424 E_o1
  obtain ⟨_, _, ⟨T428, L428, kk428, nn428⟩, -, X428, ⟨Lc428, hQ428, l428, y428, z428⟩, st428⟩ := X424.interfaceBack hx (xi := (⟨"java/util/List", "get", "(I)Ljava/lang/Object;"⟩ : MethodName)) (y := (⟨"java/util/ArrayList", "get", "(I)Ljava/lang/Object;"⟩ : MethodName)) hown (mvT hZ (hw _ (List.mem_of_getElem? (i := 100) rfl))) (mvT hZ (hw _ (List.mem_of_getElem? (i := 101) rfl))) (mvT hZ (hw _ (List.mem_of_getElem? (i := 102) rfl))) (mvT hZ (hw _ (List.mem_of_getElem? (i := 103) rfl))) (mvT hZ (hw _ (List.mem_of_getElem? (i := 104) rfl))) (mvT hZ (hw _ (List.mem_of_getElem? (i := 105) rfl))) (mvT hZ (hw _ (List.mem_of_getElem? (i := 106) rfl))) (mvT hZ (hw _ (List.mem_of_getElem? (i := 98) rfl))) (by decide) (backOf (W := 0) (get2 l Z a0 hw [] o1 w_o1_size w_o1_elementData w_o1_elementData_0 w_o1_elementData_1 w_o1_elementData_2 w_o1_elementData_3 w_o1_elementData_4 w_o1_elementData_5 w_o1_elementData_6 w_o1_elementData_7 w_o1_elementData_8 w_o1_elementData_9 h0 n0 Z0 (hc6 : (2 : Int32) < w_o1_size) F_o1_size F_o1_elementData B_w_o1_elementData E_o1) hZ (hw _ (List.mem_of_getElem? (i := 107) rfl)) (hw _ (List.mem_of_getElem? (i := 28) rfl)) (by decide) (by decide)) qa428 qb428 qc428 (g := (mkF m 29 #[.val (.ref o0), .val (.ref o1), .val (.int (2 : Int32)), .val (.ref o3), .val (.ref o4)] [(.int (2 : Int32)), (.ref o1)])) rfl (by rw [hml]; rfl) (Steps.refl _) (argsL := [(.int (2 : Int32))]) (rest := []) (lenOf pd_159 rfl) rfl (by show 2 * 0 + _ ≤ _; exact Nat.le_of_eq rfl) (hb hby d14_29) (fun _ _ => ⟨rfl, e424, (by decide : 0 + 0 ≤ _), (by decide : 0 + 0 ≤ _)⟩)
  dsimp only [Pt.U, Pt.locs, Pt.cells, Pt.slots] at X428 l428 y428 z428 st428 hQ428
  subst l428 y428 z428
  obtain ⟨rfl, N429, e428⟩ := hQ428
  have N431 := Fr.app N427 N429
  refine own_goT st428 ?_
  obtain ⟨T432, X432, e432, st432⟩ := castY X428 hx hZ hown (hw _ (List.mem_of_getElem? (i := 121) rfl)) e428 (Ins.self E_w_o1_elementData_2) (g := (mkF m 34 #[.val (.ref o0), .val (.ref o1), .val (.int (2 : Int32)), .val (.ref o3), .val (.ref o4)] [(.ref w_o1_elementData_2)])) rfl rfl (hb hby d14_34)
  refine own_go st432 ?_
  obtain ⟨fs, hr, hrun, hended, hW, hsame⟩ := X432.leave (v := some (.ref w_o1_elementData_2)) (fun h => by rw [Bd.returns] at h; cases h)
  refine own_end (v := some (.ref w_o1_elementData_2)) ?_ hrun hended ?_ hW (hsame.mono (by decide) (by decide))
  · show Steps p.tables e below (T432.setTop (mkF m 37 #[.val (.ref o0), .val (.ref o1), .val (.int (2 : Int32)), .val (.ref o3), .val (.ref o4)] [(.ref w_o1_elementData_2)])) _
    jvm_step X432.here [X432.here.top, hx, (hb hby d14_37), X432.method', Bd.returns, Value.isRef, FieldType.isReference]
    first | (intro acts; rw [hr _ acts rfl rfl rfl]) | rw [hr _ _ rfl rfl rfl]
    exact Steps.refl _
  · show Qof2 Z o0 o1 o3 o4 w_o1_size w_o1_elementData w_o1_elementData_0 w_o1_elementData_1 w_o1_elementData_2 w_o1_elementData_3 w_o1_elementData_4 w_o1_elementData_5 w_o1_elementData_6 w_o1_elementData_7 w_o1_elementData_8 w_o1_elementData_9 h0 n0 _ T432.heap _
    rw [e432]
    exact ⟨rfl, N431, rfl⟩
theorem ef_elD3 (m : MethodId) (x0 : Addr) : entryFrame m #[(.ref x0), (.int (3 : Int32))] 2 = mkF m 0 #[.val (.ref x0), .val (.int (3 : Int32))] [] := by first | (simp [entryFrame, mkF, argsToLocals, Value.category]; done) | rfl
def QelD3 (Z : State) (o0 : Addr) (w_o0_elementData : Addr) (u0 : Value) (u1 : Value) (u2 : Value) (r3 : Addr) (u4 : Value) (u5 : Value) (u6 : Value) (u7 : Value) (u8 : Value) (u9 : Value) (h0 : Heap) (n0 : Nat) (v : Option Value) (h : Heap) (L : List Loc) : Prop := v = some (.ref r3) ∧ Fr n0 L ∧ h = h0
set_option maxRecDepth 65536 in
set_option maxHeartbeats 40000000 in
theorem elD3 (l : Launch) (Z : State) (a0 : Array Value) (hw : ∀ d ∈ tables_1, d.before a0 Z = true) (ws : List Jvm.Cond) (o0 : Addr) (w_o0_elementData : Addr) (u0 : Value) (u1 : Value) (u2 : Value) (r3 : Addr) (u4 : Value) (u5 : Value) (u6 : Value) (u7 : Value) (u8 : Value) (u9 : Value) (h0 : Heap) (n0 : Nat) (Z0 : n0 ≤ h0.size) (F_o0_elementData : Fld Z h0 o0 "java/util/ArrayList" "elementData" "[Ljava/lang/Object;" (.ref w_o0_elementData)) (B_w_o0_elementData : own_ArvR Z h0 w_o0_elementData "java/lang/Object" (10 : Int32) [u0, u1, u2, (.ref r3), u4, u5, u6, u7, u8, u9]) :
    MetFree l (⟨"java/util/ArrayList", "elementData", "(I)Ljava/lang/Object;"⟩ : MethodName) (head1 (Jvm.Cond.code (⟨"java/util/ArrayList", "elementData", "(I)Ljava/lang/Object;"⟩ : MethodName) jdk_38_method_18_code 2 (some (.object "java/lang/Object")) :: ws) ({ frames := 0, cells := 0, slots := 0, locals := 0 } : Room)) (fun a U => a = #[(.ref o0), (.int (3 : Int32))] ∧ Z.Warmed39 U.vm ∧ U.heap = h0) (fun _ _ _ _ _ => True) (fun _ U o U' => ∃ v L, o = .returned v ∧ QelD3 Z o0 w_o0_elementData u0 u1 u2 r3 u4 u5 u6 u7 u8 u9 h0 n0 v U'.heap L ∧ FrameEnd U o U' L ({ frames := 0, cells := 0, slots := 0, locals := 0 } : Room).cells ({ frames := 0, cells := 0, slots := 0, locals := 0 } : Room).slots) := by
  refine MetFree.of_bodySF (plainFor_of_name pn_59) hisR ?_
  intro p e s m args below meth c s₁ Bd hml0 hP hK
  obtain ⟨rfl, hZ, hh⟩ := hP
  have hx := Bd.exec
  have hby := Bd.bytes
  have hml : c.maxLocals = 2 := hml0
  have hown : s.vm.findClass "java/util/ArrayList" = some m.cls := findClass_of_methodNamed Bd.named
  have hnm := (name_of_methodNamed Bd.named Bd.method).1
  have X0 : Stand p l e ({ frames := 0, cells := 0, slots := 0, locals := 0 } : Room) s m #[(.ref o0), (.int (3 : Int32))] below meth c s₁ [] 0 0 := Stand.of_body Bd
  have e0 : s₁.heap = h0 := by rw [← hh, Bd.state]; rfl
  have N0 := Fr.nil n0
  show own_Go p e below s (QelD3 Z o0 w_o0_elementData u0 u1 u2 r3 u4 u5 u6 u7 u8 u9 h0 n0) ({ frames := 0, cells := 0, slots := 0, locals := 0 } : Room).cells ({ frames := 0, cells := 0, slots := 0, locals := 0 } : Room).slots (s₁.setTop (entryFrame m #[(.ref o0), (.int (3 : Int32))] 2))
  rw [ef_elD3 m o0]
  have K0 : Keep h0 h0 [] := Keep.refl h0 []
  refine own_go (S' := s₁.setTop (mkF m 1 #[.val (.ref o0), .val (.int (3 : Int32))] [(.ref o0)])) (fun t k => ?_) ?_
  · show Steps p.tables e below (s₁.setTop (mkF m 0 #[.val (.ref o0), .val (.int (3 : Int32))] [])) t
    refine XS.aloadN X0.here hx rfl (hb hby d19_0) rfl rfl ?_
    exact k
  obtain ⟨T433, X433, e433, st433⟩ := getF X0 hx hZ hown (host := "") (Or.inl (hw _ (List.mem_of_getElem? (i := 48) rfl))) Via.refl e0 F_o0_elementData (g := (mkF m 1 #[.val (.ref o0), .val (.int (3 : Int32))] [(.ref o0)])) rfl rfl (hb hby d19_1)
  refine own_go st433 ?_
  refine own_go (S' := T433.setTop (mkF m 5 #[.val (.ref o0), .val (.int (3 : Int32))] [(.int (3 : Int32)), (.ref w_o0_elementData)])) (fun t k => ?_) ?_
  · show Steps p.tables e below (T433.setTop (mkF m 4 #[.val (.ref o0), .val (.int (3 : Int32))] [(.ref w_o0_elementData)])) t
    refine XS.iloadN X433.here hx rfl (hb hby d19_4) rfl ?_
    exact k
  obtain ⟨kq434, ⟨cl434, Ar434, q434, S434, Nn434, Hh434, G434⟩, Ov434⟩ := id B_w_o0_elementData
  refine own_go (S' := T433.setTop (mkF m 6 #[.val (.ref o0), .val (.int (3 : Int32))] [(.ref r3)])) (fun t k => ?_) ?_
  · show Steps p.tables e below (T433.setTop (mkF m 5 #[.val (.ref o0), .val (.int (3 : Int32))] [(.int (3 : Int32)), (.ref w_o0_elementData)])) t
    exact X433.aaload hx (j := (3 : Int32)) (v := (.ref r3)) (by (try rw [e433]); exact Ar434.1) (State.isArrayOf_alike hZ.alike Ar434.2.1) rfl Ar434.2.2 (inb_of S434 ⟨by decide, by decide⟩) (Hh434.at (inb_of S434 ⟨by decide, by decide⟩) rfl) (g := (mkF m 5 #[.val (.ref o0), .val (.int (3 : Int32))] [(.int (3 : Int32)), (.ref w_o0_elementData)])) rfl rfl (hb hby d19_5) _ k
  obtain ⟨fs, hr, hrun, hended, hW, hsame⟩ := X433.leave (v := some (.ref r3)) (fun h => by rw [Bd.returns] at h; cases h)
  refine own_end (v := some (.ref r3)) ?_ hrun hended ?_ hW (hsame.mono (by decide) (by decide))
  · show Steps p.tables e below (T433.setTop (mkF m 6 #[.val (.ref o0), .val (.int (3 : Int32))] [(.ref r3)])) _
    jvm_step X433.here [X433.here.top, hx, (hb hby d19_6), X433.method', Bd.returns, Value.isRef, FieldType.isReference]
    first | (intro acts; rw [hr _ acts rfl rfl rfl]) | rw [hr _ _ rfl rfl rfl]
    exact Steps.refl _
  · show QelD3 Z o0 w_o0_elementData u0 u1 u2 r3 u4 u5 u6 u7 u8 u9 h0 n0 _ T433.heap _
    rw [e433]
    exact ⟨rfl, N0, rfl⟩
theorem ef_get3 (m : MethodId) (x0 : Addr) : entryFrame m #[(.ref x0), (.int (3 : Int32))] 2 = mkF m 0 #[.val (.ref x0), .val (.int (3 : Int32))] [] := by first | (simp [entryFrame, mkF, argsToLocals, Value.category]; done) | rfl
def Qget3 (Z : State) (o0 : Addr) (w_o0_size : Int32) (w_o0_elementData : Addr) (w_o0_elementData_0 : Value) (w_o0_elementData_1 : Value) (w_o0_elementData_2 : Value) (w_o0_elementData_3 : Addr) (w_o0_elementData_4 : Value) (w_o0_elementData_5 : Value) (w_o0_elementData_6 : Value) (w_o0_elementData_7 : Value) (w_o0_elementData_8 : Value) (w_o0_elementData_9 : Value) (h0 : Heap) (n0 : Nat) (v : Option Value) (h : Heap) (L : List Loc) : Prop := v = some (.ref w_o0_elementData_3) ∧ Fr n0 L ∧ h = h0
set_option maxRecDepth 65536 in
set_option maxHeartbeats 40000000 in
theorem get3 (l : Launch) (Z : State) (a0 : Array Value) (hw : ∀ d ∈ tables_1, d.before a0 Z = true) (ws : List Jvm.Cond) (o0 : Addr) (w_o0_size : Int32) (w_o0_elementData : Addr) (w_o0_elementData_0 : Value) (w_o0_elementData_1 : Value) (w_o0_elementData_2 : Value) (w_o0_elementData_3 : Addr) (w_o0_elementData_4 : Value) (w_o0_elementData_5 : Value) (w_o0_elementData_6 : Value) (w_o0_elementData_7 : Value) (w_o0_elementData_8 : Value) (w_o0_elementData_9 : Value) (h0 : Heap) (n0 : Nat) (Z0 : n0 ≤ h0.size) (hc6 : (3 : Int32) < w_o0_size) (F_o0_size : Fld Z h0 o0 "java/util/ArrayList" "size" "I" (.int w_o0_size)) (F_o0_elementData : Fld Z h0 o0 "java/util/ArrayList" "elementData" "[Ljava/lang/Object;" (.ref w_o0_elementData)) (B_w_o0_elementData : own_ArvR Z h0 w_o0_elementData "java/lang/Object" (10 : Int32) [w_o0_elementData_0, w_o0_elementData_1, w_o0_elementData_2, (.ref w_o0_elementData_3), w_o0_elementData_4, w_o0_elementData_5, w_o0_elementData_6, w_o0_elementData_7, w_o0_elementData_8, w_o0_elementData_9]) (E_o0 : Exa Z h0 o0 "java/util/ArrayList") :
    MetFree l (⟨"java/util/ArrayList", "get", "(I)Ljava/lang/Object;"⟩ : MethodName) (head1 (Jvm.Cond.code (⟨"java/util/ArrayList", "get", "(I)Ljava/lang/Object;"⟩ : MethodName) jdk_38_method_20_code 2 (some (.object "java/lang/Object")) :: ws) ({ frames := 2, cells := 0, slots := 0, locals := 27 } : Room)) (fun a U => a = #[(.ref o0), (.int (3 : Int32))] ∧ Z.Warmed39 U.vm ∧ U.heap = h0) (fun _ _ _ _ _ => True) (fun _ U o U' => ∃ v L, o = .returned v ∧ Qget3 Z o0 w_o0_size w_o0_elementData w_o0_elementData_0 w_o0_elementData_1 w_o0_elementData_2 w_o0_elementData_3 w_o0_elementData_4 w_o0_elementData_5 w_o0_elementData_6 w_o0_elementData_7 w_o0_elementData_8 w_o0_elementData_9 h0 n0 v U'.heap L ∧ FrameEnd U o U' L ({ frames := 2, cells := 0, slots := 0, locals := 27 } : Room).cells ({ frames := 2, cells := 0, slots := 0, locals := 27 } : Room).slots) := by
  refine MetFree.of_bodySF (plainFor_of_name pn_59) hisR ?_
  intro p e s m args below meth c s₁ Bd hml0 hP hK
  obtain ⟨rfl, hZ, hh⟩ := hP
  have hx := Bd.exec
  have hby := Bd.bytes
  have hml : c.maxLocals = 2 := hml0
  have hown : s.vm.findClass "java/util/ArrayList" = some m.cls := findClass_of_methodNamed Bd.named
  have hnm := (name_of_methodNamed Bd.named Bd.method).1
  have X0 : Stand p l e ({ frames := 2, cells := 0, slots := 0, locals := 27 } : Room) s m #[(.ref o0), (.int (3 : Int32))] below meth c s₁ [] 0 0 := Stand.of_body Bd
  have e0 : s₁.heap = h0 := by rw [← hh, Bd.state]; rfl
  have N0 := Fr.nil n0
  show own_Go p e below s (Qget3 Z o0 w_o0_size w_o0_elementData w_o0_elementData_0 w_o0_elementData_1 w_o0_elementData_2 w_o0_elementData_3 w_o0_elementData_4 w_o0_elementData_5 w_o0_elementData_6 w_o0_elementData_7 w_o0_elementData_8 w_o0_elementData_9 h0 n0) ({ frames := 2, cells := 0, slots := 0, locals := 27 } : Room).cells ({ frames := 2, cells := 0, slots := 0, locals := 27 } : Room).slots (s₁.setTop (entryFrame m #[(.ref o0), (.int (3 : Int32))] 2))
  rw [ef_get3 m o0]
  have K0 : Keep h0 h0 [] := Keep.refl h0 []
  refine own_go (S' := s₁.setTop (mkF m 2 #[.val (.ref o0), .val (.int (3 : Int32))] [(.ref o0), (.int (3 : Int32))])) (fun t k => ?_) ?_
  · show Steps p.tables e below (s₁.setTop (mkF m 0 #[.val (.ref o0), .val (.int (3 : Int32))] [])) t
    refine XS.iloadN X0.here hx rfl (hb hby d16_0) rfl ?_
    show Steps p.tables e below (s₁.setTop (mkF m 1 #[.val (.ref o0), .val (.int (3 : Int32))] [(.int (3 : Int32))])) t
    refine XS.aloadN X0.here hx rfl (hb hby d16_1) rfl rfl ?_
    exact k
  obtain ⟨T435, X435, e435, st435⟩ := getF X0 hx hZ hown (host := "") (Or.inl (hw _ (List.mem_of_getElem? (i := 57) rfl))) Via.refl e0 F_o0_size (g := (mkF m 2 #[.val (.ref o0), .val (.int (3 : Int32))] [(.ref o0), (.int (3 : Int32))])) rfl rfl (hb hby d16_2)
  refine own_go st435 ?_
  obtain ⟨_, _, ⟨T436, L436, kk436, nn436⟩, -, X436, ⟨Lc436, hQ436, l436, y436, z436⟩, st436⟩ := Jvm.LawKit.callS X435 hx (y := (⟨"java/util/Objects", "checkIndex", "(II)I"⟩ : MethodName)) hown (mvT hZ (hw _ (List.mem_of_getElem? (i := 108) rfl))) (mvT hZ (hw _ (List.mem_of_getElem? (i := 109) rfl))) (mvT hZ (hw _ (List.mem_of_getElem? (i := 110) rfl))) (mvT hZ (hw _ (List.mem_of_getElem? (i := 111) rfl))) (by decide) (backOf (W := 0) (oChk l Z a0 hw [] (3 : Int32) w_o0_size h0 n0 Z0 (by decide : ¬ ((3 : Int32) < (0 : Int32))) (hc6 : (3 : Int32) < w_o0_size)) hZ (hw _ (List.mem_of_getElem? (i := 111) rfl)) (hw _ (List.mem_of_getElem? (i := 110) rfl)) (by decide) (by decide)) (g := (mkF m 5 #[.val (.ref o0), .val (.int (3 : Int32))] [(.int w_o0_size), (.int (3 : Int32))])) rfl (by rw [hml]; rfl) (argsL := [(.int (3 : Int32)), (.int w_o0_size)]) (rest := []) (lenOf pd_81 rfl) rfl (by show 2 * 0 + _ ≤ _; exact Nat.le_of_eq rfl) (hb hby d16_5) (fun _ _ => ⟨rfl, e435, (by decide : 0 + 0 ≤ _), (by decide : 0 + 0 ≤ _)⟩)
  dsimp only [Pt.U, Pt.locs, Pt.cells, Pt.slots] at X436 l436 y436 z436 st436 hQ436
  subst l436 y436 z436
  obtain ⟨rfl, N437, e436⟩ := hQ436
  have N439 := Fr.app N0 N437
  refine own_go st436 ?_
  refine own_go (S' := T436.setTop (mkF m 11 #[.val (.ref o0), .val (.int (3 : Int32))] [(.int (3 : Int32)), (.ref o0)])) (fun t k => ?_) ?_
  · show Steps p.tables e below (T436.setTop (mkF m 8 #[.val (.ref o0), .val (.int (3 : Int32))] [(.int (3 : Int32))])) t
    refine XS.pop X436.here hx rfl (hb hby d16_8) rfl rfl ?_
    show Steps p.tables e below (T436.setTop (mkF m 9 #[.val (.ref o0), .val (.int (3 : Int32))] [])) t
    refine XS.aloadN X436.here hx rfl (hb hby d16_9) rfl rfl ?_
    show Steps p.tables e below (T436.setTop (mkF m 10 #[.val (.ref o0), .val (.int (3 : Int32))] [(.ref o0)])) t
    refine XS.iloadN X436.here hx rfl (hb hby d16_10) rfl ?_
    exact k
  obtain ⟨cq440, kq440, qa440, qb440, qc440⟩ := isOf hZ e436 E_o0
  obtain ⟨_, _, ⟨T440, L440, kk440, nn440⟩, -, X440, ⟨Lc440, hQ440, l440, y440, z440⟩, st440⟩ := X436.virtualBack hx (y := (⟨"java/util/ArrayList", "elementData", "(I)Ljava/lang/Object;"⟩ : MethodName)) (z := (⟨"java/util/ArrayList", "elementData", "(I)Ljava/lang/Object;"⟩ : MethodName)) hown (mvT hZ (hw _ (List.mem_of_getElem? (i := 116) rfl))) (mvT hZ (hw _ (List.mem_of_getElem? (i := 117) rfl))) (notFace_of_selects (args := #[]) (mvT hZ (hw _ (List.mem_of_getElem? (i := 119) rfl)))) (mvT hZ (hw _ (List.mem_of_getElem? (i := 119) rfl))) (mvT hZ (hw _ (List.mem_of_getElem? (i := 118) rfl))) (by decide) (backOf (W := 0) (elD3 l Z a0 hw [] o0 w_o0_elementData w_o0_elementData_0 w_o0_elementData_1 w_o0_elementData_2 w_o0_elementData_3 w_o0_elementData_4 w_o0_elementData_5 w_o0_elementData_6 w_o0_elementData_7 w_o0_elementData_8 w_o0_elementData_9 h0 n0 Z0 F_o0_elementData B_w_o0_elementData) hZ (hw _ (List.mem_of_getElem? (i := 120) rfl)) (hw _ (List.mem_of_getElem? (i := 28) rfl)) (by decide) (by decide)) qa440 qc440 (g := (mkF m 11 #[.val (.ref o0), .val (.int (3 : Int32))] [(.int (3 : Int32)), (.ref o0)])) rfl (by rw [hml]; rfl) (Steps.refl _) (argsL := [(.int (3 : Int32))]) (rest := []) (lenOf pd_159 rfl) rfl (by show 2 * 0 + _ ≤ _; exact Nat.le_of_eq rfl) (hb hby d16_11) (fun _ _ => ⟨rfl, e436, (by decide : 0 + 0 ≤ _), (by decide : 0 + 0 ≤ _)⟩)
  dsimp only [Pt.U, Pt.locs, Pt.cells, Pt.slots] at X440 l440 y440 z440 st440 hQ440
  subst l440 y440 z440
  obtain ⟨rfl, N441, e440⟩ := hQ440
  have N443 := Fr.app N439 N441
  refine own_goT st440 ?_
  obtain ⟨fs, hr, hrun, hended, hW, hsame⟩ := X440.leave (v := some (.ref w_o0_elementData_3)) (fun h => by rw [Bd.returns] at h; cases h)
  refine own_end (v := some (.ref w_o0_elementData_3)) ?_ hrun hended ?_ hW (hsame.mono (by decide) (by decide))
  · show Steps p.tables e below (T440.setTop (mkF m 14 #[.val (.ref o0), .val (.int (3 : Int32))] [(.ref w_o0_elementData_3)])) _
    jvm_step X440.here [X440.here.top, hx, (hb hby d16_14), X440.method', Bd.returns, Value.isRef, FieldType.isReference]
    first | (intro acts; rw [hr _ acts rfl rfl rfl]) | rw [hr _ _ rfl rfl rfl]
    exact Steps.refl _
  · show Qget3 Z o0 w_o0_size w_o0_elementData w_o0_elementData_0 w_o0_elementData_1 w_o0_elementData_2 w_o0_elementData_3 w_o0_elementData_4 w_o0_elementData_5 w_o0_elementData_6 w_o0_elementData_7 w_o0_elementData_8 w_o0_elementData_9 h0 n0 _ T440.heap _
    rw [e440]
    exact ⟨rfl, N443, rfl⟩
theorem ef_of3 (m : MethodId) (x0 : Addr) (x1 : Addr) (x3 : Addr) (x4 : Addr) : entryFrame m #[(.ref x0), (.ref x1), (.int (3 : Int32)), (.ref x3), (.ref x4)] 5 = mkF m 0 #[.val (.ref x0), .val (.ref x1), .val (.int (3 : Int32)), .val (.ref x3), .val (.ref x4)] [] := by first | (simp [entryFrame, mkF, argsToLocals, Value.category]; done) | rfl
def Qof3 (Z : State) (o0 : Addr) (o1 : Addr) (o3 : Addr) (o4 : Addr) (w_o1_size : Int32) (w_o1_elementData : Addr) (w_o1_elementData_0 : Value) (w_o1_elementData_1 : Value) (w_o1_elementData_2 : Value) (w_o1_elementData_3 : Addr) (w_o1_elementData_4 : Value) (w_o1_elementData_5 : Value) (w_o1_elementData_6 : Value) (w_o1_elementData_7 : Value) (w_o1_elementData_8 : Value) (w_o1_elementData_9 : Value) (h0 : Heap) (n0 : Nat) (v : Option Value) (h : Heap) (L : List Loc) : Prop := v = some (.ref w_o1_elementData_3) ∧ Fr n0 L ∧ h = h0
set_option maxRecDepth 65536 in
set_option maxHeartbeats 40000000 in
theorem of3 (l : Launch) (Z : State) (a0 : Array Value) (hw : ∀ d ∈ tables_1, d.before a0 Z = true) (ws : List Jvm.Cond) (o0 : Addr) (o1 : Addr) (o3 : Addr) (o4 : Addr) (w_o1_size : Int32) (w_o1_elementData : Addr) (w_o1_elementData_0 : Value) (w_o1_elementData_1 : Value) (w_o1_elementData_2 : Value) (w_o1_elementData_3 : Addr) (w_o1_elementData_4 : Value) (w_o1_elementData_5 : Value) (w_o1_elementData_6 : Value) (w_o1_elementData_7 : Value) (w_o1_elementData_8 : Value) (w_o1_elementData_9 : Value) (h0 : Heap) (n0 : Nat) (Z0 : n0 ≤ h0.size) (hc6 : (3 : Int32) < w_o1_size) (F_o1_size : Fld Z h0 o1 "java/util/ArrayList" "size" "I" (.int w_o1_size)) (E_o1 : Exa Z h0 o1 "java/util/ArrayList") (hc7 : ¬ ((3 : Int32) = w_o1_size)) (F_o1_elementData : Fld Z h0 o1 "java/util/ArrayList" "elementData" "[Ljava/lang/Object;" (.ref w_o1_elementData)) (B_w_o1_elementData : own_ArvR Z h0 w_o1_elementData "java/lang/Object" (10 : Int32) [w_o1_elementData_0, w_o1_elementData_1, w_o1_elementData_2, (.ref w_o1_elementData_3), w_o1_elementData_4, w_o1_elementData_5, w_o1_elementData_6, w_o1_elementData_7, w_o1_elementData_8, w_o1_elementData_9]) (E_w_o1_elementData_3 : Exa Z h0 w_o1_elementData_3 "java/lang/String") :
    MetFree l (⟨"com/example/scorebench/scorebench/OptionValue", "of", "(Ljava/lang/String;Ljava/util/List;ILjava/lang/String;Ljava/lang/String;)Ljava/lang/String;"⟩ : MethodName) (head1 (Jvm.Cond.code (⟨"com/example/scorebench/scorebench/OptionValue", "of", "(Ljava/lang/String;Ljava/util/List;ILjava/lang/String;Ljava/lang/String;)Ljava/lang/String;"⟩ : MethodName) prog_4_method_2_code 5 (some (.object "java/lang/String")) :: ws) ({ frames := 3, cells := 0, slots := 0, locals := 40 } : Room)) (fun a U => a = #[(.ref o0), (.ref o1), (.int (3 : Int32)), (.ref o3), (.ref o4)] ∧ Z.Warmed39 U.vm ∧ U.heap = h0) (fun _ _ _ _ _ => True) (fun _ U o U' => ∃ v L, o = .returned v ∧ Qof3 Z o0 o1 o3 o4 w_o1_size w_o1_elementData w_o1_elementData_0 w_o1_elementData_1 w_o1_elementData_2 w_o1_elementData_3 w_o1_elementData_4 w_o1_elementData_5 w_o1_elementData_6 w_o1_elementData_7 w_o1_elementData_8 w_o1_elementData_9 h0 n0 v U'.heap L ∧ FrameEnd U o U' L ({ frames := 3, cells := 0, slots := 0, locals := 40 } : Room).cells ({ frames := 3, cells := 0, slots := 0, locals := 40 } : Room).slots) := by
  refine MetFree.of_bodySF (plainFor_of_name pn_171) hisR ?_
  intro p e s m args below meth c s₁ Bd hml0 hP hK
  obtain ⟨rfl, hZ, hh⟩ := hP
  have hx := Bd.exec
  have hby := Bd.bytes
  have hml : c.maxLocals = 5 := hml0
  have hown : s.vm.findClass "com/example/scorebench/scorebench/OptionValue" = some m.cls := findClass_of_methodNamed Bd.named
  have hnm := (name_of_methodNamed Bd.named Bd.method).1
  have X0 : Stand p l e ({ frames := 3, cells := 0, slots := 0, locals := 40 } : Room) s m #[(.ref o0), (.ref o1), (.int (3 : Int32)), (.ref o3), (.ref o4)] below meth c s₁ [] 0 0 := Stand.of_body Bd
  have e0 : s₁.heap = h0 := by rw [← hh, Bd.state]; rfl
  have N0 := Fr.nil n0
  show own_Go p e below s (Qof3 Z o0 o1 o3 o4 w_o1_size w_o1_elementData w_o1_elementData_0 w_o1_elementData_1 w_o1_elementData_2 w_o1_elementData_3 w_o1_elementData_4 w_o1_elementData_5 w_o1_elementData_6 w_o1_elementData_7 w_o1_elementData_8 w_o1_elementData_9 h0 n0) ({ frames := 3, cells := 0, slots := 0, locals := 40 } : Room).cells ({ frames := 3, cells := 0, slots := 0, locals := 40 } : Room).slots (s₁.setTop (entryFrame m #[(.ref o0), (.ref o1), (.int (3 : Int32)), (.ref o3), (.ref o4)] 5))
  rw [ef_of3 m o0 o1 o3 o4]
  have K0 : Keep h0 h0 [] := Keep.refl h0 []
  refine own_go (S' := s₁.setTop (mkF m 2 #[.val (.ref o0), .val (.ref o1), .val (.int (3 : Int32)), .val (.ref o3), .val (.ref o4)] [(.ref o1), (.int (3 : Int32))])) (fun t k => ?_) ?_
  · show Steps p.tables e below (s₁.setTop (mkF m 0 #[.val (.ref o0), .val (.ref o1), .val (.int (3 : Int32)), .val (.ref o3), .val (.ref o4)] [])) t
    refine XS.iloadN X0.here hx rfl (hb hby d14_0) rfl ?_
    show Steps p.tables e below (s₁.setTop (mkF m 1 #[.val (.ref o0), .val (.ref o1), .val (.int (3 : Int32)), .val (.ref o3), .val (.ref o4)] [(.int (3 : Int32))])) t
    refine XS.aloadN X0.here hx rfl (hb hby d14_1) rfl rfl ?_
    exact k
  obtain ⟨cq444, kq444, qa444, qb444, qc444⟩ := isOf hZ e0 E_o1
  obtain ⟨_, _, ⟨T444, L444, kk444, nn444⟩, -, X444, ⟨Lc444, hQ444, l444, y444, z444⟩, st444⟩ := X0.interfaceBack hx (xi := (⟨"java/util/List", "size", "()I"⟩ : MethodName)) (y := (⟨"java/util/ArrayList", "size", "()I"⟩ : MethodName)) hown (mvT hZ (hw _ (List.mem_of_getElem? (i := 91) rfl))) (mvT hZ (hw _ (List.mem_of_getElem? (i := 92) rfl))) (mvT hZ (hw _ (List.mem_of_getElem? (i := 93) rfl))) (mvT hZ (hw _ (List.mem_of_getElem? (i := 94) rfl))) (mvT hZ (hw _ (List.mem_of_getElem? (i := 95) rfl))) (mvT hZ (hw _ (List.mem_of_getElem? (i := 96) rfl))) (mvT hZ (hw _ (List.mem_of_getElem? (i := 97) rfl))) (mvT hZ (hw _ (List.mem_of_getElem? (i := 98) rfl))) (by decide) (backOf (W := 1) (alSize l Z a0 hw [] o1 w_o1_size h0 n0 Z0 F_o1_size) hZ (hw _ (List.mem_of_getElem? (i := 99) rfl)) (hw _ (List.mem_of_getElem? (i := 28) rfl)) (by decide) (by decide)) qa444 qb444 qc444 (g := (mkF m 2 #[.val (.ref o0), .val (.ref o1), .val (.int (3 : Int32)), .val (.ref o3), .val (.ref o4)] [(.ref o1), (.int (3 : Int32))])) rfl (by rw [hml]; rfl) (Steps.refl _) (argsL := []) (rest := [(.int (3 : Int32))]) (lenOf pd_164 rfl) rfl (by show 2 * 0 + _ ≤ _; exact Nat.le_of_eq rfl) (hb hby d14_2) (fun _ _ => ⟨rfl, e0, (by decide : 0 + 0 ≤ _), (by decide : 0 + 0 ≤ _)⟩)
  dsimp only [Pt.U, Pt.locs, Pt.cells, Pt.slots] at X444 l444 y444 z444 st444 hQ444
  subst l444 y444 z444
  obtain ⟨rfl, N445, e444⟩ := hQ444
  have N447 := Fr.app N0 N445
  refine own_goT st444 ?_
  refine own_go (S' := T444.setTop (mkF m 29 #[.val (.ref o0), .val (.ref o1), .val (.int (3 : Int32)), .val (.ref o3), .val (.ref o4)] [(.int (3 : Int32)), (.ref o1)])) (fun t k => ?_) ?_
  · show Steps p.tables e below (T444.setTop (mkF m 7 #[.val (.ref o0), .val (.ref o1), .val (.int (3 : Int32)), .val (.ref o3), .val (.ref o4)] [(.int w_o1_size), (.int (3 : Int32))])) t
    refine XS.icmpYes X444.here hx rfl (pc0 := 7) (pc' := 27) rfl (hb hby d14_7) rfl (feq hc7).2 (by decide) (by decide) ?_
    show Steps p.tables e below (T444.setTop (mkF m 27 #[.val (.ref o0), .val (.ref o1), .val (.int (3 : Int32)), .val (.ref o3), .val (.ref o4)] [])) t
    refine XS.aloadN X444.here hx rfl (hb hby d14_27) rfl rfl ?_
    show Steps p.tables e below (T444.setTop (mkF m 28 #[.val (.ref o0), .val (.ref o1), .val (.int (3 : Int32)), .val (.ref o3), .val (.ref o4)] [(.ref o1)])) t
    refine XS.iloadN X444.here hx rfl (hb hby d14_28) rfl ?_
    exact k
  obtain ⟨cq448, kq448, qa448, qb448, qc448⟩ := isOf hZ e444 E_o1
  obtain ⟨_, _, ⟨T448, L448, kk448, nn448⟩, -, X448, ⟨Lc448, hQ448, l448, y448, z448⟩, st448⟩ := X444.interfaceBack hx (xi := (⟨"java/util/List", "get", "(I)Ljava/lang/Object;"⟩ : MethodName)) (y := (⟨"java/util/ArrayList", "get", "(I)Ljava/lang/Object;"⟩ : MethodName)) hown (mvT hZ (hw _ (List.mem_of_getElem? (i := 100) rfl))) (mvT hZ (hw _ (List.mem_of_getElem? (i := 101) rfl))) (mvT hZ (hw _ (List.mem_of_getElem? (i := 102) rfl))) (mvT hZ (hw _ (List.mem_of_getElem? (i := 103) rfl))) (mvT hZ (hw _ (List.mem_of_getElem? (i := 104) rfl))) (mvT hZ (hw _ (List.mem_of_getElem? (i := 105) rfl))) (mvT hZ (hw _ (List.mem_of_getElem? (i := 106) rfl))) (mvT hZ (hw _ (List.mem_of_getElem? (i := 98) rfl))) (by decide) (backOf (W := 0) (get3 l Z a0 hw [] o1 w_o1_size w_o1_elementData w_o1_elementData_0 w_o1_elementData_1 w_o1_elementData_2 w_o1_elementData_3 w_o1_elementData_4 w_o1_elementData_5 w_o1_elementData_6 w_o1_elementData_7 w_o1_elementData_8 w_o1_elementData_9 h0 n0 Z0 (hc6 : (3 : Int32) < w_o1_size) F_o1_size F_o1_elementData B_w_o1_elementData E_o1) hZ (hw _ (List.mem_of_getElem? (i := 107) rfl)) (hw _ (List.mem_of_getElem? (i := 28) rfl)) (by decide) (by decide)) qa448 qb448 qc448 (g := (mkF m 29 #[.val (.ref o0), .val (.ref o1), .val (.int (3 : Int32)), .val (.ref o3), .val (.ref o4)] [(.int (3 : Int32)), (.ref o1)])) rfl (by rw [hml]; rfl) (Steps.refl _) (argsL := [(.int (3 : Int32))]) (rest := []) (lenOf pd_159 rfl) rfl (by show 2 * 0 + _ ≤ _; exact Nat.le_of_eq rfl) (hb hby d14_29) (fun _ _ => ⟨rfl, e444, (by decide : 0 + 0 ≤ _), (by decide : 0 + 0 ≤ _)⟩)
  dsimp only [Pt.U, Pt.locs, Pt.cells, Pt.slots] at X448 l448 y448 z448 st448 hQ448
  subst l448 y448 z448
  obtain ⟨rfl, N449, e448⟩ := hQ448
  have N451 := Fr.app N447 N449
  refine own_goT st448 ?_
  obtain ⟨T452, X452, e452, st452⟩ := castY X448 hx hZ hown (hw _ (List.mem_of_getElem? (i := 121) rfl)) e448 (Ins.self E_w_o1_elementData_3) (g := (mkF m 34 #[.val (.ref o0), .val (.ref o1), .val (.int (3 : Int32)), .val (.ref o3), .val (.ref o4)] [(.ref w_o1_elementData_3)])) rfl rfl (hb hby d14_34)
  refine own_go st452 ?_
  obtain ⟨fs, hr, hrun, hended, hW, hsame⟩ := X452.leave (v := some (.ref w_o1_elementData_3)) (fun h => by rw [Bd.returns] at h; cases h)
  refine own_end (v := some (.ref w_o1_elementData_3)) ?_ hrun hended ?_ hW (hsame.mono (by decide) (by decide))
  · show Steps p.tables e below (T452.setTop (mkF m 37 #[.val (.ref o0), .val (.ref o1), .val (.int (3 : Int32)), .val (.ref o3), .val (.ref o4)] [(.ref w_o1_elementData_3)])) _
    jvm_step X452.here [X452.here.top, hx, (hb hby d14_37), X452.method', Bd.returns, Value.isRef, FieldType.isReference]
    first | (intro acts; rw [hr _ acts rfl rfl rfl]) | rw [hr _ _ rfl rfl rfl]
    exact Steps.refl _
  · show Qof3 Z o0 o1 o3 o4 w_o1_size w_o1_elementData w_o1_elementData_0 w_o1_elementData_1 w_o1_elementData_2 w_o1_elementData_3 w_o1_elementData_4 w_o1_elementData_5 w_o1_elementData_6 w_o1_elementData_7 w_o1_elementData_8 w_o1_elementData_9 h0 n0 _ T452.heap _
    rw [e452]
    exact ⟨rfl, N451, rfl⟩
theorem d20_0 : decode jdk_42_method_66_code 0 = .ok (.aload_n 0, 1) := by decide +kernel
theorem d20_1 : decode jdk_42_method_66_code 1 = .ok (.aload_n 1, 1) := by decide +kernel
theorem d20_2 : decode jdk_42_method_66_code 2 = .ok (.if_acmp .ne 5, 3) := by decide +kernel
theorem d20_5 : decode jdk_42_method_66_code 5 = .ok (.iconst 1, 1) := by decide +kernel
theorem d20_6 : decode jdk_42_method_66_code 6 = .ok (.ireturn, 1) := by decide +kernel
theorem ef_eqSame (m : MethodId) (x0 : Addr) (x1 : Addr) : entryFrame m #[(.ref x0), (.ref x1)] 3 = mkF m 0 #[.val (.ref x0), .val (.ref x1), .unset] [] := by first | (simp [entryFrame, mkF, argsToLocals, Value.category]; done) | rfl
def QeqSame (Z : State) (o0 : Addr) (o1 : Addr) (h0 : Heap) (n0 : Nat) (v : Option Value) (h : Heap) (L : List Loc) : Prop := v = some (.int (1 : Int32)) ∧ Fr n0 L ∧ h = h0
set_option maxRecDepth 65536 in
set_option maxHeartbeats 40000000 in
theorem eqSame (l : Launch) (Z : State) (a0 : Array Value) (hw : ∀ d ∈ tables_1, d.before a0 Z = true) (ws : List Jvm.Cond) (o0 : Addr) (o1 : Addr) (h0 : Heap) (n0 : Nat) (Z0 : n0 ≤ h0.size) (hc2 : o0 = o1) :
    MetFree l (⟨"java/lang/String", "equals", "(Ljava/lang/Object;)Z"⟩ : MethodName) (head1 (Jvm.Cond.code (⟨"java/lang/String", "equals", "(Ljava/lang/Object;)Z"⟩ : MethodName) jdk_42_method_66_code 3 (some .boolean) :: ws) ({ frames := 0, cells := 0, slots := 0, locals := 0 } : Room)) (fun a U => a = #[(.ref o0), (.ref o1)] ∧ Z.Warmed39 U.vm ∧ U.heap = h0) (fun _ _ _ _ _ => True) (fun _ U o U' => ∃ v L, o = .returned v ∧ QeqSame Z o0 o1 h0 n0 v U'.heap L ∧ FrameEnd U o U' L ({ frames := 0, cells := 0, slots := 0, locals := 0 } : Room).cells ({ frames := 0, cells := 0, slots := 0, locals := 0 } : Room).slots) := by
  refine MetFree.of_bodySF (plainFor_of_name pn_25) hisR ?_
  intro p e s m args below meth c s₁ Bd hml0 hP hK
  obtain ⟨rfl, hZ, hh⟩ := hP
  have hx := Bd.exec
  have hby := Bd.bytes
  have hml : c.maxLocals = 3 := hml0
  have hown : s.vm.findClass "java/lang/String" = some m.cls := findClass_of_methodNamed Bd.named
  have hnm := (name_of_methodNamed Bd.named Bd.method).1
  have X0 : Stand p l e ({ frames := 0, cells := 0, slots := 0, locals := 0 } : Room) s m #[(.ref o0), (.ref o1)] below meth c s₁ [] 0 0 := Stand.of_body Bd
  have e0 : s₁.heap = h0 := by rw [← hh, Bd.state]; rfl
  have N0 := Fr.nil n0
  show own_Go p e below s (QeqSame Z o0 o1 h0 n0) ({ frames := 0, cells := 0, slots := 0, locals := 0 } : Room).cells ({ frames := 0, cells := 0, slots := 0, locals := 0 } : Room).slots (s₁.setTop (entryFrame m #[(.ref o0), (.ref o1)] 3))
  rw [ef_eqSame m o0 o1]
  have K0 : Keep h0 h0 [] := Keep.refl h0 []
  refine own_go (S' := s₁.setTop (mkF m 6 #[.val (.ref o0), .val (.ref o1), .unset] [(.int (1 : Int32))])) (fun t k => ?_) ?_
  · show Steps p.tables e below (s₁.setTop (mkF m 0 #[.val (.ref o0), .val (.ref o1), .unset] [])) t
    refine XS.aloadN X0.here hx rfl (hb hby d20_0) rfl rfl ?_
    show Steps p.tables e below (s₁.setTop (mkF m 1 #[.val (.ref o0), .val (.ref o1), .unset] [(.ref o0)])) t
    refine XS.aloadN X0.here hx rfl (hb hby d20_1) rfl rfl ?_
    show Steps p.tables e below (s₁.setTop (mkF m 2 #[.val (.ref o0), .val (.ref o1), .unset] [(.ref o1), (.ref o0)])) t
    refine Jvm.RoadKit.acmp (g := (mkF m 2 #[.val (.ref o0), .val (.ref o1), .unset] [(.ref o1), (.ref o0)])) X0 hx rfl rfl rfl (pc0 := 2) (pc' := 5) (same := true) rfl (hb hby d20_2) rfl (decide_eq_true (congrArg Value.ref hc2)) (by decide) (by decide) ?_
    show Steps p.tables e below (s₁.setTop (mkF m 5 #[.val (.ref o0), .val (.ref o1), .unset] [])) t
    refine XS.iconst X0.here hx rfl (hb hby d20_5) ?_
    exact k
  obtain ⟨fs, hr, hrun, hended, hW, hsame⟩ := X0.leave (v := some (.int (1 : Int32))) (fun h => by rw [Bd.returns] at h; cases h)
  refine own_end (v := some (.int (1 : Int32))) ?_ hrun hended ?_ hW (hsame.mono (by decide) (by decide))
  · show Steps p.tables e below (s₁.setTop (mkF m 6 #[.val (.ref o0), .val (.ref o1), .unset] [(.int (1 : Int32))])) _
    exact retN X0 hx (t := .boolean) Bd.returns (by simp) (hb hby d20_6) hr
  · show QeqSame Z o0 o1 h0 n0 _ s₁.heap _
    rw [e0]
    exact ⟨rfl, N0, rfl⟩
theorem own_size (p4 : Int32) : ((1 : Int32) + (p4 &&& (3 : Int32))).toInt = 1 + p4.toInt % 2 ^ 2 := by
  have e : (p4 &&& (3 : Int32)).toInt = p4.toInt % 2 ^ 2 := Jvm.Kit.i32_mask p4 3 (k := 2) (by decide) (by decide)
  have o : (1 : Int32).toInt = 1 := rfl
  rw [Jvm.Kit.i32_add (by omega) (by omega)]; omega
theorem own_nz (p4 : Int32) : ((1 : Int32) + (p4 &&& (3 : Int32))) ≠ 0 := fun e => by
  have h := own_size p4
  rw [e] at h
  have z : (0 : Int32).toInt = 0 := rfl
  omega
theorem own_at (p4 p5 : Int32) : 0 ≤ ((p5 &&& (2147483647 : Int32)) % ((1 : Int32) + (p4 &&& (3 : Int32)))).toInt ∧ ((p5 &&& (2147483647 : Int32)) % ((1 : Int32) + (p4 &&& (3 : Int32)))).toInt < ((1 : Int32) + (p4 &&& (3 : Int32))).toInt := by
  have e1 : (p5 &&& (2147483647 : Int32)).toInt = p5.toInt % 2 ^ 31 := Jvm.Kit.i32_mask p5 2147483647 (k := 31) (by decide) (by decide)
  have h := own_size p4
  rw [Jvm.Kit.i32_rem_nonneg (by omega)]
  exact ⟨Int.emod_nonneg _ (by omega), Int.emod_lt_of_pos _ (by omega)⟩
theorem own_neI {x k : Int32} (h : ¬ x = k) : x.toInt ≠ k.toInt := fun e => h (Int32.toInt_inj.mp e)
theorem own_gl {x a b : Int32} (h1 : ¬ a < x) (h2 : b < x) (h3 : a < b) : False := by
  rw [Int32.lt_iff_toInt_lt] at h1 h2 h3; omega
theorem own_at0 {p4 p5 : Int32} (h : ¬ (1 : Int32) < ((1 : Int32) + (p4 &&& (3 : Int32)))) (n0 : ¬ ((p5 &&& (2147483647 : Int32)) % ((1 : Int32) + (p4 &&& (3 : Int32)))) = (0 : Int32)) : False := by
  have a := own_at p4 p5
  have b := own_neI n0
  rw [Int32.lt_iff_toInt_lt] at h
  have z0 : (0 : Int32).toInt = 0 := rfl
  have z1 : (1 : Int32).toInt = 1 := rfl
  omega
theorem own_at1 {p4 p5 : Int32} (h : ¬ (2 : Int32) < ((1 : Int32) + (p4 &&& (3 : Int32)))) (n0 : ¬ ((p5 &&& (2147483647 : Int32)) % ((1 : Int32) + (p4 &&& (3 : Int32)))) = (0 : Int32)) (n1 : ¬ ((p5 &&& (2147483647 : Int32)) % ((1 : Int32) + (p4 &&& (3 : Int32)))) = (1 : Int32)) : False := by
  have a := own_at p4 p5
  have b := own_neI n0
  have c := own_neI n1
  rw [Int32.lt_iff_toInt_lt] at h
  have z0 : (0 : Int32).toInt = 0 := rfl
  have z1 : (1 : Int32).toInt = 1 := rfl
  have z2 : (2 : Int32).toInt = 2 := rfl
  omega
theorem own_at2 {p4 p5 : Int32} (h : ¬ (3 : Int32) < ((1 : Int32) + (p4 &&& (3 : Int32)))) (n0 : ¬ ((p5 &&& (2147483647 : Int32)) % ((1 : Int32) + (p4 &&& (3 : Int32)))) = (0 : Int32)) (n1 : ¬ ((p5 &&& (2147483647 : Int32)) % ((1 : Int32) + (p4 &&& (3 : Int32)))) = (1 : Int32)) (n2 : ¬ ((p5 &&& (2147483647 : Int32)) % ((1 : Int32) + (p4 &&& (3 : Int32)))) = (2 : Int32)) : False := by
  have a := own_at p4 p5
  have b := own_neI n0
  have c := own_neI n1
  have d := own_neI n2
  rw [Int32.lt_iff_toInt_lt] at h
  have z0 : (0 : Int32).toInt = 0 := rfl
  have z1 : (1 : Int32).toInt = 1 := rfl
  have z2 : (2 : Int32).toInt = 2 := rfl
  have z3 : (3 : Int32).toInt = 3 := rfl
  omega
theorem own_at3 {p4 p5 : Int32} (n0 : ¬ ((p5 &&& (2147483647 : Int32)) % ((1 : Int32) + (p4 &&& (3 : Int32)))) = (0 : Int32)) (n1 : ¬ ((p5 &&& (2147483647 : Int32)) % ((1 : Int32) + (p4 &&& (3 : Int32)))) = (1 : Int32)) (n2 : ¬ ((p5 &&& (2147483647 : Int32)) % ((1 : Int32) + (p4 &&& (3 : Int32)))) = (2 : Int32)) : ((p5 &&& (2147483647 : Int32)) % ((1 : Int32) + (p4 &&& (3 : Int32)))) = (3 : Int32) := by
  have a := own_at p4 p5
  have s := own_size p4
  have b := own_neI n0
  have c := own_neI n1
  have d := own_neI n2
  have z0 : (0 : Int32).toInt = 0 := rfl
  have z1 : (1 : Int32).toInt = 1 := rfl
  have z2 : (2 : Int32).toInt = 2 := rfl
  have z3 : (3 : Int32).toInt = 3 := rfl
  exact Int32.toInt_inj.mp (by omega)
theorem own_sz {p4 a b : Int32} (h1 : a < ((1 : Int32) + (p4 &&& (3 : Int32)))) (h2 : ¬ b < ((1 : Int32) + (p4 &&& (3 : Int32)))) (e : a.toInt + 1 = b.toInt) : b = ((1 : Int32) + (p4 &&& (3 : Int32))) := by
  rw [Int32.lt_iff_toInt_lt] at h1 h2
  exact Int32.toInt_inj.mp (by omega)
theorem own_lo (p4 : Int32) : (0 : Int32) < ((1 : Int32) + (p4 &&& (3 : Int32))) := by
  have s := own_size p4
  have z0 : (0 : Int32).toInt = 0 := rfl
  rw [Int32.lt_iff_toInt_lt]; omega
theorem own_hi (p4 : Int32) : ¬ (4 : Int32) < ((1 : Int32) + (p4 &&& (3 : Int32))) := by
  have s := own_size p4
  have z0 : (4 : Int32).toInt = 4 := rfl
  rw [Int32.lt_iff_toInt_lt]; omega
theorem pd_177 : parseMethodDescriptor "(C)Ljava/lang/String;" = some ⟨[.char], some (.object "java/lang/String")⟩ := by decide +kernel
theorem pd_178 : parseMethodDescriptor "(Ljava/lang/Object;)Z" = some ⟨[(.object "java/lang/Object")], some .boolean⟩ := by decide +kernel
theorem pd_179 : parseMethodDescriptor "(Ljava/lang/String;Ljava/util/List;ILjava/lang/String;Ljava/lang/String;)Ljava/lang/String;" = some ⟨[(.object "java/lang/String"), (.object "java/util/List"), .int, (.object "java/lang/String"), (.object "java/lang/String")], some (.object "java/lang/String")⟩ := by decide +kernel
theorem pn_180 : plainName "com/example/scorebench/scorebench/OptionValueOfPinLaw" = true := by first | (simp [plainName, overriddenIn]; done) | decide +kernel
theorem ef_rm0 (m : MethodId) (x0 : Int32) (x1 : Int32) (x2 : Int32) (x3 : Int32) (x4 : Int32) (x5 : Int32) : entryFrame m #[(.int x0), (.int x1), (.int x2), (.int x3), (.int x4), (.int x5)] maxLocals = mkF m 0 #[.val (.int x0), .val (.int x1), .val (.int x2), .val (.int x3), .val (.int x4), .val (.int x5), .unset, .unset, .unset, .unset, .unset, .unset, .unset, .unset, .unset] [] := by first | (simp [entryFrame, mkF, argsToLocals, Value.category, maxLocals]; done) | rfl
def Qrm0 (Z : State) (p0 : Int32) (p1 : Int32) (p2 : Int32) (p3 : Int32) (p4 : Int32) (p5 : Int32) (w_s_COMPACT_STRINGS : Int32) (w_s_DEFAULTCAPACITY_EMPTY_ELEMENTDATA : Addr) (h0 : Heap) (n0 : Nat) (v : Option Value) (h : Heap) (L : List Loc) : Prop := v = some (.int 1) ∧ Fr n0 L
set_option maxRecDepth 65536 in
set_option maxHeartbeats 40000000 in
theorem rm0 (l : Launch) (Z : State) (a0 : Array Value) (hw : ∀ d ∈ tables_1, d.before a0 Z = true) (ws : List Jvm.Cond) (p0 : Int32) (p1 : Int32) (p2 : Int32) (p3 : Int32) (p4 : Int32) (p5 : Int32) (w_s_COMPACT_STRINGS : Int32) (w_s_DEFAULTCAPACITY_EMPTY_ELEMENTDATA : Addr) (h0 : Heap) (n0 : Nat) (Z0 : n0 ≤ h0.size) (hcs : ¬ (w_s_COMPACT_STRINGS = (0 : Int32))) (LD : own_Len Z h0 w_s_DEFAULTCAPACITY_EMPTY_ELEMENTDATA (.object "java/lang/Object") (0 : Int32)) (S_COMPACT_STRINGS : Sta Z h0 "java/lang/String" "COMPACT_STRINGS" "Z" (.int w_s_COMPACT_STRINGS)) (S_DEFAULTCAPACITY_EMPTY_ELEMENTDATA : Sta Z h0 "java/util/ArrayList" "DEFAULTCAPACITY_EMPTY_ELEMENTDATA" "[Ljava/lang/Object;" (.ref w_s_DEFAULTCAPACITY_EMPTY_ELEMENTDATA)) :
    MetFree l x (head1 (Jvm.Cond.code x code maxLocals ret :: ws) room_1) (fun a U => a = #[(.int p0), (.int p1), (.int p2), (.int p3), (.int p4), (.int p5)] ∧ Z.Warmed39 U.vm ∧ U.heap = h0) (fun _ _ _ _ _ => True) (fun _ U o U' => ∃ v L, o = .returned v ∧ Qrm0 Z p0 p1 p2 p3 p4 p5 w_s_COMPACT_STRINGS w_s_DEFAULTCAPACITY_EMPTY_ELEMENTDATA h0 n0 v U'.heap L ∧ ReturnedEndW U o U' L room_1.cells room_1.slots) := by
  refine MetFree.of_bodySF (plainFor_of_name pn_180) hisR ?_
  intro p e s m args below meth c s₁ Bd hml0 hP hK
  obtain ⟨rfl, hZ, hh⟩ := hP
  have hx := Bd.exec
  have hby := Bd.bytes
  have hml : c.maxLocals = 15 := hml0
  have hown : s.vm.findClass "com/example/scorebench/scorebench/OptionValueOfPinLaw" = some m.cls := findClass_of_methodNamed Bd.named
  have hnm := (name_of_methodNamed Bd.named Bd.method).1
  have X0 : Stand p l e room_1 s m #[(.int p0), (.int p1), (.int p2), (.int p3), (.int p4), (.int p5)] below meth c s₁ [] 0 0 := Stand.of_body Bd
  have e0 : s₁.heap = h0 := by rw [← hh, Bd.state]; rfl
  have N0 := Fr.nil n0
  show own_GoW p e below s (Qrm0 Z p0 p1 p2 p3 p4 p5 w_s_COMPACT_STRINGS w_s_DEFAULTCAPACITY_EMPTY_ELEMENTDATA h0 n0) room_1.cells room_1.slots (s₁.setTop (entryFrame m #[(.int p0), (.int p1), (.int p2), (.int p3), (.int p4), (.int p5)] maxLocals))
  rw [ef_rm0 m p0 p1 p2 p3 p4 p5]
  have hS : s.Since s.vm 0 := (State.WarmedH.refl s).since 0
  have hk0 : 0 ≤ h0.size := Nat.zero_le _
  refine own_goW (S' := s₁.setTop (mkF m 14 #[.val (.int p0), .val (.int p1), .val (.int p2), .val (.int p3), .val (.int p4), .val (.int p5), .val (.int ((1 : Int32) + (p4 &&& (3 : Int32)))), .unset, .unset, .unset, .unset, .unset, .unset, .unset, .unset] [(.int ((p0 &&& (255 : Int32)).toUInt32.toUInt16.toUInt32.toInt32))])) (fun t k => ?_) ?_
  · show Steps p.tables e below (s₁.setTop (mkF m 0 #[.val (.int p0), .val (.int p1), .val (.int p2), .val (.int p3), .val (.int p4), .val (.int p5), .unset, .unset, .unset, .unset, .unset, .unset, .unset, .unset, .unset] [])) t
    refine XS.iconst X0.here hx rfl (hb hby at_0) ?_
    show Steps p.tables e below (s₁.setTop (mkF m 1 #[.val (.int p0), .val (.int p1), .val (.int p2), .val (.int p3), .val (.int p4), .val (.int p5), .unset, .unset, .unset, .unset, .unset, .unset, .unset, .unset, .unset] [(.int (1 : Int32))])) t
    refine XS.iload X0.here hx rfl (hb hby at_1) rfl ?_
    show Steps p.tables e below (s₁.setTop (mkF m 3 #[.val (.int p0), .val (.int p1), .val (.int p2), .val (.int p3), .val (.int p4), .val (.int p5), .unset, .unset, .unset, .unset, .unset, .unset, .unset, .unset, .unset] [(.int p4), (.int (1 : Int32))])) t
    refine XS.iconst X0.here hx rfl (hb hby at_3) ?_
    show Steps p.tables e below (s₁.setTop (mkF m 4 #[.val (.int p0), .val (.int p1), .val (.int p2), .val (.int p3), .val (.int p4), .val (.int p5), .unset, .unset, .unset, .unset, .unset, .unset, .unset, .unset, .unset] [(.int (3 : Int32)), (.int p4), (.int (1 : Int32))])) t
    refine XS.iand X0.here hx rfl (hb hby at_4) rfl ?_
    show Steps p.tables e below (s₁.setTop (mkF m 5 #[.val (.int p0), .val (.int p1), .val (.int p2), .val (.int p3), .val (.int p4), .val (.int p5), .unset, .unset, .unset, .unset, .unset, .unset, .unset, .unset, .unset] [(.int (p4 &&& (3 : Int32))), (.int (1 : Int32))])) t
    refine XS.iadd X0.here hx rfl (hb hby at_5) rfl ?_
    show Steps p.tables e below (s₁.setTop (mkF m 6 #[.val (.int p0), .val (.int p1), .val (.int p2), .val (.int p3), .val (.int p4), .val (.int p5), .unset, .unset, .unset, .unset, .unset, .unset, .unset, .unset, .unset] [(.int ((1 : Int32) + (p4 &&& (3 : Int32))))])) t
    refine XS.istore X0.here hx rfl (hb hby at_6) rfl (l' := #[.val (.int p0), .val (.int p1), .val (.int p2), .val (.int p3), .val (.int p4), .val (.int p5), .val (.int ((1 : Int32) + (p4 &&& (3 : Int32)))), .unset, .unset, .unset, .unset, .unset, .unset, .unset, .unset]) rfl ?_
    show Steps p.tables e below (s₁.setTop (mkF m 8 #[.val (.int p0), .val (.int p1), .val (.int p2), .val (.int p3), .val (.int p4), .val (.int p5), .val (.int ((1 : Int32) + (p4 &&& (3 : Int32)))), .unset, .unset, .unset, .unset, .unset, .unset, .unset, .unset] [])) t
    refine XS.iloadN X0.here hx rfl (hb hby at_8) rfl ?_
    show Steps p.tables e below (s₁.setTop (mkF m 9 #[.val (.int p0), .val (.int p1), .val (.int p2), .val (.int p3), .val (.int p4), .val (.int p5), .val (.int ((1 : Int32) + (p4 &&& (3 : Int32)))), .unset, .unset, .unset, .unset, .unset, .unset, .unset, .unset] [(.int p0)])) t
    refine XS.sipush X0.here hx rfl (hb hby at_9) ?_
    show Steps p.tables e below (s₁.setTop (mkF m 12 #[.val (.int p0), .val (.int p1), .val (.int p2), .val (.int p3), .val (.int p4), .val (.int p5), .val (.int ((1 : Int32) + (p4 &&& (3 : Int32)))), .unset, .unset, .unset, .unset, .unset, .unset, .unset, .unset] [(.int (255 : Int32)), (.int p0)])) t
    refine XS.iand X0.here hx rfl (hb hby at_12) rfl ?_
    show Steps p.tables e below (s₁.setTop (mkF m 13 #[.val (.int p0), .val (.int p1), .val (.int p2), .val (.int p3), .val (.int p4), .val (.int p5), .val (.int ((1 : Int32) + (p4 &&& (3 : Int32)))), .unset, .unset, .unset, .unset, .unset, .unset, .unset, .unset] [(.int (p0 &&& (255 : Int32)))])) t
    refine XS.i2c X0.here hx rfl (hb hby at_13) rfl ?_
    exact k
  obtain ⟨_, _, ⟨T453, L453, kk453, nn453⟩, -, X453, ⟨Lc453, hQ453, l453, y453, z453⟩, st453⟩ := Jvm.LawKit.callS X0 hx (y := (⟨"java/lang/String", "valueOf", "(C)Ljava/lang/String;"⟩ : MethodName)) hown (mvT hZ (hw _ (List.mem_of_getElem? (i := 0) rfl))) (mvT hZ (hw _ (List.mem_of_getElem? (i := 1) rfl))) (mvT hZ (hw _ (List.mem_of_getElem? (i := 2) rfl))) (mvT hZ (hw _ (List.mem_of_getElem? (i := 3) rfl))) (by decide) (backOf (W := 0) (valueOf l Z a0 hw [] ((p0 &&& (255 : Int32)).toUInt32.toUInt16.toUInt32.toInt32) w_s_COMPACT_STRINGS h0 n0 Z0 S_COMPACT_STRINGS (hcs : ¬ (w_s_COMPACT_STRINGS = (0 : Int32))) (own_enc _ : ¬ ((canEnc_r ((p0 &&& (255 : Int32)).toUInt32.toUInt16.toUInt32.toInt32)) = (0 : Int32)))) hZ (hw _ (List.mem_of_getElem? (i := 3) rfl)) (hw _ (List.mem_of_getElem? (i := 2) rfl)) (by decide) (by decide)) (g := (mkF m 14 #[.val (.int p0), .val (.int p1), .val (.int p2), .val (.int p3), .val (.int p4), .val (.int p5), .val (.int ((1 : Int32) + (p4 &&& (3 : Int32)))), .unset, .unset, .unset, .unset, .unset, .unset, .unset, .unset] [(.int ((p0 &&& (255 : Int32)).toUInt32.toUInt16.toUInt32.toInt32))])) rfl (by rw [hml]; rfl) (argsL := [(.int ((p0 &&& (255 : Int32)).toUInt32.toUInt16.toUInt32.toInt32))]) (rest := []) (lenOf pd_177 rfl) rfl (by show 2 * 0 + _ ≤ _; exact Nat.le_of_eq rfl) (hb hby at_14) (fun _ _ => ⟨rfl, e0, (by decide : 0 + 2 ≤ _), (by decide : 0 + 5 ≤ _)⟩)
  dsimp only [Pt.U, Pt.locs, Pt.cells, Pt.slots] at X453 l453 y453 z453 st453 hQ453
  subst l453 y453 z453
  obtain ⟨b454, rfl, N455, K456, p457, p458⟩ := hQ453
  have N459 := Fr.app N0 N455
  have ne460 : w_s_DEFAULTCAPACITY_EMPTY_ELEMENTDATA ≠ b454 := Nat.ne_of_lt (Nat.lt_of_lt_of_le LD.lt p457)
  have g_b454 : n0 ≤ b454 := Nat.le_trans Z0 p457
  have f461 : own_Len Z T453.heap w_s_DEFAULTCAPACITY_EMPTY_ELEMENTDATA (.object "java/lang/Object") (0 : Int32) := LD.keep K456 nin0
  have f462 : Sta Z T453.heap "java/lang/String" "COMPACT_STRINGS" "Z" (.int w_s_COMPACT_STRINGS) := own_sta_keep S_COMPACT_STRINGS K456 all0
  have f463 : Sta Z T453.heap "java/util/ArrayList" "DEFAULTCAPACITY_EMPTY_ELEMENTDATA" "[Ljava/lang/Object;" (.ref w_s_DEFAULTCAPACITY_EMPTY_ELEMENTDATA) := own_sta_keep S_DEFAULTCAPACITY_EMPTY_ELEMENTDATA K456 all0
  have Z464 : n0 ≤ T453.heap.size := Nat.le_trans Z0 K456.1
  have hk465 := Nat.le_trans hk0 K456.1
  refine own_goW st453 ?_
  refine own_goW (S' := T453.setTop (mkF m 25 #[.val (.int p0), .val (.int p1), .val (.int p2), .val (.int p3), .val (.int p4), .val (.int p5), .val (.int ((1 : Int32) + (p4 &&& (3 : Int32)))), .val (.ref b454), .unset, .unset, .unset, .unset, .unset, .unset, .unset] [(.int ((p1 &&& (255 : Int32)).toUInt32.toUInt16.toUInt32.toInt32))])) (fun t k => ?_) ?_
  · show Steps p.tables e below (T453.setTop (mkF m 17 #[.val (.int p0), .val (.int p1), .val (.int p2), .val (.int p3), .val (.int p4), .val (.int p5), .val (.int ((1 : Int32) + (p4 &&& (3 : Int32)))), .unset, .unset, .unset, .unset, .unset, .unset, .unset, .unset] [(.ref b454)])) t
    refine XS.astore X453.here hx rfl (hb hby at_17) rfl rfl (l' := #[.val (.int p0), .val (.int p1), .val (.int p2), .val (.int p3), .val (.int p4), .val (.int p5), .val (.int ((1 : Int32) + (p4 &&& (3 : Int32)))), .val (.ref b454), .unset, .unset, .unset, .unset, .unset, .unset, .unset]) rfl ?_
    show Steps p.tables e below (T453.setTop (mkF m 19 #[.val (.int p0), .val (.int p1), .val (.int p2), .val (.int p3), .val (.int p4), .val (.int p5), .val (.int ((1 : Int32) + (p4 &&& (3 : Int32)))), .val (.ref b454), .unset, .unset, .unset, .unset, .unset, .unset, .unset] [])) t
    refine XS.iloadN X453.here hx rfl (hb hby at_19) rfl ?_
    show Steps p.tables e below (T453.setTop (mkF m 20 #[.val (.int p0), .val (.int p1), .val (.int p2), .val (.int p3), .val (.int p4), .val (.int p5), .val (.int ((1 : Int32) + (p4 &&& (3 : Int32)))), .val (.ref b454), .unset, .unset, .unset, .unset, .unset, .unset, .unset] [(.int p1)])) t
    refine XS.sipush X453.here hx rfl (hb hby at_20) ?_
    show Steps p.tables e below (T453.setTop (mkF m 23 #[.val (.int p0), .val (.int p1), .val (.int p2), .val (.int p3), .val (.int p4), .val (.int p5), .val (.int ((1 : Int32) + (p4 &&& (3 : Int32)))), .val (.ref b454), .unset, .unset, .unset, .unset, .unset, .unset, .unset] [(.int (255 : Int32)), (.int p1)])) t
    refine XS.iand X453.here hx rfl (hb hby at_23) rfl ?_
    show Steps p.tables e below (T453.setTop (mkF m 24 #[.val (.int p0), .val (.int p1), .val (.int p2), .val (.int p3), .val (.int p4), .val (.int p5), .val (.int ((1 : Int32) + (p4 &&& (3 : Int32)))), .val (.ref b454), .unset, .unset, .unset, .unset, .unset, .unset, .unset] [(.int (p1 &&& (255 : Int32)))])) t
    refine XS.i2c X453.here hx rfl (hb hby at_24) rfl ?_
    exact k
  obtain ⟨_, _, ⟨T466, L466, kk466, nn466⟩, -, X466, ⟨Lc466, hQ466, l466, y466, z466⟩, st466⟩ := Jvm.LawKit.callS X453 hx (y := (⟨"java/lang/String", "valueOf", "(C)Ljava/lang/String;"⟩ : MethodName)) hown (mvT hZ (hw _ (List.mem_of_getElem? (i := 0) rfl))) (mvT hZ (hw _ (List.mem_of_getElem? (i := 1) rfl))) (mvT hZ (hw _ (List.mem_of_getElem? (i := 2) rfl))) (mvT hZ (hw _ (List.mem_of_getElem? (i := 3) rfl))) (by decide) (backOf (W := 0) (valueOf l Z a0 hw [] ((p1 &&& (255 : Int32)).toUInt32.toUInt16.toUInt32.toInt32) w_s_COMPACT_STRINGS T453.heap n0 Z464 f462 (hcs : ¬ (w_s_COMPACT_STRINGS = (0 : Int32))) (own_enc _ : ¬ ((canEnc_r ((p1 &&& (255 : Int32)).toUInt32.toUInt16.toUInt32.toInt32)) = (0 : Int32)))) hZ (hw _ (List.mem_of_getElem? (i := 3) rfl)) (hw _ (List.mem_of_getElem? (i := 2) rfl)) (by decide) (by decide)) (g := (mkF m 25 #[.val (.int p0), .val (.int p1), .val (.int p2), .val (.int p3), .val (.int p4), .val (.int p5), .val (.int ((1 : Int32) + (p4 &&& (3 : Int32)))), .val (.ref b454), .unset, .unset, .unset, .unset, .unset, .unset, .unset] [(.int ((p1 &&& (255 : Int32)).toUInt32.toUInt16.toUInt32.toInt32))])) rfl (by rw [hml]; rfl) (argsL := [(.int ((p1 &&& (255 : Int32)).toUInt32.toUInt16.toUInt32.toInt32))]) (rest := []) (lenOf pd_177 rfl) rfl (by show 2 * 0 + _ ≤ _; exact Nat.le_of_eq rfl) (hb hby at_25) (fun _ _ => ⟨rfl, rfl, (by decide : 2 + 2 ≤ _), (by decide : 5 + 5 ≤ _)⟩)
  dsimp only [Pt.U, Pt.locs, Pt.cells, Pt.slots] at X466 l466 y466 z466 st466 hQ466
  subst l466 y466 z466
  obtain ⟨b467, rfl, N468, K469, p470, p471⟩ := hQ466
  have N472 := Fr.app N459 N468
  have ne473 : w_s_DEFAULTCAPACITY_EMPTY_ELEMENTDATA ≠ b467 := Nat.ne_of_lt (Nat.lt_of_lt_of_le f461.lt p470)
  have ne474 : b454 ≠ b467 := Nat.ne_of_lt (Nat.lt_of_lt_of_le p458.lt p470)
  have g_b467 : n0 ≤ b467 := Nat.le_trans Z464 p470
  have f475 : own_Len Z T466.heap w_s_DEFAULTCAPACITY_EMPTY_ELEMENTDATA (.object "java/lang/Object") (0 : Int32) := f461.keep K469 nin0
  have f476 : Sta Z T466.heap "java/lang/String" "COMPACT_STRINGS" "Z" (.int w_s_COMPACT_STRINGS) := own_sta_keep f462 K469 all0
  have f477 : Sta Z T466.heap "java/util/ArrayList" "DEFAULTCAPACITY_EMPTY_ELEMENTDATA" "[Ljava/lang/Object;" (.ref w_s_DEFAULTCAPACITY_EMPTY_ELEMENTDATA) := own_sta_keep f463 K469 all0
  have f478 : Exa Z T466.heap b454 "java/lang/String" := p458.keep K469
  have Z479 : n0 ≤ T466.heap.size := Nat.le_trans Z464 K469.1
  have hk480 := Nat.le_trans hk465 K469.1
  refine own_goW st466 ?_
  refine own_goW (S' := T466.setTop (mkF m 36 #[.val (.int p0), .val (.int p1), .val (.int p2), .val (.int p3), .val (.int p4), .val (.int p5), .val (.int ((1 : Int32) + (p4 &&& (3 : Int32)))), .val (.ref b454), .val (.ref b467), .unset, .unset, .unset, .unset, .unset, .unset] [(.int ((p2 &&& (255 : Int32)).toUInt32.toUInt16.toUInt32.toInt32))])) (fun t k => ?_) ?_
  · show Steps p.tables e below (T466.setTop (mkF m 28 #[.val (.int p0), .val (.int p1), .val (.int p2), .val (.int p3), .val (.int p4), .val (.int p5), .val (.int ((1 : Int32) + (p4 &&& (3 : Int32)))), .val (.ref b454), .unset, .unset, .unset, .unset, .unset, .unset, .unset] [(.ref b467)])) t
    refine XS.astore X466.here hx rfl (hb hby at_28) rfl rfl (l' := #[.val (.int p0), .val (.int p1), .val (.int p2), .val (.int p3), .val (.int p4), .val (.int p5), .val (.int ((1 : Int32) + (p4 &&& (3 : Int32)))), .val (.ref b454), .val (.ref b467), .unset, .unset, .unset, .unset, .unset, .unset]) rfl ?_
    show Steps p.tables e below (T466.setTop (mkF m 30 #[.val (.int p0), .val (.int p1), .val (.int p2), .val (.int p3), .val (.int p4), .val (.int p5), .val (.int ((1 : Int32) + (p4 &&& (3 : Int32)))), .val (.ref b454), .val (.ref b467), .unset, .unset, .unset, .unset, .unset, .unset] [])) t
    refine XS.iloadN X466.here hx rfl (hb hby at_30) rfl ?_
    show Steps p.tables e below (T466.setTop (mkF m 31 #[.val (.int p0), .val (.int p1), .val (.int p2), .val (.int p3), .val (.int p4), .val (.int p5), .val (.int ((1 : Int32) + (p4 &&& (3 : Int32)))), .val (.ref b454), .val (.ref b467), .unset, .unset, .unset, .unset, .unset, .unset] [(.int p2)])) t
    refine XS.sipush X466.here hx rfl (hb hby at_31) ?_
    show Steps p.tables e below (T466.setTop (mkF m 34 #[.val (.int p0), .val (.int p1), .val (.int p2), .val (.int p3), .val (.int p4), .val (.int p5), .val (.int ((1 : Int32) + (p4 &&& (3 : Int32)))), .val (.ref b454), .val (.ref b467), .unset, .unset, .unset, .unset, .unset, .unset] [(.int (255 : Int32)), (.int p2)])) t
    refine XS.iand X466.here hx rfl (hb hby at_34) rfl ?_
    show Steps p.tables e below (T466.setTop (mkF m 35 #[.val (.int p0), .val (.int p1), .val (.int p2), .val (.int p3), .val (.int p4), .val (.int p5), .val (.int ((1 : Int32) + (p4 &&& (3 : Int32)))), .val (.ref b454), .val (.ref b467), .unset, .unset, .unset, .unset, .unset, .unset] [(.int (p2 &&& (255 : Int32)))])) t
    refine XS.i2c X466.here hx rfl (hb hby at_35) rfl ?_
    exact k
  obtain ⟨_, _, ⟨T481, L481, kk481, nn481⟩, -, X481, ⟨Lc481, hQ481, l481, y481, z481⟩, st481⟩ := Jvm.LawKit.callS X466 hx (y := (⟨"java/lang/String", "valueOf", "(C)Ljava/lang/String;"⟩ : MethodName)) hown (mvT hZ (hw _ (List.mem_of_getElem? (i := 0) rfl))) (mvT hZ (hw _ (List.mem_of_getElem? (i := 1) rfl))) (mvT hZ (hw _ (List.mem_of_getElem? (i := 2) rfl))) (mvT hZ (hw _ (List.mem_of_getElem? (i := 3) rfl))) (by decide) (backOf (W := 0) (valueOf l Z a0 hw [] ((p2 &&& (255 : Int32)).toUInt32.toUInt16.toUInt32.toInt32) w_s_COMPACT_STRINGS T466.heap n0 Z479 f476 (hcs : ¬ (w_s_COMPACT_STRINGS = (0 : Int32))) (own_enc _ : ¬ ((canEnc_r ((p2 &&& (255 : Int32)).toUInt32.toUInt16.toUInt32.toInt32)) = (0 : Int32)))) hZ (hw _ (List.mem_of_getElem? (i := 3) rfl)) (hw _ (List.mem_of_getElem? (i := 2) rfl)) (by decide) (by decide)) (g := (mkF m 36 #[.val (.int p0), .val (.int p1), .val (.int p2), .val (.int p3), .val (.int p4), .val (.int p5), .val (.int ((1 : Int32) + (p4 &&& (3 : Int32)))), .val (.ref b454), .val (.ref b467), .unset, .unset, .unset, .unset, .unset, .unset] [(.int ((p2 &&& (255 : Int32)).toUInt32.toUInt16.toUInt32.toInt32))])) rfl (by rw [hml]; rfl) (argsL := [(.int ((p2 &&& (255 : Int32)).toUInt32.toUInt16.toUInt32.toInt32))]) (rest := []) (lenOf pd_177 rfl) rfl (by show 2 * 0 + _ ≤ _; exact Nat.le_of_eq rfl) (hb hby at_36) (fun _ _ => ⟨rfl, rfl, (by decide : 4 + 2 ≤ _), (by decide : 10 + 5 ≤ _)⟩)
  dsimp only [Pt.U, Pt.locs, Pt.cells, Pt.slots] at X481 l481 y481 z481 st481 hQ481
  subst l481 y481 z481
  obtain ⟨b482, rfl, N483, K484, p485, p486⟩ := hQ481
  have N487 := Fr.app N472 N483
  have ne488 : w_s_DEFAULTCAPACITY_EMPTY_ELEMENTDATA ≠ b482 := Nat.ne_of_lt (Nat.lt_of_lt_of_le f475.lt p485)
  have ne489 : b454 ≠ b482 := Nat.ne_of_lt (Nat.lt_of_lt_of_le f478.lt p485)
  have ne490 : b467 ≠ b482 := Nat.ne_of_lt (Nat.lt_of_lt_of_le p471.lt p485)
  have g_b482 : n0 ≤ b482 := Nat.le_trans Z479 p485
  have f491 : own_Len Z T481.heap w_s_DEFAULTCAPACITY_EMPTY_ELEMENTDATA (.object "java/lang/Object") (0 : Int32) := f475.keep K484 nin0
  have f492 : Sta Z T481.heap "java/lang/String" "COMPACT_STRINGS" "Z" (.int w_s_COMPACT_STRINGS) := own_sta_keep f476 K484 all0
  have f493 : Sta Z T481.heap "java/util/ArrayList" "DEFAULTCAPACITY_EMPTY_ELEMENTDATA" "[Ljava/lang/Object;" (.ref w_s_DEFAULTCAPACITY_EMPTY_ELEMENTDATA) := own_sta_keep f477 K484 all0
  have f494 : Exa Z T481.heap b454 "java/lang/String" := f478.keep K484
  have f495 : Exa Z T481.heap b467 "java/lang/String" := p471.keep K484
  have Z496 : n0 ≤ T481.heap.size := Nat.le_trans Z479 K484.1
  have hk497 := Nat.le_trans hk480 K484.1
  refine own_goW st481 ?_
  refine own_goW (S' := T481.setTop (mkF m 47 #[.val (.int p0), .val (.int p1), .val (.int p2), .val (.int p3), .val (.int p4), .val (.int p5), .val (.int ((1 : Int32) + (p4 &&& (3 : Int32)))), .val (.ref b454), .val (.ref b467), .val (.ref b482), .unset, .unset, .unset, .unset, .unset] [(.int ((p3 &&& (255 : Int32)).toUInt32.toUInt16.toUInt32.toInt32))])) (fun t k => ?_) ?_
  · show Steps p.tables e below (T481.setTop (mkF m 39 #[.val (.int p0), .val (.int p1), .val (.int p2), .val (.int p3), .val (.int p4), .val (.int p5), .val (.int ((1 : Int32) + (p4 &&& (3 : Int32)))), .val (.ref b454), .val (.ref b467), .unset, .unset, .unset, .unset, .unset, .unset] [(.ref b482)])) t
    refine XS.astore X481.here hx rfl (hb hby at_39) rfl rfl (l' := #[.val (.int p0), .val (.int p1), .val (.int p2), .val (.int p3), .val (.int p4), .val (.int p5), .val (.int ((1 : Int32) + (p4 &&& (3 : Int32)))), .val (.ref b454), .val (.ref b467), .val (.ref b482), .unset, .unset, .unset, .unset, .unset]) rfl ?_
    show Steps p.tables e below (T481.setTop (mkF m 41 #[.val (.int p0), .val (.int p1), .val (.int p2), .val (.int p3), .val (.int p4), .val (.int p5), .val (.int ((1 : Int32) + (p4 &&& (3 : Int32)))), .val (.ref b454), .val (.ref b467), .val (.ref b482), .unset, .unset, .unset, .unset, .unset] [])) t
    refine XS.iloadN X481.here hx rfl (hb hby at_41) rfl ?_
    show Steps p.tables e below (T481.setTop (mkF m 42 #[.val (.int p0), .val (.int p1), .val (.int p2), .val (.int p3), .val (.int p4), .val (.int p5), .val (.int ((1 : Int32) + (p4 &&& (3 : Int32)))), .val (.ref b454), .val (.ref b467), .val (.ref b482), .unset, .unset, .unset, .unset, .unset] [(.int p3)])) t
    refine XS.sipush X481.here hx rfl (hb hby at_42) ?_
    show Steps p.tables e below (T481.setTop (mkF m 45 #[.val (.int p0), .val (.int p1), .val (.int p2), .val (.int p3), .val (.int p4), .val (.int p5), .val (.int ((1 : Int32) + (p4 &&& (3 : Int32)))), .val (.ref b454), .val (.ref b467), .val (.ref b482), .unset, .unset, .unset, .unset, .unset] [(.int (255 : Int32)), (.int p3)])) t
    refine XS.iand X481.here hx rfl (hb hby at_45) rfl ?_
    show Steps p.tables e below (T481.setTop (mkF m 46 #[.val (.int p0), .val (.int p1), .val (.int p2), .val (.int p3), .val (.int p4), .val (.int p5), .val (.int ((1 : Int32) + (p4 &&& (3 : Int32)))), .val (.ref b454), .val (.ref b467), .val (.ref b482), .unset, .unset, .unset, .unset, .unset] [(.int (p3 &&& (255 : Int32)))])) t
    refine XS.i2c X481.here hx rfl (hb hby at_46) rfl ?_
    exact k
  obtain ⟨_, _, ⟨T498, L498, kk498, nn498⟩, -, X498, ⟨Lc498, hQ498, l498, y498, z498⟩, st498⟩ := Jvm.LawKit.callS X481 hx (y := (⟨"java/lang/String", "valueOf", "(C)Ljava/lang/String;"⟩ : MethodName)) hown (mvT hZ (hw _ (List.mem_of_getElem? (i := 0) rfl))) (mvT hZ (hw _ (List.mem_of_getElem? (i := 1) rfl))) (mvT hZ (hw _ (List.mem_of_getElem? (i := 2) rfl))) (mvT hZ (hw _ (List.mem_of_getElem? (i := 3) rfl))) (by decide) (backOf (W := 0) (valueOf l Z a0 hw [] ((p3 &&& (255 : Int32)).toUInt32.toUInt16.toUInt32.toInt32) w_s_COMPACT_STRINGS T481.heap n0 Z496 f492 (hcs : ¬ (w_s_COMPACT_STRINGS = (0 : Int32))) (own_enc _ : ¬ ((canEnc_r ((p3 &&& (255 : Int32)).toUInt32.toUInt16.toUInt32.toInt32)) = (0 : Int32)))) hZ (hw _ (List.mem_of_getElem? (i := 3) rfl)) (hw _ (List.mem_of_getElem? (i := 2) rfl)) (by decide) (by decide)) (g := (mkF m 47 #[.val (.int p0), .val (.int p1), .val (.int p2), .val (.int p3), .val (.int p4), .val (.int p5), .val (.int ((1 : Int32) + (p4 &&& (3 : Int32)))), .val (.ref b454), .val (.ref b467), .val (.ref b482), .unset, .unset, .unset, .unset, .unset] [(.int ((p3 &&& (255 : Int32)).toUInt32.toUInt16.toUInt32.toInt32))])) rfl (by rw [hml]; rfl) (argsL := [(.int ((p3 &&& (255 : Int32)).toUInt32.toUInt16.toUInt32.toInt32))]) (rest := []) (lenOf pd_177 rfl) rfl (by show 2 * 0 + _ ≤ _; exact Nat.le_of_eq rfl) (hb hby at_47) (fun _ _ => ⟨rfl, rfl, (by decide : 6 + 2 ≤ _), (by decide : 15 + 5 ≤ _)⟩)
  dsimp only [Pt.U, Pt.locs, Pt.cells, Pt.slots] at X498 l498 y498 z498 st498 hQ498
  subst l498 y498 z498
  obtain ⟨b499, rfl, N500, K501, p502, p503⟩ := hQ498
  have N504 := Fr.app N487 N500
  have ne505 : w_s_DEFAULTCAPACITY_EMPTY_ELEMENTDATA ≠ b499 := Nat.ne_of_lt (Nat.lt_of_lt_of_le f491.lt p502)
  have ne506 : b454 ≠ b499 := Nat.ne_of_lt (Nat.lt_of_lt_of_le f494.lt p502)
  have ne507 : b467 ≠ b499 := Nat.ne_of_lt (Nat.lt_of_lt_of_le f495.lt p502)
  have ne508 : b482 ≠ b499 := Nat.ne_of_lt (Nat.lt_of_lt_of_le p486.lt p502)
  have g_b499 : n0 ≤ b499 := Nat.le_trans Z496 p502
  have f509 : own_Len Z T498.heap w_s_DEFAULTCAPACITY_EMPTY_ELEMENTDATA (.object "java/lang/Object") (0 : Int32) := f491.keep K501 nin0
  have f510 : Sta Z T498.heap "java/lang/String" "COMPACT_STRINGS" "Z" (.int w_s_COMPACT_STRINGS) := own_sta_keep f492 K501 all0
  have f511 : Sta Z T498.heap "java/util/ArrayList" "DEFAULTCAPACITY_EMPTY_ELEMENTDATA" "[Ljava/lang/Object;" (.ref w_s_DEFAULTCAPACITY_EMPTY_ELEMENTDATA) := own_sta_keep f493 K501 all0
  have f512 : Exa Z T498.heap b454 "java/lang/String" := f494.keep K501
  have f513 : Exa Z T498.heap b467 "java/lang/String" := f495.keep K501
  have f514 : Exa Z T498.heap b482 "java/lang/String" := p486.keep K501
  have Z515 : n0 ≤ T498.heap.size := Nat.le_trans Z496 K501.1
  have hk516 := Nat.le_trans hk497 K501.1
  refine own_goW st498 ?_
  refine own_goW (S' := T498.setTop (mkF m 52 #[.val (.int p0), .val (.int p1), .val (.int p2), .val (.int p3), .val (.int p4), .val (.int p5), .val (.int ((1 : Int32) + (p4 &&& (3 : Int32)))), .val (.ref b454), .val (.ref b467), .val (.ref b482), .val (.ref b499), .unset, .unset, .unset, .unset] [])) (fun t k => ?_) ?_
  · show Steps p.tables e below (T498.setTop (mkF m 50 #[.val (.int p0), .val (.int p1), .val (.int p2), .val (.int p3), .val (.int p4), .val (.int p5), .val (.int ((1 : Int32) + (p4 &&& (3 : Int32)))), .val (.ref b454), .val (.ref b467), .val (.ref b482), .unset, .unset, .unset, .unset, .unset] [(.ref b499)])) t
    refine XS.astore X498.here hx rfl (hb hby at_50) rfl rfl (l' := #[.val (.int p0), .val (.int p1), .val (.int p2), .val (.int p3), .val (.int p4), .val (.int p5), .val (.int ((1 : Int32) + (p4 &&& (3 : Int32)))), .val (.ref b454), .val (.ref b467), .val (.ref b482), .val (.ref b499), .unset, .unset, .unset, .unset]) rfl ?_
    exact k
  obtain ⟨T517, h517, X517, e517, E517, A517, D517, -, st517⟩ := newO X498 hx hZ hown (hw _ (List.mem_of_getElem? (i := 26) rfl)) (hw _ (List.mem_of_getElem? (i := 27) rfl)) (hw _ (List.mem_of_getElem? (i := 28) rfl)) rfl (g := (mkF m 52 #[.val (.int p0), .val (.int p1), .val (.int p2), .val (.int p3), .val (.int p4), .val (.int p5), .val (.int ((1 : Int32) + (p4 &&& (3 : Int32)))), .val (.ref b454), .val (.ref b467), .val (.ref b482), .val (.ref b499), .unset, .unset, .unset, .unset] [])) rfl (hb hby at_52) (by decide) (by decide)
  obtain ⟨b517, g517⟩ : ∃ z, z = T498.heap.size := ⟨_, rfl⟩
  rw [← g517] at A517 D517 st517
  have ne518 : w_s_DEFAULTCAPACITY_EMPTY_ELEMENTDATA ≠ b517 := Nat.ne_of_lt (Nat.lt_of_lt_of_le f509.lt (Nat.le_of_eq g517.symm))
  have ne519 : b454 ≠ b517 := Nat.ne_of_lt (Nat.lt_of_lt_of_le f512.lt (Nat.le_of_eq g517.symm))
  have ne520 : b467 ≠ b517 := Nat.ne_of_lt (Nat.lt_of_lt_of_le f513.lt (Nat.le_of_eq g517.symm))
  have ne521 : b482 ≠ b517 := Nat.ne_of_lt (Nat.lt_of_lt_of_le f514.lt (Nat.le_of_eq g517.symm))
  have ne522 : b499 ≠ b517 := Nat.ne_of_lt (Nat.lt_of_lt_of_le p503.lt (Nat.le_of_eq g517.symm))
  have g_b517 : n0 ≤ b517 := Nat.le_trans Z515 (Nat.le_of_eq g517.symm)
  have Z523 : n0 ≤ h517.size := Nat.le_trans Z515 E517.1
  have hk524 := Nat.le_trans hk516 E517.1
  have f525 : own_Len Z h517 w_s_DEFAULTCAPACITY_EMPTY_ELEMENTDATA (.object "java/lang/Object") (0 : Int32) := f509.ext E517
  have f526 : Sta Z h517 "java/lang/String" "COMPACT_STRINGS" "Z" (.int w_s_COMPACT_STRINGS) := Sta.ext E517 f510
  have f527 : Sta Z h517 "java/util/ArrayList" "DEFAULTCAPACITY_EMPTY_ELEMENTDATA" "[Ljava/lang/Object;" (.ref w_s_DEFAULTCAPACITY_EMPTY_ELEMENTDATA) := Sta.ext E517 f511
  have f528 : Exa Z h517 b454 "java/lang/String" := Exa.ext E517 f512
  have f529 : Exa Z h517 b467 "java/lang/String" := Exa.ext E517 f513
  have f530 : Exa Z h517 b482 "java/lang/String" := Exa.ext E517 f514
  have f531 : Exa Z h517 b499 "java/lang/String" := Exa.ext E517 p503
  have f532 : Fld Z h517 b517 "java/util/AbstractList" "modCount" "I" (.int (0 : Int32)) := D517 (Or.inl (hw _ (List.mem_of_getElem? (i := 46) rfl))) (ty := .int) (by decide)
  have f533 : Fld Z h517 b517 "java/util/ArrayList" "elementData" "[Ljava/lang/Object;" .null := D517 (Or.inl (hw _ (List.mem_of_getElem? (i := 49) rfl))) (ty := (.array (.object "java/lang/Object"))) (by decide)
  have f534 : Fld Z h517 b517 "java/util/ArrayList" "size" "I" (.int (0 : Int32)) := D517 (Or.inl (hw _ (List.mem_of_getElem? (i := 58) rfl))) (ty := .int) (by decide)
  refine own_goW st517 ?_
  refine own_goW (S' := T517.setTop (mkF m 56 #[.val (.int p0), .val (.int p1), .val (.int p2), .val (.int p3), .val (.int p4), .val (.int p5), .val (.int ((1 : Int32) + (p4 &&& (3 : Int32)))), .val (.ref b454), .val (.ref b467), .val (.ref b482), .val (.ref b499), .unset, .unset, .unset, .unset] [(.ref b517), (.ref b517)])) (fun t k => ?_) ?_
  · show Steps p.tables e below (T517.setTop (mkF m 55 #[.val (.int p0), .val (.int p1), .val (.int p2), .val (.int p3), .val (.int p4), .val (.int p5), .val (.int ((1 : Int32) + (p4 &&& (3 : Int32)))), .val (.ref b454), .val (.ref b467), .val (.ref b482), .val (.ref b499), .unset, .unset, .unset, .unset] [(.ref b517)])) t
    refine XS.dup X517.here hx rfl (hb hby at_55) rfl rfl ?_
    exact k
  obtain ⟨_, _, ⟨T535, L535, kk535, nn535⟩, -, X535, ⟨Lc535, hQ535, l535, y535, z535⟩, st535⟩ := X517.specialBack hx (y := (⟨"java/util/ArrayList", "<init>", "()V"⟩ : MethodName)) rfl hown (mvT hZ (hw _ (List.mem_of_getElem? (i := 29) rfl))) (mvT hZ (hw _ (List.mem_of_getElem? (i := 30) rfl))) (mvT hZ (hw _ (List.mem_of_getElem? (i := 31) rfl))) (by decide) (backOf (W := 1) (arInit l Z a0 hw [] b517 (0 : Int32) (.null) (0 : Int32) w_s_DEFAULTCAPACITY_EMPTY_ELEMENTDATA h517 n0 Z523 A517 f532 f533 f534 g_b517 f527) hZ (hw _ (List.mem_of_getElem? (i := 31) rfl)) (hw _ (List.mem_of_getElem? (i := 28) rfl)) (by decide) (by decide)) (g := (mkF m 56 #[.val (.int p0), .val (.int p1), .val (.int p2), .val (.int p3), .val (.int p4), .val (.int p5), .val (.int ((1 : Int32) + (p4 &&& (3 : Int32)))), .val (.ref b454), .val (.ref b467), .val (.ref b482), .val (.ref b499), .unset, .unset, .unset, .unset] [(.ref b517), (.ref b517)])) rfl (by rw [hml]; rfl) (Steps.refl _) (a := b517) (argsL := []) (rest := [(.ref b517)]) (lenOf pd_47 rfl) rfl (by show 2 * 0 + _ ≤ _; exact Nat.le_of_eq rfl) (hb hby at_56) (fun _ _ => ⟨rfl, e517, (by decide : 9 + 0 ≤ _), (by decide : 23 + 0 ≤ _)⟩)
  dsimp only [Pt.U, Pt.locs, Pt.cells, Pt.slots] at X535 l535 y535 z535 st535 hQ535
  subst l535 y535 z535
  obtain ⟨rfl, N536, K537, p538, p539, p540, p541⟩ := hQ535
  have N542 := Fr.app N504 N536
  have f543 : own_Len Z T535.heap w_s_DEFAULTCAPACITY_EMPTY_ELEMENTDATA (.object "java/lang/Object") (0 : Int32) := f525.keep K537 (ninS ne518 nin0)
  have f544 : Sta Z T535.heap "java/lang/String" "COMPACT_STRINGS" "Z" (.int w_s_COMPACT_STRINGS) := own_sta_keep f526 K537 (allS (own_plain A517) all0)
  have f545 : Sta Z T535.heap "java/util/ArrayList" "DEFAULTCAPACITY_EMPTY_ELEMENTDATA" "[Ljava/lang/Object;" (.ref w_s_DEFAULTCAPACITY_EMPTY_ELEMENTDATA) := own_sta_keep f527 K537 (allS (own_plain A517) all0)
  have f546 : Exa Z T535.heap b454 "java/lang/String" := f528.keep K537
  have f547 : Exa Z T535.heap b467 "java/lang/String" := f529.keep K537
  have f548 : Exa Z T535.heap b482 "java/lang/String" := f530.keep K537
  have f549 : Exa Z T535.heap b499 "java/lang/String" := f531.keep K537
  have f550 : Exa Z T535.heap b517 "java/util/ArrayList" := A517.keep K537
  have Z551 : n0 ≤ T535.heap.size := Nat.le_trans Z523 K537.1
  have hk552 := Nat.le_trans hk524 K537.1
  refine own_goTW st535 ?_
  refine own_goW (S' := T535.setTop (mkF m 65 #[.val (.int p0), .val (.int p1), .val (.int p2), .val (.int p3), .val (.int p4), .val (.int p5), .val (.int ((1 : Int32) + (p4 &&& (3 : Int32)))), .val (.ref b454), .val (.ref b467), .val (.ref b482), .val (.ref b499), .val (.ref b517), .unset, .unset, .unset] [(.ref b454), (.ref b517)])) (fun t k => ?_) ?_
  · show Steps p.tables e below (T535.setTop (mkF m 59 #[.val (.int p0), .val (.int p1), .val (.int p2), .val (.int p3), .val (.int p4), .val (.int p5), .val (.int ((1 : Int32) + (p4 &&& (3 : Int32)))), .val (.ref b454), .val (.ref b467), .val (.ref b482), .val (.ref b499), .unset, .unset, .unset, .unset] [(.ref b517)])) t
    refine XS.astore X535.here hx rfl (hb hby at_59) rfl rfl (l' := #[.val (.int p0), .val (.int p1), .val (.int p2), .val (.int p3), .val (.int p4), .val (.int p5), .val (.int ((1 : Int32) + (p4 &&& (3 : Int32)))), .val (.ref b454), .val (.ref b467), .val (.ref b482), .val (.ref b499), .val (.ref b517), .unset, .unset, .unset]) rfl ?_
    show Steps p.tables e below (T535.setTop (mkF m 61 #[.val (.int p0), .val (.int p1), .val (.int p2), .val (.int p3), .val (.int p4), .val (.int p5), .val (.int ((1 : Int32) + (p4 &&& (3 : Int32)))), .val (.ref b454), .val (.ref b467), .val (.ref b482), .val (.ref b499), .val (.ref b517), .unset, .unset, .unset] [])) t
    refine XS.aload X535.here hx rfl (hb hby at_61) rfl rfl ?_
    show Steps p.tables e below (T535.setTop (mkF m 63 #[.val (.int p0), .val (.int p1), .val (.int p2), .val (.int p3), .val (.int p4), .val (.int p5), .val (.int ((1 : Int32) + (p4 &&& (3 : Int32)))), .val (.ref b454), .val (.ref b467), .val (.ref b482), .val (.ref b499), .val (.ref b517), .unset, .unset, .unset] [(.ref b517)])) t
    refine XS.aload X535.here hx rfl (hb hby at_63) rfl rfl ?_
    exact k
  obtain ⟨cq553, kq553, qa553, qb553, qc553⟩ := isOf hZ rfl p538
  obtain ⟨_, _, ⟨T553, L553, kk553, nn553⟩, -, X553, ⟨Lc553, hQ553, l553, y553, z553⟩, st553⟩ := X535.virtualBack hx (y := (⟨"java/util/ArrayList", "add", "(Ljava/lang/Object;)Z"⟩ : MethodName)) (z := (⟨"java/util/ArrayList", "add", "(Ljava/lang/Object;)Z"⟩ : MethodName)) hown (mvT hZ (hw _ (List.mem_of_getElem? (i := 50) rfl))) (mvT hZ (hw _ (List.mem_of_getElem? (i := 51) rfl))) (notFace_of_selects (args := #[]) (mvT hZ (hw _ (List.mem_of_getElem? (i := 53) rfl)))) (mvT hZ (hw _ (List.mem_of_getElem? (i := 53) rfl))) (mvT hZ (hw _ (List.mem_of_getElem? (i := 52) rfl))) (by decide) (backOf (W := 0) (add0 l Z a0 hw [] b517 b454 w_s_DEFAULTCAPACITY_EMPTY_ELEMENTDATA (0 : Int32) T535.heap n0 Z551 p540 p538 g_b517 p541 p539 f543 f545 f546) hZ (hw _ (List.mem_of_getElem? (i := 54) rfl)) (hw _ (List.mem_of_getElem? (i := 28) rfl)) (by decide) (by decide)) qa553 qc553 (g := (mkF m 65 #[.val (.int p0), .val (.int p1), .val (.int p2), .val (.int p3), .val (.int p4), .val (.int p5), .val (.int ((1 : Int32) + (p4 &&& (3 : Int32)))), .val (.ref b454), .val (.ref b467), .val (.ref b482), .val (.ref b499), .val (.ref b517), .unset, .unset, .unset] [(.ref b454), (.ref b517)])) rfl (by rw [hml]; rfl) (Steps.refl _) (argsL := [(.ref b454)]) (rest := []) (lenOf pd_178 rfl) rfl (by show 2 * 0 + _ ≤ _; exact Nat.le_of_eq rfl) (hb hby at_65) (fun _ _ => ⟨rfl, rfl, (by decide : 9 + 1 ≤ _), (by decide : 23 + 10 ≤ _)⟩)
  dsimp only [Pt.U, Pt.locs, Pt.cells, Pt.slots] at X553 l553 y553 z553 st553 hQ553
  subst l553 y553 z553
  obtain ⟨b554, rfl, N555, K556, p557, p558, p559, p560, p561, p562⟩ := hQ553
  have N563 := Fr.app N542 N555
  have ne564 : w_s_DEFAULTCAPACITY_EMPTY_ELEMENTDATA ≠ b554 := Nat.ne_of_lt (Nat.lt_of_lt_of_le f543.lt p557)
  have ne565 : b454 ≠ b554 := Nat.ne_of_lt (Nat.lt_of_lt_of_le f546.lt p557)
  have ne566 : b467 ≠ b554 := Nat.ne_of_lt (Nat.lt_of_lt_of_le f547.lt p557)
  have ne567 : b482 ≠ b554 := Nat.ne_of_lt (Nat.lt_of_lt_of_le f548.lt p557)
  have ne568 : b499 ≠ b554 := Nat.ne_of_lt (Nat.lt_of_lt_of_le f549.lt p557)
  have ne569 : b517 ≠ b554 := Nat.ne_of_lt (Nat.lt_of_lt_of_le p538.lt p557)
  have g_b554 : n0 ≤ b554 := Nat.le_trans Z551 p557
  have f570 : own_Len Z T553.heap w_s_DEFAULTCAPACITY_EMPTY_ELEMENTDATA (.object "java/lang/Object") (0 : Int32) := f543.keep K556 (ninS ne518 nin0)
  have f571 : Sta Z T553.heap "java/lang/String" "COMPACT_STRINGS" "Z" (.int w_s_COMPACT_STRINGS) := own_sta_keep f544 K556 (allS (own_plain p538) all0)
  have f572 : Sta Z T553.heap "java/util/ArrayList" "DEFAULTCAPACITY_EMPTY_ELEMENTDATA" "[Ljava/lang/Object;" (.ref w_s_DEFAULTCAPACITY_EMPTY_ELEMENTDATA) := own_sta_keep f545 K556 (allS (own_plain p538) all0)
  have f573 : Exa Z T553.heap b454 "java/lang/String" := f546.keep K556
  have f574 : Exa Z T553.heap b467 "java/lang/String" := f547.keep K556
  have f575 : Exa Z T553.heap b482 "java/lang/String" := f548.keep K556
  have f576 : Exa Z T553.heap b499 "java/lang/String" := f549.keep K556
  have f577 : Exa Z T553.heap b517 "java/util/ArrayList" := p538.keep K556
  have Z578 : n0 ≤ T553.heap.size := Nat.le_trans Z551 K556.1
  have hk579 := Nat.le_trans hk552 K556.1
  refine own_goTW st553 ?_
  refine own_goW (S' := T553.setTop (mkF m 72 #[.val (.int p0), .val (.int p1), .val (.int p2), .val (.int p3), .val (.int p4), .val (.int p5), .val (.int ((1 : Int32) + (p4 &&& (3 : Int32)))), .val (.ref b454), .val (.ref b467), .val (.ref b482), .val (.ref b499), .val (.ref b517), .unset, .unset, .unset] [(.int (1 : Int32)), (.int ((1 : Int32) + (p4 &&& (3 : Int32))))])) (fun t k => ?_) ?_
  · show Steps p.tables e below (T553.setTop (mkF m 68 #[.val (.int p0), .val (.int p1), .val (.int p2), .val (.int p3), .val (.int p4), .val (.int p5), .val (.int ((1 : Int32) + (p4 &&& (3 : Int32)))), .val (.ref b454), .val (.ref b467), .val (.ref b482), .val (.ref b499), .val (.ref b517), .unset, .unset, .unset] [(.int (1 : Int32))])) t
    refine XS.pop X553.here hx rfl (hb hby at_68) rfl rfl ?_
    show Steps p.tables e below (T553.setTop (mkF m 69 #[.val (.int p0), .val (.int p1), .val (.int p2), .val (.int p3), .val (.int p4), .val (.int p5), .val (.int ((1 : Int32) + (p4 &&& (3 : Int32)))), .val (.ref b454), .val (.ref b467), .val (.ref b482), .val (.ref b499), .val (.ref b517), .unset, .unset, .unset] [])) t
    refine XS.iload X553.here hx rfl (hb hby at_69) rfl ?_
    show Steps p.tables e below (T553.setTop (mkF m 71 #[.val (.int p0), .val (.int p1), .val (.int p2), .val (.int p3), .val (.int p4), .val (.int p5), .val (.int ((1 : Int32) + (p4 &&& (3 : Int32)))), .val (.ref b454), .val (.ref b467), .val (.ref b482), .val (.ref b499), .val (.ref b517), .unset, .unset, .unset] [(.int ((1 : Int32) + (p4 &&& (3 : Int32))))])) t
    refine XS.iconst X553.here hx rfl (hb hby at_71) ?_
    exact k
  by_cases hc72 : (1 : Int32) < ((1 : Int32) + (p4 &&& (3 : Int32)))
  · skip
    refine own_goW (S' := T553.setTop (mkF m 79 #[.val (.int p0), .val (.int p1), .val (.int p2), .val (.int p3), .val (.int p4), .val (.int p5), .val (.int ((1 : Int32) + (p4 &&& (3 : Int32)))), .val (.ref b454), .val (.ref b467), .val (.ref b482), .val (.ref b499), .val (.ref b517), .unset, .unset, .unset] [(.ref b467), (.ref b517)])) (fun t k => ?_) ?_
    · show Steps p.tables e below (T553.setTop (mkF m 72 #[.val (.int p0), .val (.int p1), .val (.int p2), .val (.int p3), .val (.int p4), .val (.int p5), .val (.int ((1 : Int32) + (p4 &&& (3 : Int32)))), .val (.ref b454), .val (.ref b467), .val (.ref b482), .val (.ref b499), .val (.ref b517), .unset, .unset, .unset] [(.int (1 : Int32)), (.int ((1 : Int32) + (p4 &&& (3 : Int32))))])) t
      refine XS.icmpNo X553.here hx rfl (hb hby at_72) rfl (tlt hc72).2.2.2 ?_
      show Steps p.tables e below (T553.setTop (mkF m 75 #[.val (.int p0), .val (.int p1), .val (.int p2), .val (.int p3), .val (.int p4), .val (.int p5), .val (.int ((1 : Int32) + (p4 &&& (3 : Int32)))), .val (.ref b454), .val (.ref b467), .val (.ref b482), .val (.ref b499), .val (.ref b517), .unset, .unset, .unset] [])) t
      refine XS.aload X553.here hx rfl (hb hby at_75) rfl rfl ?_
      show Steps p.tables e below (T553.setTop (mkF m 77 #[.val (.int p0), .val (.int p1), .val (.int p2), .val (.int p3), .val (.int p4), .val (.int p5), .val (.int ((1 : Int32) + (p4 &&& (3 : Int32)))), .val (.ref b454), .val (.ref b467), .val (.ref b482), .val (.ref b499), .val (.ref b517), .unset, .unset, .unset] [(.ref b517)])) t
      refine XS.aload X553.here hx rfl (hb hby at_77) rfl rfl ?_
      exact k
    obtain ⟨cq580, kq580, qa580, qb580, qc580⟩ := isOf hZ rfl p558
    obtain ⟨_, _, ⟨T580, L580, kk580, nn580⟩, -, X580, ⟨Lc580, hQ580, l580, y580, z580⟩, st580⟩ := X553.virtualBack hx (y := (⟨"java/util/ArrayList", "add", "(Ljava/lang/Object;)Z"⟩ : MethodName)) (z := (⟨"java/util/ArrayList", "add", "(Ljava/lang/Object;)Z"⟩ : MethodName)) hown (mvT hZ (hw _ (List.mem_of_getElem? (i := 50) rfl))) (mvT hZ (hw _ (List.mem_of_getElem? (i := 51) rfl))) (notFace_of_selects (args := #[]) (mvT hZ (hw _ (List.mem_of_getElem? (i := 53) rfl)))) (mvT hZ (hw _ (List.mem_of_getElem? (i := 53) rfl))) (mvT hZ (hw _ (List.mem_of_getElem? (i := 52) rfl))) (by decide) (backOf (W := 0) (add1 l Z a0 hw [] b517 b467 ((0 : Int32) + (1 : Int32)) b554 (.ref b454) (.null) (.null) (.null) (.null) (.null) (.null) (.null) (.null) (.null) T553.heap n0 Z578 p559 p558 g_b517 p560 p561 p562 g_b554 f574) hZ (hw _ (List.mem_of_getElem? (i := 54) rfl)) (hw _ (List.mem_of_getElem? (i := 28) rfl)) (by decide) (by decide)) qa580 qc580 (g := (mkF m 79 #[.val (.int p0), .val (.int p1), .val (.int p2), .val (.int p3), .val (.int p4), .val (.int p5), .val (.int ((1 : Int32) + (p4 &&& (3 : Int32)))), .val (.ref b454), .val (.ref b467), .val (.ref b482), .val (.ref b499), .val (.ref b517), .unset, .unset, .unset] [(.ref b467), (.ref b517)])) rfl (by rw [hml]; rfl) (Steps.refl _) (argsL := [(.ref b467)]) (rest := []) (lenOf pd_178 rfl) rfl (by show 2 * 0 + _ ≤ _; exact Nat.le_of_eq rfl) (hb hby at_79) (fun _ _ => ⟨rfl, rfl, (by decide : 10 + 0 ≤ _), (by decide : 33 + 0 ≤ _)⟩)
    dsimp only [Pt.U, Pt.locs, Pt.cells, Pt.slots] at X580 l580 y580 z580 st580 hQ580
    subst l580 y580 z580
    obtain ⟨rfl, N581, K582, p583, p584, p585, p586, p587⟩ := hQ580
    have N588 := Fr.app N563 N581
    have f589 : own_Len Z T580.heap w_s_DEFAULTCAPACITY_EMPTY_ELEMENTDATA (.object "java/lang/Object") (0 : Int32) := f570.keep K582 (ninS ne518 (ninS ne564 nin0))
    have f590 : Sta Z T580.heap "java/lang/String" "COMPACT_STRINGS" "Z" (.int w_s_COMPACT_STRINGS) := own_sta_keep f571 K582 (allS (own_plain p558) (allS (own_plainB p562) all0))
    have f591 : Sta Z T580.heap "java/util/ArrayList" "DEFAULTCAPACITY_EMPTY_ELEMENTDATA" "[Ljava/lang/Object;" (.ref w_s_DEFAULTCAPACITY_EMPTY_ELEMENTDATA) := own_sta_keep f572 K582 (allS (own_plain p558) (allS (own_plainB p562) all0))
    have f592 : Exa Z T580.heap b454 "java/lang/String" := f573.keep K582
    have f593 : Exa Z T580.heap b467 "java/lang/String" := f574.keep K582
    have f594 : Exa Z T580.heap b482 "java/lang/String" := f575.keep K582
    have f595 : Exa Z T580.heap b499 "java/lang/String" := f576.keep K582
    have f596 : Exa Z T580.heap b517 "java/util/ArrayList" := p558.keep K582
    have Z597 : n0 ≤ T580.heap.size := Nat.le_trans Z578 K582.1
    have hk598 := Nat.le_trans hk579 K582.1
    refine own_goTW st580 ?_
    refine own_goW (S' := T580.setTop (mkF m 86 #[.val (.int p0), .val (.int p1), .val (.int p2), .val (.int p3), .val (.int p4), .val (.int p5), .val (.int ((1 : Int32) + (p4 &&& (3 : Int32)))), .val (.ref b454), .val (.ref b467), .val (.ref b482), .val (.ref b499), .val (.ref b517), .unset, .unset, .unset] [(.int (2 : Int32)), (.int ((1 : Int32) + (p4 &&& (3 : Int32))))])) (fun t k => ?_) ?_
    · show Steps p.tables e below (T580.setTop (mkF m 82 #[.val (.int p0), .val (.int p1), .val (.int p2), .val (.int p3), .val (.int p4), .val (.int p5), .val (.int ((1 : Int32) + (p4 &&& (3 : Int32)))), .val (.ref b454), .val (.ref b467), .val (.ref b482), .val (.ref b499), .val (.ref b517), .unset, .unset, .unset] [(.int (1 : Int32))])) t
      refine XS.pop X580.here hx rfl (hb hby at_82) rfl rfl ?_
      show Steps p.tables e below (T580.setTop (mkF m 83 #[.val (.int p0), .val (.int p1), .val (.int p2), .val (.int p3), .val (.int p4), .val (.int p5), .val (.int ((1 : Int32) + (p4 &&& (3 : Int32)))), .val (.ref b454), .val (.ref b467), .val (.ref b482), .val (.ref b499), .val (.ref b517), .unset, .unset, .unset] [])) t
      refine XS.iload X580.here hx rfl (hb hby at_83) rfl ?_
      show Steps p.tables e below (T580.setTop (mkF m 85 #[.val (.int p0), .val (.int p1), .val (.int p2), .val (.int p3), .val (.int p4), .val (.int p5), .val (.int ((1 : Int32) + (p4 &&& (3 : Int32)))), .val (.ref b454), .val (.ref b467), .val (.ref b482), .val (.ref b499), .val (.ref b517), .unset, .unset, .unset] [(.int ((1 : Int32) + (p4 &&& (3 : Int32))))])) t
      refine XS.iconst X580.here hx rfl (hb hby at_85) ?_
      exact k
    by_cases hc86 : (2 : Int32) < ((1 : Int32) + (p4 &&& (3 : Int32)))
    · skip
      refine own_goW (S' := T580.setTop (mkF m 93 #[.val (.int p0), .val (.int p1), .val (.int p2), .val (.int p3), .val (.int p4), .val (.int p5), .val (.int ((1 : Int32) + (p4 &&& (3 : Int32)))), .val (.ref b454), .val (.ref b467), .val (.ref b482), .val (.ref b499), .val (.ref b517), .unset, .unset, .unset] [(.ref b482), (.ref b517)])) (fun t k => ?_) ?_
      · show Steps p.tables e below (T580.setTop (mkF m 86 #[.val (.int p0), .val (.int p1), .val (.int p2), .val (.int p3), .val (.int p4), .val (.int p5), .val (.int ((1 : Int32) + (p4 &&& (3 : Int32)))), .val (.ref b454), .val (.ref b467), .val (.ref b482), .val (.ref b499), .val (.ref b517), .unset, .unset, .unset] [(.int (2 : Int32)), (.int ((1 : Int32) + (p4 &&& (3 : Int32))))])) t
        refine XS.icmpNo X580.here hx rfl (hb hby at_86) rfl (tlt hc86).2.2.2 ?_
        show Steps p.tables e below (T580.setTop (mkF m 89 #[.val (.int p0), .val (.int p1), .val (.int p2), .val (.int p3), .val (.int p4), .val (.int p5), .val (.int ((1 : Int32) + (p4 &&& (3 : Int32)))), .val (.ref b454), .val (.ref b467), .val (.ref b482), .val (.ref b499), .val (.ref b517), .unset, .unset, .unset] [])) t
        refine XS.aload X580.here hx rfl (hb hby at_89) rfl rfl ?_
        show Steps p.tables e below (T580.setTop (mkF m 91 #[.val (.int p0), .val (.int p1), .val (.int p2), .val (.int p3), .val (.int p4), .val (.int p5), .val (.int ((1 : Int32) + (p4 &&& (3 : Int32)))), .val (.ref b454), .val (.ref b467), .val (.ref b482), .val (.ref b499), .val (.ref b517), .unset, .unset, .unset] [(.ref b517)])) t
        refine XS.aload X580.here hx rfl (hb hby at_91) rfl rfl ?_
        exact k
      obtain ⟨cq599, kq599, qa599, qb599, qc599⟩ := isOf hZ rfl p583
      obtain ⟨_, _, ⟨T599, L599, kk599, nn599⟩, -, X599, ⟨Lc599, hQ599, l599, y599, z599⟩, st599⟩ := X580.virtualBack hx (y := (⟨"java/util/ArrayList", "add", "(Ljava/lang/Object;)Z"⟩ : MethodName)) (z := (⟨"java/util/ArrayList", "add", "(Ljava/lang/Object;)Z"⟩ : MethodName)) hown (mvT hZ (hw _ (List.mem_of_getElem? (i := 50) rfl))) (mvT hZ (hw _ (List.mem_of_getElem? (i := 51) rfl))) (notFace_of_selects (args := #[]) (mvT hZ (hw _ (List.mem_of_getElem? (i := 53) rfl)))) (mvT hZ (hw _ (List.mem_of_getElem? (i := 53) rfl))) (mvT hZ (hw _ (List.mem_of_getElem? (i := 52) rfl))) (by decide) (backOf (W := 0) (add2 l Z a0 hw [] b517 b482 (((0 : Int32) + (1 : Int32)) + (1 : Int32)) b554 (.ref b454) (.ref b467) (.null) (.null) (.null) (.null) (.null) (.null) (.null) (.null) T580.heap n0 Z597 p584 p583 g_b517 p585 p586 p587 g_b554 f594) hZ (hw _ (List.mem_of_getElem? (i := 54) rfl)) (hw _ (List.mem_of_getElem? (i := 28) rfl)) (by decide) (by decide)) qa599 qc599 (g := (mkF m 93 #[.val (.int p0), .val (.int p1), .val (.int p2), .val (.int p3), .val (.int p4), .val (.int p5), .val (.int ((1 : Int32) + (p4 &&& (3 : Int32)))), .val (.ref b454), .val (.ref b467), .val (.ref b482), .val (.ref b499), .val (.ref b517), .unset, .unset, .unset] [(.ref b482), (.ref b517)])) rfl (by rw [hml]; rfl) (Steps.refl _) (argsL := [(.ref b482)]) (rest := []) (lenOf pd_178 rfl) rfl (by show 2 * 0 + _ ≤ _; exact Nat.le_of_eq rfl) (hb hby at_93) (fun _ _ => ⟨rfl, rfl, (by decide : 10 + 0 ≤ _), (by decide : 33 + 0 ≤ _)⟩)
      dsimp only [Pt.U, Pt.locs, Pt.cells, Pt.slots] at X599 l599 y599 z599 st599 hQ599
      subst l599 y599 z599
      obtain ⟨rfl, N600, K601, p602, p603, p604, p605, p606⟩ := hQ599
      have N607 := Fr.app N588 N600
      have f608 : own_Len Z T599.heap w_s_DEFAULTCAPACITY_EMPTY_ELEMENTDATA (.object "java/lang/Object") (0 : Int32) := f589.keep K601 (ninS ne518 (ninS ne564 nin0))
      have f609 : Sta Z T599.heap "java/lang/String" "COMPACT_STRINGS" "Z" (.int w_s_COMPACT_STRINGS) := own_sta_keep f590 K601 (allS (own_plain p583) (allS (own_plainB p587) all0))
      have f610 : Sta Z T599.heap "java/util/ArrayList" "DEFAULTCAPACITY_EMPTY_ELEMENTDATA" "[Ljava/lang/Object;" (.ref w_s_DEFAULTCAPACITY_EMPTY_ELEMENTDATA) := own_sta_keep f591 K601 (allS (own_plain p583) (allS (own_plainB p587) all0))
      have f611 : Exa Z T599.heap b454 "java/lang/String" := f592.keep K601
      have f612 : Exa Z T599.heap b467 "java/lang/String" := f593.keep K601
      have f613 : Exa Z T599.heap b482 "java/lang/String" := f594.keep K601
      have f614 : Exa Z T599.heap b499 "java/lang/String" := f595.keep K601
      have f615 : Exa Z T599.heap b517 "java/util/ArrayList" := p583.keep K601
      have Z616 : n0 ≤ T599.heap.size := Nat.le_trans Z597 K601.1
      have hk617 := Nat.le_trans hk598 K601.1
      refine own_goTW st599 ?_
      refine own_goW (S' := T599.setTop (mkF m 100 #[.val (.int p0), .val (.int p1), .val (.int p2), .val (.int p3), .val (.int p4), .val (.int p5), .val (.int ((1 : Int32) + (p4 &&& (3 : Int32)))), .val (.ref b454), .val (.ref b467), .val (.ref b482), .val (.ref b499), .val (.ref b517), .unset, .unset, .unset] [(.int (3 : Int32)), (.int ((1 : Int32) + (p4 &&& (3 : Int32))))])) (fun t k => ?_) ?_
      · show Steps p.tables e below (T599.setTop (mkF m 96 #[.val (.int p0), .val (.int p1), .val (.int p2), .val (.int p3), .val (.int p4), .val (.int p5), .val (.int ((1 : Int32) + (p4 &&& (3 : Int32)))), .val (.ref b454), .val (.ref b467), .val (.ref b482), .val (.ref b499), .val (.ref b517), .unset, .unset, .unset] [(.int (1 : Int32))])) t
        refine XS.pop X599.here hx rfl (hb hby at_96) rfl rfl ?_
        show Steps p.tables e below (T599.setTop (mkF m 97 #[.val (.int p0), .val (.int p1), .val (.int p2), .val (.int p3), .val (.int p4), .val (.int p5), .val (.int ((1 : Int32) + (p4 &&& (3 : Int32)))), .val (.ref b454), .val (.ref b467), .val (.ref b482), .val (.ref b499), .val (.ref b517), .unset, .unset, .unset] [])) t
        refine XS.iload X599.here hx rfl (hb hby at_97) rfl ?_
        show Steps p.tables e below (T599.setTop (mkF m 99 #[.val (.int p0), .val (.int p1), .val (.int p2), .val (.int p3), .val (.int p4), .val (.int p5), .val (.int ((1 : Int32) + (p4 &&& (3 : Int32)))), .val (.ref b454), .val (.ref b467), .val (.ref b482), .val (.ref b499), .val (.ref b517), .unset, .unset, .unset] [(.int ((1 : Int32) + (p4 &&& (3 : Int32))))])) t
        refine XS.iconst X599.here hx rfl (hb hby at_99) ?_
        exact k
      by_cases hc100 : (3 : Int32) < ((1 : Int32) + (p4 &&& (3 : Int32)))
      · skip
        refine own_goW (S' := T599.setTop (mkF m 107 #[.val (.int p0), .val (.int p1), .val (.int p2), .val (.int p3), .val (.int p4), .val (.int p5), .val (.int ((1 : Int32) + (p4 &&& (3 : Int32)))), .val (.ref b454), .val (.ref b467), .val (.ref b482), .val (.ref b499), .val (.ref b517), .unset, .unset, .unset] [(.ref b499), (.ref b517)])) (fun t k => ?_) ?_
        · show Steps p.tables e below (T599.setTop (mkF m 100 #[.val (.int p0), .val (.int p1), .val (.int p2), .val (.int p3), .val (.int p4), .val (.int p5), .val (.int ((1 : Int32) + (p4 &&& (3 : Int32)))), .val (.ref b454), .val (.ref b467), .val (.ref b482), .val (.ref b499), .val (.ref b517), .unset, .unset, .unset] [(.int (3 : Int32)), (.int ((1 : Int32) + (p4 &&& (3 : Int32))))])) t
          refine XS.icmpNo X599.here hx rfl (hb hby at_100) rfl (tlt hc100).2.2.2 ?_
          show Steps p.tables e below (T599.setTop (mkF m 103 #[.val (.int p0), .val (.int p1), .val (.int p2), .val (.int p3), .val (.int p4), .val (.int p5), .val (.int ((1 : Int32) + (p4 &&& (3 : Int32)))), .val (.ref b454), .val (.ref b467), .val (.ref b482), .val (.ref b499), .val (.ref b517), .unset, .unset, .unset] [])) t
          refine XS.aload X599.here hx rfl (hb hby at_103) rfl rfl ?_
          show Steps p.tables e below (T599.setTop (mkF m 105 #[.val (.int p0), .val (.int p1), .val (.int p2), .val (.int p3), .val (.int p4), .val (.int p5), .val (.int ((1 : Int32) + (p4 &&& (3 : Int32)))), .val (.ref b454), .val (.ref b467), .val (.ref b482), .val (.ref b499), .val (.ref b517), .unset, .unset, .unset] [(.ref b517)])) t
          refine XS.aload X599.here hx rfl (hb hby at_105) rfl rfl ?_
          exact k
        obtain ⟨cq618, kq618, qa618, qb618, qc618⟩ := isOf hZ rfl p602
        obtain ⟨_, _, ⟨T618, L618, kk618, nn618⟩, -, X618, ⟨Lc618, hQ618, l618, y618, z618⟩, st618⟩ := X599.virtualBack hx (y := (⟨"java/util/ArrayList", "add", "(Ljava/lang/Object;)Z"⟩ : MethodName)) (z := (⟨"java/util/ArrayList", "add", "(Ljava/lang/Object;)Z"⟩ : MethodName)) hown (mvT hZ (hw _ (List.mem_of_getElem? (i := 50) rfl))) (mvT hZ (hw _ (List.mem_of_getElem? (i := 51) rfl))) (notFace_of_selects (args := #[]) (mvT hZ (hw _ (List.mem_of_getElem? (i := 53) rfl)))) (mvT hZ (hw _ (List.mem_of_getElem? (i := 53) rfl))) (mvT hZ (hw _ (List.mem_of_getElem? (i := 52) rfl))) (by decide) (backOf (W := 0) (add3 l Z a0 hw [] b517 b499 ((((0 : Int32) + (1 : Int32)) + (1 : Int32)) + (1 : Int32)) b554 (.ref b454) (.ref b467) (.ref b482) (.null) (.null) (.null) (.null) (.null) (.null) (.null) T599.heap n0 Z616 p603 p602 g_b517 p604 p605 p606 g_b554 f614) hZ (hw _ (List.mem_of_getElem? (i := 54) rfl)) (hw _ (List.mem_of_getElem? (i := 28) rfl)) (by decide) (by decide)) qa618 qc618 (g := (mkF m 107 #[.val (.int p0), .val (.int p1), .val (.int p2), .val (.int p3), .val (.int p4), .val (.int p5), .val (.int ((1 : Int32) + (p4 &&& (3 : Int32)))), .val (.ref b454), .val (.ref b467), .val (.ref b482), .val (.ref b499), .val (.ref b517), .unset, .unset, .unset] [(.ref b499), (.ref b517)])) rfl (by rw [hml]; rfl) (Steps.refl _) (argsL := [(.ref b499)]) (rest := []) (lenOf pd_178 rfl) rfl (by show 2 * 0 + _ ≤ _; exact Nat.le_of_eq rfl) (hb hby at_107) (fun _ _ => ⟨rfl, rfl, (by decide : 10 + 0 ≤ _), (by decide : 33 + 0 ≤ _)⟩)
        dsimp only [Pt.U, Pt.locs, Pt.cells, Pt.slots] at X618 l618 y618 z618 st618 hQ618
        subst l618 y618 z618
        obtain ⟨rfl, N619, K620, p621, p622, p623, p624, p625⟩ := hQ618
        have N626 := Fr.app N607 N619
        have f627 : own_Len Z T618.heap w_s_DEFAULTCAPACITY_EMPTY_ELEMENTDATA (.object "java/lang/Object") (0 : Int32) := f608.keep K620 (ninS ne518 (ninS ne564 nin0))
        have f628 : Sta Z T618.heap "java/lang/String" "COMPACT_STRINGS" "Z" (.int w_s_COMPACT_STRINGS) := own_sta_keep f609 K620 (allS (own_plain p602) (allS (own_plainB p606) all0))
        have f629 : Sta Z T618.heap "java/util/ArrayList" "DEFAULTCAPACITY_EMPTY_ELEMENTDATA" "[Ljava/lang/Object;" (.ref w_s_DEFAULTCAPACITY_EMPTY_ELEMENTDATA) := own_sta_keep f610 K620 (allS (own_plain p602) (allS (own_plainB p606) all0))
        have f630 : Exa Z T618.heap b454 "java/lang/String" := f611.keep K620
        have f631 : Exa Z T618.heap b467 "java/lang/String" := f612.keep K620
        have f632 : Exa Z T618.heap b482 "java/lang/String" := f613.keep K620
        have f633 : Exa Z T618.heap b499 "java/lang/String" := f614.keep K620
        have f634 : Exa Z T618.heap b517 "java/util/ArrayList" := p602.keep K620
        have Z635 : n0 ≤ T618.heap.size := Nat.le_trans Z616 K620.1
        have hk636 := Nat.le_trans hk617 K620.1
        refine own_goTW st618 ?_
        refine own_goW (S' := T618.setTop (mkF m 123 #[.val (.int p0), .val (.int p1), .val (.int p2), .val (.int p3), .val (.int p4), .val (.int p5), .val (.int ((1 : Int32) + (p4 &&& (3 : Int32)))), .val (.ref b454), .val (.ref b467), .val (.ref b482), .val (.ref b499), .val (.ref b517), .val (.int ((p5 &&& (2147483647 : Int32)) % ((1 : Int32) + (p4 &&& (3 : Int32))))), .unset, .unset] [(.int ((p5 &&& (2147483647 : Int32)) % ((1 : Int32) + (p4 &&& (3 : Int32)))))])) (fun t k => ?_) ?_
        · show Steps p.tables e below (T618.setTop (mkF m 110 #[.val (.int p0), .val (.int p1), .val (.int p2), .val (.int p3), .val (.int p4), .val (.int p5), .val (.int ((1 : Int32) + (p4 &&& (3 : Int32)))), .val (.ref b454), .val (.ref b467), .val (.ref b482), .val (.ref b499), .val (.ref b517), .unset, .unset, .unset] [(.int (1 : Int32))])) t
          refine XS.pop X618.here hx rfl (hb hby at_110) rfl rfl ?_
          show Steps p.tables e below (T618.setTop (mkF m 111 #[.val (.int p0), .val (.int p1), .val (.int p2), .val (.int p3), .val (.int p4), .val (.int p5), .val (.int ((1 : Int32) + (p4 &&& (3 : Int32)))), .val (.ref b454), .val (.ref b467), .val (.ref b482), .val (.ref b499), .val (.ref b517), .unset, .unset, .unset] [])) t
          refine XS.iload X618.here hx rfl (hb hby at_111) rfl ?_
          show Steps p.tables e below (T618.setTop (mkF m 113 #[.val (.int p0), .val (.int p1), .val (.int p2), .val (.int p3), .val (.int p4), .val (.int p5), .val (.int ((1 : Int32) + (p4 &&& (3 : Int32)))), .val (.ref b454), .val (.ref b467), .val (.ref b482), .val (.ref b499), .val (.ref b517), .unset, .unset, .unset] [(.int p5)])) t
          refine X618.ldcInt hx hown (mvT hZ (hw _ (List.mem_of_getElem? (i := 81) rfl))) (g := (mkF m 113 #[.val (.int p0), .val (.int p1), .val (.int p2), .val (.int p3), .val (.int p4), .val (.int p5), .val (.int ((1 : Int32) + (p4 &&& (3 : Int32)))), .val (.ref b454), .val (.ref b467), .val (.ref b482), .val (.ref b499), .val (.ref b517), .unset, .unset, .unset] [(.int p5)])) rfl (hb hby at_113) _ ?_
          show Steps p.tables e below (T618.setTop (mkF m 115 #[.val (.int p0), .val (.int p1), .val (.int p2), .val (.int p3), .val (.int p4), .val (.int p5), .val (.int ((1 : Int32) + (p4 &&& (3 : Int32)))), .val (.ref b454), .val (.ref b467), .val (.ref b482), .val (.ref b499), .val (.ref b517), .unset, .unset, .unset] [(.int (2147483647 : Int32)), (.int p5)])) t
          refine XS.iand X618.here hx rfl (hb hby at_115) rfl ?_
          show Steps p.tables e below (T618.setTop (mkF m 116 #[.val (.int p0), .val (.int p1), .val (.int p2), .val (.int p3), .val (.int p4), .val (.int p5), .val (.int ((1 : Int32) + (p4 &&& (3 : Int32)))), .val (.ref b454), .val (.ref b467), .val (.ref b482), .val (.ref b499), .val (.ref b517), .unset, .unset, .unset] [(.int (p5 &&& (2147483647 : Int32)))])) t
          refine XS.iload X618.here hx rfl (hb hby at_116) rfl ?_
          show Steps p.tables e below (T618.setTop (mkF m 118 #[.val (.int p0), .val (.int p1), .val (.int p2), .val (.int p3), .val (.int p4), .val (.int p5), .val (.int ((1 : Int32) + (p4 &&& (3 : Int32)))), .val (.ref b454), .val (.ref b467), .val (.ref b482), .val (.ref b499), .val (.ref b517), .unset, .unset, .unset] [(.int ((1 : Int32) + (p4 &&& (3 : Int32)))), (.int (p5 &&& (2147483647 : Int32)))])) t
          refine iremM X618 hx rfl (hb hby at_118) rfl (own_nz p4) ?_
          show Steps p.tables e below (T618.setTop (mkF m 119 #[.val (.int p0), .val (.int p1), .val (.int p2), .val (.int p3), .val (.int p4), .val (.int p5), .val (.int ((1 : Int32) + (p4 &&& (3 : Int32)))), .val (.ref b454), .val (.ref b467), .val (.ref b482), .val (.ref b499), .val (.ref b517), .unset, .unset, .unset] [(.int ((p5 &&& (2147483647 : Int32)) % ((1 : Int32) + (p4 &&& (3 : Int32)))))])) t
          refine XS.istore X618.here hx rfl (hb hby at_119) rfl (l' := #[.val (.int p0), .val (.int p1), .val (.int p2), .val (.int p3), .val (.int p4), .val (.int p5), .val (.int ((1 : Int32) + (p4 &&& (3 : Int32)))), .val (.ref b454), .val (.ref b467), .val (.ref b482), .val (.ref b499), .val (.ref b517), .val (.int ((p5 &&& (2147483647 : Int32)) % ((1 : Int32) + (p4 &&& (3 : Int32))))), .unset, .unset]) rfl ?_
          show Steps p.tables e below (T618.setTop (mkF m 121 #[.val (.int p0), .val (.int p1), .val (.int p2), .val (.int p3), .val (.int p4), .val (.int p5), .val (.int ((1 : Int32) + (p4 &&& (3 : Int32)))), .val (.ref b454), .val (.ref b467), .val (.ref b482), .val (.ref b499), .val (.ref b517), .val (.int ((p5 &&& (2147483647 : Int32)) % ((1 : Int32) + (p4 &&& (3 : Int32))))), .unset, .unset] [])) t
          refine XS.iload X618.here hx rfl (hb hby at_121) rfl ?_
          exact k
        by_cases hc123 : ((p5 &&& (2147483647 : Int32)) % ((1 : Int32) + (p4 &&& (3 : Int32)))) = (0 : Int32)
        · skip
          refine own_goW (S' := T618.setTop (mkF m 157 #[.val (.int p0), .val (.int p1), .val (.int p2), .val (.int p3), .val (.int p4), .val (.int p5), .val (.int ((1 : Int32) + (p4 &&& (3 : Int32)))), .val (.ref b454), .val (.ref b467), .val (.ref b482), .val (.ref b499), .val (.ref b517), .val (.int ((p5 &&& (2147483647 : Int32)) % ((1 : Int32) + (p4 &&& (3 : Int32))))), .val (.ref b454), .unset] [])) (fun t k => ?_) ?_
          · show Steps p.tables e below (T618.setTop (mkF m 123 #[.val (.int p0), .val (.int p1), .val (.int p2), .val (.int p3), .val (.int p4), .val (.int p5), .val (.int ((1 : Int32) + (p4 &&& (3 : Int32)))), .val (.ref b454), .val (.ref b467), .val (.ref b482), .val (.ref b499), .val (.ref b517), .val (.int ((p5 &&& (2147483647 : Int32)) % ((1 : Int32) + (p4 &&& (3 : Int32))))), .unset, .unset] [(.int ((p5 &&& (2147483647 : Int32)) % ((1 : Int32) + (p4 &&& (3 : Int32)))))])) t
            refine XS.ifNo X618.here hx rfl (hb hby at_123) rfl ((if0 _ _).trans (teq hc123).2) ?_
            show Steps p.tables e below (T618.setTop (mkF m 126 #[.val (.int p0), .val (.int p1), .val (.int p2), .val (.int p3), .val (.int p4), .val (.int p5), .val (.int ((1 : Int32) + (p4 &&& (3 : Int32)))), .val (.ref b454), .val (.ref b467), .val (.ref b482), .val (.ref b499), .val (.ref b517), .val (.int ((p5 &&& (2147483647 : Int32)) % ((1 : Int32) + (p4 &&& (3 : Int32))))), .unset, .unset] [])) t
            refine XS.aload X618.here hx rfl (hb hby at_126) rfl rfl ?_
            show Steps p.tables e below (T618.setTop (mkF m 128 #[.val (.int p0), .val (.int p1), .val (.int p2), .val (.int p3), .val (.int p4), .val (.int p5), .val (.int ((1 : Int32) + (p4 &&& (3 : Int32)))), .val (.ref b454), .val (.ref b467), .val (.ref b482), .val (.ref b499), .val (.ref b517), .val (.int ((p5 &&& (2147483647 : Int32)) % ((1 : Int32) + (p4 &&& (3 : Int32))))), .unset, .unset] [(.ref b454)])) t
            refine XS.goto X618.here hx rfl (pc0 := 128) (pc' := 155) rfl (hb hby at_128) (by decide) (by decide) ?_
            show Steps p.tables e below (T618.setTop (mkF m 155 #[.val (.int p0), .val (.int p1), .val (.int p2), .val (.int p3), .val (.int p4), .val (.int p5), .val (.int ((1 : Int32) + (p4 &&& (3 : Int32)))), .val (.ref b454), .val (.ref b467), .val (.ref b482), .val (.ref b499), .val (.ref b517), .val (.int ((p5 &&& (2147483647 : Int32)) % ((1 : Int32) + (p4 &&& (3 : Int32))))), .unset, .unset] [(.ref b454)])) t
            refine XS.astore X618.here hx rfl (hb hby at_155) rfl rfl (l' := #[.val (.int p0), .val (.int p1), .val (.int p2), .val (.int p3), .val (.int p4), .val (.int p5), .val (.int ((1 : Int32) + (p4 &&& (3 : Int32)))), .val (.ref b454), .val (.ref b467), .val (.ref b482), .val (.ref b499), .val (.ref b517), .val (.int ((p5 &&& (2147483647 : Int32)) % ((1 : Int32) + (p4 &&& (3 : Int32))))), .val (.ref b454), .unset]) rfl ?_
            exact k
          obtain ⟨b637, T637, h637, k637, X637, e637, E637, hS, hk637, hZ, hown, st637⟩ := ldcS (s := s) (vm0 := s.vm) X618 hx hZ hown (hw _ (List.mem_of_getElem? (i := 82) rfl)) (own_strW (hw _ (List.mem_of_getElem? (i := 2) rfl)) (hw _ (List.mem_of_getElem? (i := 10) rfl)) (hw _ (List.mem_of_getElem? (i := 14) rfl)) (hw _ (List.mem_of_getElem? (i := 23) rfl)) (hw _ (List.mem_of_getElem? (i := 25) rfl)) (hw _ (List.mem_of_getElem? (i := 83) rfl)) (hw _ (List.mem_of_getElem? (i := 84) rfl))) rfl hS hk636 (g := (mkF m 157 #[.val (.int p0), .val (.int p1), .val (.int p2), .val (.int p3), .val (.int p4), .val (.int p5), .val (.int ((1 : Int32) + (p4 &&& (3 : Int32)))), .val (.ref b454), .val (.ref b467), .val (.ref b482), .val (.ref b499), .val (.ref b517), .val (.int ((p5 &&& (2147483647 : Int32)) % ((1 : Int32) + (p4 &&& (3 : Int32))))), .val (.ref b454), .unset] [])) rfl (hb hby at_157) (n := 12) (by decide) (by decide) (by decide) (by decide)
          have Z638 : n0 ≤ h637.size := Nat.le_trans Z635 E637.1
          have hk639 := Nat.le_trans hk636 E637.1
          have f640 : own_Len Z h637 w_s_DEFAULTCAPACITY_EMPTY_ELEMENTDATA (.object "java/lang/Object") (0 : Int32) := f627.ext E637
          have f641 : Sta Z h637 "java/lang/String" "COMPACT_STRINGS" "Z" (.int w_s_COMPACT_STRINGS) := Sta.ext E637 f628
          have f642 : Sta Z h637 "java/util/ArrayList" "DEFAULTCAPACITY_EMPTY_ELEMENTDATA" "[Ljava/lang/Object;" (.ref w_s_DEFAULTCAPACITY_EMPTY_ELEMENTDATA) := Sta.ext E637 f629
          have f643 : Exa Z h637 b454 "java/lang/String" := Exa.ext E637 f630
          have f644 : Exa Z h637 b467 "java/lang/String" := Exa.ext E637 f631
          have f645 : Exa Z h637 b482 "java/lang/String" := Exa.ext E637 f632
          have f646 : Exa Z h637 b499 "java/lang/String" := Exa.ext E637 f633
          have f647 : Exa Z h637 b517 "java/util/ArrayList" := Exa.ext E637 p621
          have f648 : Fld Z h637 b517 "java/util/AbstractList" "modCount" "I" (.int (((((0 : Int32) + (1 : Int32)) + (1 : Int32)) + (1 : Int32)) + (1 : Int32))) := Fld.ext E637 p622
          have f649 : Fld Z h637 b517 "java/util/ArrayList" "elementData" "[Ljava/lang/Object;" (.ref b554) := Fld.ext E637 p623
          have f650 : Fld Z h637 b517 "java/util/ArrayList" "size" "I" (.int (4 : Int32)) := Fld.ext E637 p624
          have f651 : own_ArvR Z h637 b554 "java/lang/Object" (10 : Int32) [(.ref b454), (.ref b467), (.ref b482), (.ref b499), .null, .null, .null, .null, .null, .null] := p625.ext E637
          refine own_goW st637 ?_
          refine own_goW (S' := T637.setTop (mkF m 163 #[.val (.int p0), .val (.int p1), .val (.int p2), .val (.int p3), .val (.int p4), .val (.int p5), .val (.int ((1 : Int32) + (p4 &&& (3 : Int32)))), .val (.ref b454), .val (.ref b467), .val (.ref b482), .val (.ref b499), .val (.ref b517), .val (.int ((p5 &&& (2147483647 : Int32)) % ((1 : Int32) + (p4 &&& (3 : Int32))))), .val (.ref b454), .unset] [(.int ((p5 &&& (2147483647 : Int32)) % ((1 : Int32) + (p4 &&& (3 : Int32))))), (.ref b517), (.ref b637)])) (fun t k => ?_) ?_
          · show Steps p.tables e below (T637.setTop (mkF m 159 #[.val (.int p0), .val (.int p1), .val (.int p2), .val (.int p3), .val (.int p4), .val (.int p5), .val (.int ((1 : Int32) + (p4 &&& (3 : Int32)))), .val (.ref b454), .val (.ref b467), .val (.ref b482), .val (.ref b499), .val (.ref b517), .val (.int ((p5 &&& (2147483647 : Int32)) % ((1 : Int32) + (p4 &&& (3 : Int32))))), .val (.ref b454), .unset] [(.ref b637)])) t
            refine XS.aload X637.here hx rfl (hb hby at_159) rfl rfl ?_
            show Steps p.tables e below (T637.setTop (mkF m 161 #[.val (.int p0), .val (.int p1), .val (.int p2), .val (.int p3), .val (.int p4), .val (.int p5), .val (.int ((1 : Int32) + (p4 &&& (3 : Int32)))), .val (.ref b454), .val (.ref b467), .val (.ref b482), .val (.ref b499), .val (.ref b517), .val (.int ((p5 &&& (2147483647 : Int32)) % ((1 : Int32) + (p4 &&& (3 : Int32))))), .val (.ref b454), .unset] [(.ref b517), (.ref b637)])) t
            refine XS.iload X637.here hx rfl (hb hby at_161) rfl ?_
            exact k
          obtain ⟨b652, T652, h652, k652, X652, e652, E652, hS, hk652, hZ, hown, st652⟩ := ldcS (s := s) (vm0 := T637.vm) X637 hx hZ hown (hw _ (List.mem_of_getElem? (i := 85) rfl)) (own_strW (hw _ (List.mem_of_getElem? (i := 2) rfl)) (hw _ (List.mem_of_getElem? (i := 10) rfl)) (hw _ (List.mem_of_getElem? (i := 14) rfl)) (hw _ (List.mem_of_getElem? (i := 23) rfl)) (hw _ (List.mem_of_getElem? (i := 25) rfl)) (hw _ (List.mem_of_getElem? (i := 83) rfl)) (hw _ (List.mem_of_getElem? (i := 84) rfl))) e637 hS hk637 (g := (mkF m 163 #[.val (.int p0), .val (.int p1), .val (.int p2), .val (.int p3), .val (.int p4), .val (.int p5), .val (.int ((1 : Int32) + (p4 &&& (3 : Int32)))), .val (.ref b454), .val (.ref b467), .val (.ref b482), .val (.ref b499), .val (.ref b517), .val (.int ((p5 &&& (2147483647 : Int32)) % ((1 : Int32) + (p4 &&& (3 : Int32))))), .val (.ref b454), .unset] [(.int ((p5 &&& (2147483647 : Int32)) % ((1 : Int32) + (p4 &&& (3 : Int32))))), (.ref b517), (.ref b637)])) rfl (hb hby at_163) (n := 8) (by decide) (by decide) (by decide) (by decide)
          have Z653 : n0 ≤ h652.size := Nat.le_trans Z638 E652.1
          have hk654 := Nat.le_trans hk637 E652.1
          have f655 : own_Len Z h652 w_s_DEFAULTCAPACITY_EMPTY_ELEMENTDATA (.object "java/lang/Object") (0 : Int32) := f640.ext E652
          have f656 : Sta Z h652 "java/lang/String" "COMPACT_STRINGS" "Z" (.int w_s_COMPACT_STRINGS) := Sta.ext E652 f641
          have f657 : Sta Z h652 "java/util/ArrayList" "DEFAULTCAPACITY_EMPTY_ELEMENTDATA" "[Ljava/lang/Object;" (.ref w_s_DEFAULTCAPACITY_EMPTY_ELEMENTDATA) := Sta.ext E652 f642
          have f658 : Exa Z h652 b454 "java/lang/String" := Exa.ext E652 f643
          have f659 : Exa Z h652 b467 "java/lang/String" := Exa.ext E652 f644
          have f660 : Exa Z h652 b482 "java/lang/String" := Exa.ext E652 f645
          have f661 : Exa Z h652 b499 "java/lang/String" := Exa.ext E652 f646
          have f662 : Exa Z h652 b517 "java/util/ArrayList" := Exa.ext E652 f647
          have f663 : Fld Z h652 b517 "java/util/AbstractList" "modCount" "I" (.int (((((0 : Int32) + (1 : Int32)) + (1 : Int32)) + (1 : Int32)) + (1 : Int32))) := Fld.ext E652 f648
          have f664 : Fld Z h652 b517 "java/util/ArrayList" "elementData" "[Ljava/lang/Object;" (.ref b554) := Fld.ext E652 f649
          have f665 : Fld Z h652 b517 "java/util/ArrayList" "size" "I" (.int (4 : Int32)) := Fld.ext E652 f650
          have f666 : own_ArvR Z h652 b554 "java/lang/Object" (10 : Int32) [(.ref b454), (.ref b467), (.ref b482), (.ref b499), .null, .null, .null, .null, .null, .null] := f651.ext E652
          refine own_goW st652 ?_
          obtain ⟨b667, T667, h667, k667, X667, e667, E667, hS, hk667, hZ, hown, st667⟩ := ldcS (s := s) (vm0 := T652.vm) X652 hx hZ hown (hw _ (List.mem_of_getElem? (i := 86) rfl)) (own_strW (hw _ (List.mem_of_getElem? (i := 2) rfl)) (hw _ (List.mem_of_getElem? (i := 10) rfl)) (hw _ (List.mem_of_getElem? (i := 14) rfl)) (hw _ (List.mem_of_getElem? (i := 23) rfl)) (hw _ (List.mem_of_getElem? (i := 25) rfl)) (hw _ (List.mem_of_getElem? (i := 83) rfl)) (hw _ (List.mem_of_getElem? (i := 84) rfl))) e652 hS hk652 (g := (mkF m 165 #[.val (.int p0), .val (.int p1), .val (.int p2), .val (.int p3), .val (.int p4), .val (.int p5), .val (.int ((1 : Int32) + (p4 &&& (3 : Int32)))), .val (.ref b454), .val (.ref b467), .val (.ref b482), .val (.ref b499), .val (.ref b517), .val (.int ((p5 &&& (2147483647 : Int32)) % ((1 : Int32) + (p4 &&& (3 : Int32))))), .val (.ref b454), .unset] [(.ref b652), (.int ((p5 &&& (2147483647 : Int32)) % ((1 : Int32) + (p4 &&& (3 : Int32))))), (.ref b517), (.ref b637)])) rfl (hb hby at_165) (n := 28) (by decide) (by decide) (by decide) (by decide)
          have Z668 : n0 ≤ h667.size := Nat.le_trans Z653 E667.1
          have hk669 := Nat.le_trans hk652 E667.1
          have f670 : own_Len Z h667 w_s_DEFAULTCAPACITY_EMPTY_ELEMENTDATA (.object "java/lang/Object") (0 : Int32) := f655.ext E667
          have f671 : Sta Z h667 "java/lang/String" "COMPACT_STRINGS" "Z" (.int w_s_COMPACT_STRINGS) := Sta.ext E667 f656
          have f672 : Sta Z h667 "java/util/ArrayList" "DEFAULTCAPACITY_EMPTY_ELEMENTDATA" "[Ljava/lang/Object;" (.ref w_s_DEFAULTCAPACITY_EMPTY_ELEMENTDATA) := Sta.ext E667 f657
          have f673 : Exa Z h667 b454 "java/lang/String" := Exa.ext E667 f658
          have f674 : Exa Z h667 b467 "java/lang/String" := Exa.ext E667 f659
          have f675 : Exa Z h667 b482 "java/lang/String" := Exa.ext E667 f660
          have f676 : Exa Z h667 b499 "java/lang/String" := Exa.ext E667 f661
          have f677 : Exa Z h667 b517 "java/util/ArrayList" := Exa.ext E667 f662
          have f678 : Fld Z h667 b517 "java/util/AbstractList" "modCount" "I" (.int (((((0 : Int32) + (1 : Int32)) + (1 : Int32)) + (1 : Int32)) + (1 : Int32))) := Fld.ext E667 f663
          have f679 : Fld Z h667 b517 "java/util/ArrayList" "elementData" "[Ljava/lang/Object;" (.ref b554) := Fld.ext E667 f664
          have f680 : Fld Z h667 b517 "java/util/ArrayList" "size" "I" (.int (4 : Int32)) := Fld.ext E667 f665
          have f681 : own_ArvR Z h667 b554 "java/lang/Object" (10 : Int32) [(.ref b454), (.ref b467), (.ref b482), (.ref b499), .null, .null, .null, .null, .null, .null] := f666.ext E667
          refine own_goW st667 ?_
          have hf682 : ((p5 &&& (2147483647 : Int32)) % ((1 : Int32) + (p4 &&& (3 : Int32)))) = (0 : Int32) := hc123
          rw [hf682]
          obtain ⟨_, _, ⟨T683, L683, kk683, nn683⟩, -, X683, ⟨Lc683, hQ683, l683, y683, z683⟩, st683⟩ := Jvm.LawKit.callS X667 hx (y := (⟨"com/example/scorebench/scorebench/OptionValue", "of", "(Ljava/lang/String;Ljava/util/List;ILjava/lang/String;Ljava/lang/String;)Ljava/lang/String;"⟩ : MethodName)) hown (mvT hZ (hw _ (List.mem_of_getElem? (i := 87) rfl))) (mvT hZ (hw _ (List.mem_of_getElem? (i := 88) rfl))) (mvT hZ (hw _ (List.mem_of_getElem? (i := 89) rfl))) (mvT hZ (hw _ (List.mem_of_getElem? (i := 90) rfl))) (by decide) (backOf (W := 0) (of0 l Z a0 hw [] b637 b517 b652 b667 (4 : Int32) b554 b454 (.ref b467) (.ref b482) (.ref b499) (.null) (.null) (.null) (.null) (.null) (.null) h667 n0 Z668 (by decide : (0 : Int32) < (4 : Int32)) f680 f677 (by decide : ¬ ((0 : Int32) = (4 : Int32))) f679 f681 f673) hZ (hw _ (List.mem_of_getElem? (i := 90) rfl)) (hw _ (List.mem_of_getElem? (i := 89) rfl)) (by decide) (by decide)) (g := (mkF m 167 #[.val (.int p0), .val (.int p1), .val (.int p2), .val (.int p3), .val (.int p4), .val (.int p5), .val (.int ((1 : Int32) + (p4 &&& (3 : Int32)))), .val (.ref b454), .val (.ref b467), .val (.ref b482), .val (.ref b499), .val (.ref b517), .val (.int (0 : Int32)), .val (.ref b454), .unset] [(.ref b667), (.ref b652), (.int (0 : Int32)), (.ref b517), (.ref b637)])) rfl (by rw [hml]; rfl) (argsL := [(.ref b637), (.ref b517), (.int (0 : Int32)), (.ref b652), (.ref b667)]) (rest := []) (lenOf pd_179 rfl) rfl (by show 2 * 0 + _ ≤ _; exact Nat.le_of_eq rfl) (hb hby at_167) (fun _ _ => ⟨rfl, e667, (by decide : 16 + 0 ≤ _), (by decide : 93 + 0 ≤ _)⟩)
          dsimp only [Pt.U, Pt.locs, Pt.cells, Pt.slots] at X683 l683 y683 z683 st683 hQ683
          subst l683 y683 z683
          obtain ⟨rfl, N684, e683⟩ := hQ683
          have N686 := Fr.app N626 N684
          refine own_goW st683 ?_
          refine own_goW (S' := T683.setTop (mkF m 181 #[.val (.int p0), .val (.int p1), .val (.int p2), .val (.int p3), .val (.int p4), .val (.int p5), .val (.int ((1 : Int32) + (p4 &&& (3 : Int32)))), .val (.ref b454), .val (.ref b467), .val (.ref b482), .val (.ref b499), .val (.ref b517), .val (.int (0 : Int32)), .val (.ref b454), .val (.ref b454)] [(.ref b454), (.ref b454)])) (fun t k => ?_) ?_
          · show Steps p.tables e below (T683.setTop (mkF m 170 #[.val (.int p0), .val (.int p1), .val (.int p2), .val (.int p3), .val (.int p4), .val (.int p5), .val (.int ((1 : Int32) + (p4 &&& (3 : Int32)))), .val (.ref b454), .val (.ref b467), .val (.ref b482), .val (.ref b499), .val (.ref b517), .val (.int (0 : Int32)), .val (.ref b454), .unset] [(.ref b454)])) t
            refine XS.astore X683.here hx rfl (hb hby at_170) rfl rfl (l' := #[.val (.int p0), .val (.int p1), .val (.int p2), .val (.int p3), .val (.int p4), .val (.int p5), .val (.int ((1 : Int32) + (p4 &&& (3 : Int32)))), .val (.ref b454), .val (.ref b467), .val (.ref b482), .val (.ref b499), .val (.ref b517), .val (.int (0 : Int32)), .val (.ref b454), .val (.ref b454)]) rfl ?_
            show Steps p.tables e below (T683.setTop (mkF m 172 #[.val (.int p0), .val (.int p1), .val (.int p2), .val (.int p3), .val (.int p4), .val (.int p5), .val (.int ((1 : Int32) + (p4 &&& (3 : Int32)))), .val (.ref b454), .val (.ref b467), .val (.ref b482), .val (.ref b499), .val (.ref b517), .val (.int (0 : Int32)), .val (.ref b454), .val (.ref b454)] [])) t
            refine XS.aload X683.here hx rfl (hb hby at_172) rfl rfl ?_
            show Steps p.tables e below (T683.setTop (mkF m 174 #[.val (.int p0), .val (.int p1), .val (.int p2), .val (.int p3), .val (.int p4), .val (.int p5), .val (.int ((1 : Int32) + (p4 &&& (3 : Int32)))), .val (.ref b454), .val (.ref b467), .val (.ref b482), .val (.ref b499), .val (.ref b517), .val (.int (0 : Int32)), .val (.ref b454), .val (.ref b454)] [(.ref b454)])) t
            refine XS.ifnullNo X683.here hx rfl (hb hby at_174) rfl ?_
            show Steps p.tables e below (T683.setTop (mkF m 177 #[.val (.int p0), .val (.int p1), .val (.int p2), .val (.int p3), .val (.int p4), .val (.int p5), .val (.int ((1 : Int32) + (p4 &&& (3 : Int32)))), .val (.ref b454), .val (.ref b467), .val (.ref b482), .val (.ref b499), .val (.ref b517), .val (.int (0 : Int32)), .val (.ref b454), .val (.ref b454)] [])) t
            refine XS.aload X683.here hx rfl (hb hby at_177) rfl rfl ?_
            show Steps p.tables e below (T683.setTop (mkF m 179 #[.val (.int p0), .val (.int p1), .val (.int p2), .val (.int p3), .val (.int p4), .val (.int p5), .val (.int ((1 : Int32) + (p4 &&& (3 : Int32)))), .val (.ref b454), .val (.ref b467), .val (.ref b482), .val (.ref b499), .val (.ref b517), .val (.int (0 : Int32)), .val (.ref b454), .val (.ref b454)] [(.ref b454)])) t
            refine XS.aload X683.here hx rfl (hb hby at_179) rfl rfl ?_
            exact k
          obtain ⟨cq687, kq687, qa687, qb687, qc687⟩ := isOf hZ e683 f673
          obtain ⟨_, _, ⟨T687, L687, kk687, nn687⟩, -, X687, ⟨Lc687, hQ687, l687, y687, z687⟩, st687⟩ := X683.virtualBack hx (y := (⟨"java/lang/String", "equals", "(Ljava/lang/Object;)Z"⟩ : MethodName)) (z := (⟨"java/lang/String", "equals", "(Ljava/lang/Object;)Z"⟩ : MethodName)) hown (mvT hZ (hw _ (List.mem_of_getElem? (i := 122) rfl))) (mvT hZ (hw _ (List.mem_of_getElem? (i := 123) rfl))) (notFace_of_selects (args := #[]) (mvT hZ (hw _ (List.mem_of_getElem? (i := 125) rfl)))) (mvT hZ (hw _ (List.mem_of_getElem? (i := 125) rfl))) (mvT hZ (hw _ (List.mem_of_getElem? (i := 124) rfl))) (by decide) (backOf (W := 0) (eqSame l Z a0 hw [] b454 b454 h667 n0 Z668 (rfl : b454 = b454)) hZ (hw _ (List.mem_of_getElem? (i := 126) rfl)) (hw _ (List.mem_of_getElem? (i := 2) rfl)) (by decide) (by decide)) qa687 qc687 (g := (mkF m 181 #[.val (.int p0), .val (.int p1), .val (.int p2), .val (.int p3), .val (.int p4), .val (.int p5), .val (.int ((1 : Int32) + (p4 &&& (3 : Int32)))), .val (.ref b454), .val (.ref b467), .val (.ref b482), .val (.ref b499), .val (.ref b517), .val (.int (0 : Int32)), .val (.ref b454), .val (.ref b454)] [(.ref b454), (.ref b454)])) rfl (by rw [hml]; rfl) (Steps.refl _) (argsL := [(.ref b454)]) (rest := []) (lenOf pd_178 rfl) rfl (by show 2 * 0 + _ ≤ _; exact Nat.le_of_eq rfl) (hb hby at_181) (fun _ _ => ⟨rfl, e683, (by decide : 16 + 0 ≤ _), (by decide : 93 + 0 ≤ _)⟩)
          dsimp only [Pt.U, Pt.locs, Pt.cells, Pt.slots] at X687 l687 y687 z687 st687 hQ687
          subst l687 y687 z687
          obtain ⟨rfl, N688, e687⟩ := hQ687
          have N690 := Fr.app N686 N688
          refine own_goTW st687 ?_
          refine own_goW (S' := T687.setTop (mkF m 189 #[.val (.int p0), .val (.int p1), .val (.int p2), .val (.int p3), .val (.int p4), .val (.int p5), .val (.int ((1 : Int32) + (p4 &&& (3 : Int32)))), .val (.ref b454), .val (.ref b467), .val (.ref b482), .val (.ref b499), .val (.ref b517), .val (.int (0 : Int32)), .val (.ref b454), .val (.ref b454)] [(.ref b517)])) (fun t k => ?_) ?_
          · show Steps p.tables e below (T687.setTop (mkF m 184 #[.val (.int p0), .val (.int p1), .val (.int p2), .val (.int p3), .val (.int p4), .val (.int p5), .val (.int ((1 : Int32) + (p4 &&& (3 : Int32)))), .val (.ref b454), .val (.ref b467), .val (.ref b482), .val (.ref b499), .val (.ref b517), .val (.int (0 : Int32)), .val (.ref b454), .val (.ref b454)] [(.int (1 : Int32))])) t
            refine XS.ifNo X687.here hx rfl (hb hby at_184) rfl ((if0 _ _).trans (feq (by decide)).1) ?_
            show Steps p.tables e below (T687.setTop (mkF m 187 #[.val (.int p0), .val (.int p1), .val (.int p2), .val (.int p3), .val (.int p4), .val (.int p5), .val (.int ((1 : Int32) + (p4 &&& (3 : Int32)))), .val (.ref b454), .val (.ref b467), .val (.ref b482), .val (.ref b499), .val (.ref b517), .val (.int (0 : Int32)), .val (.ref b454), .val (.ref b454)] [])) t
            refine XS.aload X687.here hx rfl (hb hby at_187) rfl rfl ?_
            exact k
          obtain ⟨cq691, kq691, qa691, qb691, qc691⟩ := isOf hZ e687 f677
          obtain ⟨_, _, ⟨T691, L691, kk691, nn691⟩, -, X691, ⟨Lc691, hQ691, l691, y691, z691⟩, st691⟩ := X687.virtualBack hx (y := (⟨"java/util/ArrayList", "size", "()I"⟩ : MethodName)) (z := (⟨"java/util/ArrayList", "size", "()I"⟩ : MethodName)) hown (mvT hZ (hw _ (List.mem_of_getElem? (i := 127) rfl))) (mvT hZ (hw _ (List.mem_of_getElem? (i := 128) rfl))) (notFace_of_selects (args := #[]) (mvT hZ (hw _ (List.mem_of_getElem? (i := 129) rfl)))) (mvT hZ (hw _ (List.mem_of_getElem? (i := 129) rfl))) (mvT hZ (hw _ (List.mem_of_getElem? (i := 95) rfl))) (by decide) (backOf (W := 0) (alSize l Z a0 hw [] b517 (4 : Int32) h667 n0 Z668 f680) hZ (hw _ (List.mem_of_getElem? (i := 99) rfl)) (hw _ (List.mem_of_getElem? (i := 28) rfl)) (by decide) (by decide)) qa691 qc691 (g := (mkF m 189 #[.val (.int p0), .val (.int p1), .val (.int p2), .val (.int p3), .val (.int p4), .val (.int p5), .val (.int ((1 : Int32) + (p4 &&& (3 : Int32)))), .val (.ref b454), .val (.ref b467), .val (.ref b482), .val (.ref b499), .val (.ref b517), .val (.int (0 : Int32)), .val (.ref b454), .val (.ref b454)] [(.ref b517)])) rfl (by rw [hml]; rfl) (Steps.refl _) (argsL := []) (rest := []) (lenOf pd_164 rfl) rfl (by show 2 * 0 + _ ≤ _; exact Nat.le_of_eq rfl) (hb hby at_189) (fun _ _ => ⟨rfl, e687, (by decide : 16 + 0 ≤ _), (by decide : 93 + 0 ≤ _)⟩)
          dsimp only [Pt.U, Pt.locs, Pt.cells, Pt.slots] at X691 l691 y691 z691 st691 hQ691
          subst l691 y691 z691
          obtain ⟨rfl, N692, e691⟩ := hQ691
          have N694 := Fr.app N690 N692
          refine own_goTW st691 ?_
          refine own_goW (S' := T691.setTop (mkF m 194 #[.val (.int p0), .val (.int p1), .val (.int p2), .val (.int p3), .val (.int p4), .val (.int p5), .val (.int ((1 : Int32) + (p4 &&& (3 : Int32)))), .val (.ref b454), .val (.ref b467), .val (.ref b482), .val (.ref b499), .val (.ref b517), .val (.int (0 : Int32)), .val (.ref b454), .val (.ref b454)] [(.int ((1 : Int32) + (p4 &&& (3 : Int32)))), (.int (4 : Int32))])) (fun t k => ?_) ?_
          · show Steps p.tables e below (T691.setTop (mkF m 192 #[.val (.int p0), .val (.int p1), .val (.int p2), .val (.int p3), .val (.int p4), .val (.int p5), .val (.int ((1 : Int32) + (p4 &&& (3 : Int32)))), .val (.ref b454), .val (.ref b467), .val (.ref b482), .val (.ref b499), .val (.ref b517), .val (.int (0 : Int32)), .val (.ref b454), .val (.ref b454)] [(.int (4 : Int32))])) t
            refine XS.iload X691.here hx rfl (hb hby at_192) rfl ?_
            exact k
          refine own_goW (S' := T691.setTop (mkF m 202 #[.val (.int p0), .val (.int p1), .val (.int p2), .val (.int p3), .val (.int p4), .val (.int p5), .val (.int ((1 : Int32) + (p4 &&& (3 : Int32)))), .val (.ref b454), .val (.ref b467), .val (.ref b482), .val (.ref b499), .val (.ref b517), .val (.int (0 : Int32)), .val (.ref b454), .val (.ref b454)] [(.int (if (4 : Int32) = ((1 : Int32) + (p4 &&& (3 : Int32))) then (1 : Int32) else (0 : Int32)))])) (fun t k => ?_) ?_
          · show Steps p.tables e below (T691.setTop (mkF m 194 #[.val (.int p0), .val (.int p1), .val (.int p2), .val (.int p3), .val (.int p4), .val (.int p5), .val (.int ((1 : Int32) + (p4 &&& (3 : Int32)))), .val (.ref b454), .val (.ref b467), .val (.ref b482), .val (.ref b499), .val (.ref b517), .val (.int (0 : Int32)), .val (.ref b454), .val (.ref b454)] [(.int ((1 : Int32) + (p4 &&& (3 : Int32)))), (.int (4 : Int32))])) t
            by_cases hc194 : (4 : Int32) = ((1 : Int32) + (p4 &&& (3 : Int32)))
            · show Steps p.tables e below (T691.setTop (mkF m 194 #[.val (.int p0), .val (.int p1), .val (.int p2), .val (.int p3), .val (.int p4), .val (.int p5), .val (.int ((1 : Int32) + (p4 &&& (3 : Int32)))), .val (.ref b454), .val (.ref b467), .val (.ref b482), .val (.ref b499), .val (.ref b517), .val (.int (0 : Int32)), .val (.ref b454), .val (.ref b454)] [(.int ((1 : Int32) + (p4 &&& (3 : Int32)))), (.int (4 : Int32))])) t
              refine XS.icmpNo X691.here hx rfl (hb hby at_194) rfl (teq hc194).2 ?_
              show Steps p.tables e below (T691.setTop (mkF m 197 #[.val (.int p0), .val (.int p1), .val (.int p2), .val (.int p3), .val (.int p4), .val (.int p5), .val (.int ((1 : Int32) + (p4 &&& (3 : Int32)))), .val (.ref b454), .val (.ref b467), .val (.ref b482), .val (.ref b499), .val (.ref b517), .val (.int (0 : Int32)), .val (.ref b454), .val (.ref b454)] [])) t
              refine XS.iconst X691.here hx rfl (hb hby at_197) ?_
              show Steps p.tables e below (T691.setTop (mkF m 198 #[.val (.int p0), .val (.int p1), .val (.int p2), .val (.int p3), .val (.int p4), .val (.int p5), .val (.int ((1 : Int32) + (p4 &&& (3 : Int32)))), .val (.ref b454), .val (.ref b467), .val (.ref b482), .val (.ref b499), .val (.ref b517), .val (.int (0 : Int32)), .val (.ref b454), .val (.ref b454)] [(.int (1 : Int32))])) t
              refine XS.goto X691.here hx rfl (pc0 := 198) (pc' := 202) rfl (hb hby at_198) (by decide) (by decide) ?_
              first | exact k | (simp only [if_pos hc194] at k ⊢; exact k)
            · show Steps p.tables e below (T691.setTop (mkF m 194 #[.val (.int p0), .val (.int p1), .val (.int p2), .val (.int p3), .val (.int p4), .val (.int p5), .val (.int ((1 : Int32) + (p4 &&& (3 : Int32)))), .val (.ref b454), .val (.ref b467), .val (.ref b482), .val (.ref b499), .val (.ref b517), .val (.int (0 : Int32)), .val (.ref b454), .val (.ref b454)] [(.int ((1 : Int32) + (p4 &&& (3 : Int32)))), (.int (4 : Int32))])) t
              refine XS.icmpYes X691.here hx rfl (pc0 := 194) (pc' := 201) rfl (hb hby at_194) rfl (feq hc194).2 (by decide) (by decide) ?_
              show Steps p.tables e below (T691.setTop (mkF m 201 #[.val (.int p0), .val (.int p1), .val (.int p2), .val (.int p3), .val (.int p4), .val (.int p5), .val (.int ((1 : Int32) + (p4 &&& (3 : Int32)))), .val (.ref b454), .val (.ref b467), .val (.ref b482), .val (.ref b499), .val (.ref b517), .val (.int (0 : Int32)), .val (.ref b454), .val (.ref b454)] [])) t
              refine XS.iconst X691.here hx rfl (hb hby at_201) ?_
              first | exact k | (simp only [if_neg hc194] at k ⊢; exact k)
          have hfin : (if (4 : Int32) = ((1 : Int32) + (p4 &&& (3 : Int32))) then (1 : Int32) else (0 : Int32)) = (1 : Int32) := if_pos (own_sz hc100 (own_hi p4) (by decide))
          rw [hfin]
          obtain ⟨fs, hr, hrun, hended, hW, hsame⟩ := X691.leave (v := some (.int (1 : Int32))) (fun h => by rw [Bd.returns] at h; cases h)
          refine own_endW (v := some (.int (1 : Int32))) ?_ hrun hended ?_ (hS.ended hW (by show _ ≤ T691.heap.size; rw [e691]; exact hk667) hsame) (by decide) (by decide)
          · show Steps p.tables e below (T691.setTop (mkF m 202 #[.val (.int p0), .val (.int p1), .val (.int p2), .val (.int p3), .val (.int p4), .val (.int p5), .val (.int ((1 : Int32) + (p4 &&& (3 : Int32)))), .val (.ref b454), .val (.ref b467), .val (.ref b482), .val (.ref b499), .val (.ref b517), .val (.int (0 : Int32)), .val (.ref b454), .val (.ref b454)] [(.int (1 : Int32))])) _
            exact retN X691 hx (t := .boolean) Bd.returns (by simp) (hb hby at_202) hr
          · show Qrm0 Z p0 p1 p2 p3 p4 p5 w_s_COMPACT_STRINGS w_s_DEFAULTCAPACITY_EMPTY_ELEMENTDATA h0 n0 _ T691.heap _
            rw [e691]
            exact ⟨rfl, N694⟩
        · skip
          refine own_goW (S' := T618.setTop (mkF m 134 #[.val (.int p0), .val (.int p1), .val (.int p2), .val (.int p3), .val (.int p4), .val (.int p5), .val (.int ((1 : Int32) + (p4 &&& (3 : Int32)))), .val (.ref b454), .val (.ref b467), .val (.ref b482), .val (.ref b499), .val (.ref b517), .val (.int ((p5 &&& (2147483647 : Int32)) % ((1 : Int32) + (p4 &&& (3 : Int32))))), .unset, .unset] [(.int (1 : Int32)), (.int ((p5 &&& (2147483647 : Int32)) % ((1 : Int32) + (p4 &&& (3 : Int32)))))])) (fun t k => ?_) ?_
          · show Steps p.tables e below (T618.setTop (mkF m 123 #[.val (.int p0), .val (.int p1), .val (.int p2), .val (.int p3), .val (.int p4), .val (.int p5), .val (.int ((1 : Int32) + (p4 &&& (3 : Int32)))), .val (.ref b454), .val (.ref b467), .val (.ref b482), .val (.ref b499), .val (.ref b517), .val (.int ((p5 &&& (2147483647 : Int32)) % ((1 : Int32) + (p4 &&& (3 : Int32))))), .unset, .unset] [(.int ((p5 &&& (2147483647 : Int32)) % ((1 : Int32) + (p4 &&& (3 : Int32)))))])) t
            refine XS.ifYes X618.here hx rfl (pc0 := 123) (pc' := 131) rfl (hb hby at_123) rfl ((if0 _ _).trans (feq hc123).2) (by decide) (by decide) ?_
            show Steps p.tables e below (T618.setTop (mkF m 131 #[.val (.int p0), .val (.int p1), .val (.int p2), .val (.int p3), .val (.int p4), .val (.int p5), .val (.int ((1 : Int32) + (p4 &&& (3 : Int32)))), .val (.ref b454), .val (.ref b467), .val (.ref b482), .val (.ref b499), .val (.ref b517), .val (.int ((p5 &&& (2147483647 : Int32)) % ((1 : Int32) + (p4 &&& (3 : Int32))))), .unset, .unset] [])) t
            refine XS.iload X618.here hx rfl (hb hby at_131) rfl ?_
            show Steps p.tables e below (T618.setTop (mkF m 133 #[.val (.int p0), .val (.int p1), .val (.int p2), .val (.int p3), .val (.int p4), .val (.int p5), .val (.int ((1 : Int32) + (p4 &&& (3 : Int32)))), .val (.ref b454), .val (.ref b467), .val (.ref b482), .val (.ref b499), .val (.ref b517), .val (.int ((p5 &&& (2147483647 : Int32)) % ((1 : Int32) + (p4 &&& (3 : Int32))))), .unset, .unset] [(.int ((p5 &&& (2147483647 : Int32)) % ((1 : Int32) + (p4 &&& (3 : Int32)))))])) t
            refine XS.iconst X618.here hx rfl (hb hby at_133) ?_
            exact k
          by_cases hc134 : ((p5 &&& (2147483647 : Int32)) % ((1 : Int32) + (p4 &&& (3 : Int32)))) = (1 : Int32)
          · skip
            refine own_goW (S' := T618.setTop (mkF m 157 #[.val (.int p0), .val (.int p1), .val (.int p2), .val (.int p3), .val (.int p4), .val (.int p5), .val (.int ((1 : Int32) + (p4 &&& (3 : Int32)))), .val (.ref b454), .val (.ref b467), .val (.ref b482), .val (.ref b499), .val (.ref b517), .val (.int ((p5 &&& (2147483647 : Int32)) % ((1 : Int32) + (p4 &&& (3 : Int32))))), .val (.ref b467), .unset] [])) (fun t k => ?_) ?_
            · show Steps p.tables e below (T618.setTop (mkF m 134 #[.val (.int p0), .val (.int p1), .val (.int p2), .val (.int p3), .val (.int p4), .val (.int p5), .val (.int ((1 : Int32) + (p4 &&& (3 : Int32)))), .val (.ref b454), .val (.ref b467), .val (.ref b482), .val (.ref b499), .val (.ref b517), .val (.int ((p5 &&& (2147483647 : Int32)) % ((1 : Int32) + (p4 &&& (3 : Int32))))), .unset, .unset] [(.int (1 : Int32)), (.int ((p5 &&& (2147483647 : Int32)) % ((1 : Int32) + (p4 &&& (3 : Int32)))))])) t
              refine XS.icmpNo X618.here hx rfl (hb hby at_134) rfl (teq hc134).2 ?_
              show Steps p.tables e below (T618.setTop (mkF m 137 #[.val (.int p0), .val (.int p1), .val (.int p2), .val (.int p3), .val (.int p4), .val (.int p5), .val (.int ((1 : Int32) + (p4 &&& (3 : Int32)))), .val (.ref b454), .val (.ref b467), .val (.ref b482), .val (.ref b499), .val (.ref b517), .val (.int ((p5 &&& (2147483647 : Int32)) % ((1 : Int32) + (p4 &&& (3 : Int32))))), .unset, .unset] [])) t
              refine XS.aload X618.here hx rfl (hb hby at_137) rfl rfl ?_
              show Steps p.tables e below (T618.setTop (mkF m 139 #[.val (.int p0), .val (.int p1), .val (.int p2), .val (.int p3), .val (.int p4), .val (.int p5), .val (.int ((1 : Int32) + (p4 &&& (3 : Int32)))), .val (.ref b454), .val (.ref b467), .val (.ref b482), .val (.ref b499), .val (.ref b517), .val (.int ((p5 &&& (2147483647 : Int32)) % ((1 : Int32) + (p4 &&& (3 : Int32))))), .unset, .unset] [(.ref b467)])) t
              refine XS.goto X618.here hx rfl (pc0 := 139) (pc' := 155) rfl (hb hby at_139) (by decide) (by decide) ?_
              show Steps p.tables e below (T618.setTop (mkF m 155 #[.val (.int p0), .val (.int p1), .val (.int p2), .val (.int p3), .val (.int p4), .val (.int p5), .val (.int ((1 : Int32) + (p4 &&& (3 : Int32)))), .val (.ref b454), .val (.ref b467), .val (.ref b482), .val (.ref b499), .val (.ref b517), .val (.int ((p5 &&& (2147483647 : Int32)) % ((1 : Int32) + (p4 &&& (3 : Int32))))), .unset, .unset] [(.ref b467)])) t
              refine XS.astore X618.here hx rfl (hb hby at_155) rfl rfl (l' := #[.val (.int p0), .val (.int p1), .val (.int p2), .val (.int p3), .val (.int p4), .val (.int p5), .val (.int ((1 : Int32) + (p4 &&& (3 : Int32)))), .val (.ref b454), .val (.ref b467), .val (.ref b482), .val (.ref b499), .val (.ref b517), .val (.int ((p5 &&& (2147483647 : Int32)) % ((1 : Int32) + (p4 &&& (3 : Int32))))), .val (.ref b467), .unset]) rfl ?_
              exact k
            obtain ⟨b695, T695, h695, k695, X695, e695, E695, hS, hk695, hZ, hown, st695⟩ := ldcS (s := s) (vm0 := s.vm) X618 hx hZ hown (hw _ (List.mem_of_getElem? (i := 82) rfl)) (own_strW (hw _ (List.mem_of_getElem? (i := 2) rfl)) (hw _ (List.mem_of_getElem? (i := 10) rfl)) (hw _ (List.mem_of_getElem? (i := 14) rfl)) (hw _ (List.mem_of_getElem? (i := 23) rfl)) (hw _ (List.mem_of_getElem? (i := 25) rfl)) (hw _ (List.mem_of_getElem? (i := 83) rfl)) (hw _ (List.mem_of_getElem? (i := 84) rfl))) rfl hS hk636 (g := (mkF m 157 #[.val (.int p0), .val (.int p1), .val (.int p2), .val (.int p3), .val (.int p4), .val (.int p5), .val (.int ((1 : Int32) + (p4 &&& (3 : Int32)))), .val (.ref b454), .val (.ref b467), .val (.ref b482), .val (.ref b499), .val (.ref b517), .val (.int ((p5 &&& (2147483647 : Int32)) % ((1 : Int32) + (p4 &&& (3 : Int32))))), .val (.ref b467), .unset] [])) rfl (hb hby at_157) (n := 12) (by decide) (by decide) (by decide) (by decide)
            have Z696 : n0 ≤ h695.size := Nat.le_trans Z635 E695.1
            have hk697 := Nat.le_trans hk636 E695.1
            have f698 : own_Len Z h695 w_s_DEFAULTCAPACITY_EMPTY_ELEMENTDATA (.object "java/lang/Object") (0 : Int32) := f627.ext E695
            have f699 : Sta Z h695 "java/lang/String" "COMPACT_STRINGS" "Z" (.int w_s_COMPACT_STRINGS) := Sta.ext E695 f628
            have f700 : Sta Z h695 "java/util/ArrayList" "DEFAULTCAPACITY_EMPTY_ELEMENTDATA" "[Ljava/lang/Object;" (.ref w_s_DEFAULTCAPACITY_EMPTY_ELEMENTDATA) := Sta.ext E695 f629
            have f701 : Exa Z h695 b454 "java/lang/String" := Exa.ext E695 f630
            have f702 : Exa Z h695 b467 "java/lang/String" := Exa.ext E695 f631
            have f703 : Exa Z h695 b482 "java/lang/String" := Exa.ext E695 f632
            have f704 : Exa Z h695 b499 "java/lang/String" := Exa.ext E695 f633
            have f705 : Exa Z h695 b517 "java/util/ArrayList" := Exa.ext E695 p621
            have f706 : Fld Z h695 b517 "java/util/AbstractList" "modCount" "I" (.int (((((0 : Int32) + (1 : Int32)) + (1 : Int32)) + (1 : Int32)) + (1 : Int32))) := Fld.ext E695 p622
            have f707 : Fld Z h695 b517 "java/util/ArrayList" "elementData" "[Ljava/lang/Object;" (.ref b554) := Fld.ext E695 p623
            have f708 : Fld Z h695 b517 "java/util/ArrayList" "size" "I" (.int (4 : Int32)) := Fld.ext E695 p624
            have f709 : own_ArvR Z h695 b554 "java/lang/Object" (10 : Int32) [(.ref b454), (.ref b467), (.ref b482), (.ref b499), .null, .null, .null, .null, .null, .null] := p625.ext E695
            refine own_goW st695 ?_
            refine own_goW (S' := T695.setTop (mkF m 163 #[.val (.int p0), .val (.int p1), .val (.int p2), .val (.int p3), .val (.int p4), .val (.int p5), .val (.int ((1 : Int32) + (p4 &&& (3 : Int32)))), .val (.ref b454), .val (.ref b467), .val (.ref b482), .val (.ref b499), .val (.ref b517), .val (.int ((p5 &&& (2147483647 : Int32)) % ((1 : Int32) + (p4 &&& (3 : Int32))))), .val (.ref b467), .unset] [(.int ((p5 &&& (2147483647 : Int32)) % ((1 : Int32) + (p4 &&& (3 : Int32))))), (.ref b517), (.ref b695)])) (fun t k => ?_) ?_
            · show Steps p.tables e below (T695.setTop (mkF m 159 #[.val (.int p0), .val (.int p1), .val (.int p2), .val (.int p3), .val (.int p4), .val (.int p5), .val (.int ((1 : Int32) + (p4 &&& (3 : Int32)))), .val (.ref b454), .val (.ref b467), .val (.ref b482), .val (.ref b499), .val (.ref b517), .val (.int ((p5 &&& (2147483647 : Int32)) % ((1 : Int32) + (p4 &&& (3 : Int32))))), .val (.ref b467), .unset] [(.ref b695)])) t
              refine XS.aload X695.here hx rfl (hb hby at_159) rfl rfl ?_
              show Steps p.tables e below (T695.setTop (mkF m 161 #[.val (.int p0), .val (.int p1), .val (.int p2), .val (.int p3), .val (.int p4), .val (.int p5), .val (.int ((1 : Int32) + (p4 &&& (3 : Int32)))), .val (.ref b454), .val (.ref b467), .val (.ref b482), .val (.ref b499), .val (.ref b517), .val (.int ((p5 &&& (2147483647 : Int32)) % ((1 : Int32) + (p4 &&& (3 : Int32))))), .val (.ref b467), .unset] [(.ref b517), (.ref b695)])) t
              refine XS.iload X695.here hx rfl (hb hby at_161) rfl ?_
              exact k
            obtain ⟨b710, T710, h710, k710, X710, e710, E710, hS, hk710, hZ, hown, st710⟩ := ldcS (s := s) (vm0 := T695.vm) X695 hx hZ hown (hw _ (List.mem_of_getElem? (i := 85) rfl)) (own_strW (hw _ (List.mem_of_getElem? (i := 2) rfl)) (hw _ (List.mem_of_getElem? (i := 10) rfl)) (hw _ (List.mem_of_getElem? (i := 14) rfl)) (hw _ (List.mem_of_getElem? (i := 23) rfl)) (hw _ (List.mem_of_getElem? (i := 25) rfl)) (hw _ (List.mem_of_getElem? (i := 83) rfl)) (hw _ (List.mem_of_getElem? (i := 84) rfl))) e695 hS hk695 (g := (mkF m 163 #[.val (.int p0), .val (.int p1), .val (.int p2), .val (.int p3), .val (.int p4), .val (.int p5), .val (.int ((1 : Int32) + (p4 &&& (3 : Int32)))), .val (.ref b454), .val (.ref b467), .val (.ref b482), .val (.ref b499), .val (.ref b517), .val (.int ((p5 &&& (2147483647 : Int32)) % ((1 : Int32) + (p4 &&& (3 : Int32))))), .val (.ref b467), .unset] [(.int ((p5 &&& (2147483647 : Int32)) % ((1 : Int32) + (p4 &&& (3 : Int32))))), (.ref b517), (.ref b695)])) rfl (hb hby at_163) (n := 8) (by decide) (by decide) (by decide) (by decide)
            have Z711 : n0 ≤ h710.size := Nat.le_trans Z696 E710.1
            have hk712 := Nat.le_trans hk695 E710.1
            have f713 : own_Len Z h710 w_s_DEFAULTCAPACITY_EMPTY_ELEMENTDATA (.object "java/lang/Object") (0 : Int32) := f698.ext E710
            have f714 : Sta Z h710 "java/lang/String" "COMPACT_STRINGS" "Z" (.int w_s_COMPACT_STRINGS) := Sta.ext E710 f699
            have f715 : Sta Z h710 "java/util/ArrayList" "DEFAULTCAPACITY_EMPTY_ELEMENTDATA" "[Ljava/lang/Object;" (.ref w_s_DEFAULTCAPACITY_EMPTY_ELEMENTDATA) := Sta.ext E710 f700
            have f716 : Exa Z h710 b454 "java/lang/String" := Exa.ext E710 f701
            have f717 : Exa Z h710 b467 "java/lang/String" := Exa.ext E710 f702
            have f718 : Exa Z h710 b482 "java/lang/String" := Exa.ext E710 f703
            have f719 : Exa Z h710 b499 "java/lang/String" := Exa.ext E710 f704
            have f720 : Exa Z h710 b517 "java/util/ArrayList" := Exa.ext E710 f705
            have f721 : Fld Z h710 b517 "java/util/AbstractList" "modCount" "I" (.int (((((0 : Int32) + (1 : Int32)) + (1 : Int32)) + (1 : Int32)) + (1 : Int32))) := Fld.ext E710 f706
            have f722 : Fld Z h710 b517 "java/util/ArrayList" "elementData" "[Ljava/lang/Object;" (.ref b554) := Fld.ext E710 f707
            have f723 : Fld Z h710 b517 "java/util/ArrayList" "size" "I" (.int (4 : Int32)) := Fld.ext E710 f708
            have f724 : own_ArvR Z h710 b554 "java/lang/Object" (10 : Int32) [(.ref b454), (.ref b467), (.ref b482), (.ref b499), .null, .null, .null, .null, .null, .null] := f709.ext E710
            refine own_goW st710 ?_
            obtain ⟨b725, T725, h725, k725, X725, e725, E725, hS, hk725, hZ, hown, st725⟩ := ldcS (s := s) (vm0 := T710.vm) X710 hx hZ hown (hw _ (List.mem_of_getElem? (i := 86) rfl)) (own_strW (hw _ (List.mem_of_getElem? (i := 2) rfl)) (hw _ (List.mem_of_getElem? (i := 10) rfl)) (hw _ (List.mem_of_getElem? (i := 14) rfl)) (hw _ (List.mem_of_getElem? (i := 23) rfl)) (hw _ (List.mem_of_getElem? (i := 25) rfl)) (hw _ (List.mem_of_getElem? (i := 83) rfl)) (hw _ (List.mem_of_getElem? (i := 84) rfl))) e710 hS hk710 (g := (mkF m 165 #[.val (.int p0), .val (.int p1), .val (.int p2), .val (.int p3), .val (.int p4), .val (.int p5), .val (.int ((1 : Int32) + (p4 &&& (3 : Int32)))), .val (.ref b454), .val (.ref b467), .val (.ref b482), .val (.ref b499), .val (.ref b517), .val (.int ((p5 &&& (2147483647 : Int32)) % ((1 : Int32) + (p4 &&& (3 : Int32))))), .val (.ref b467), .unset] [(.ref b710), (.int ((p5 &&& (2147483647 : Int32)) % ((1 : Int32) + (p4 &&& (3 : Int32))))), (.ref b517), (.ref b695)])) rfl (hb hby at_165) (n := 28) (by decide) (by decide) (by decide) (by decide)
            have Z726 : n0 ≤ h725.size := Nat.le_trans Z711 E725.1
            have hk727 := Nat.le_trans hk710 E725.1
            have f728 : own_Len Z h725 w_s_DEFAULTCAPACITY_EMPTY_ELEMENTDATA (.object "java/lang/Object") (0 : Int32) := f713.ext E725
            have f729 : Sta Z h725 "java/lang/String" "COMPACT_STRINGS" "Z" (.int w_s_COMPACT_STRINGS) := Sta.ext E725 f714
            have f730 : Sta Z h725 "java/util/ArrayList" "DEFAULTCAPACITY_EMPTY_ELEMENTDATA" "[Ljava/lang/Object;" (.ref w_s_DEFAULTCAPACITY_EMPTY_ELEMENTDATA) := Sta.ext E725 f715
            have f731 : Exa Z h725 b454 "java/lang/String" := Exa.ext E725 f716
            have f732 : Exa Z h725 b467 "java/lang/String" := Exa.ext E725 f717
            have f733 : Exa Z h725 b482 "java/lang/String" := Exa.ext E725 f718
            have f734 : Exa Z h725 b499 "java/lang/String" := Exa.ext E725 f719
            have f735 : Exa Z h725 b517 "java/util/ArrayList" := Exa.ext E725 f720
            have f736 : Fld Z h725 b517 "java/util/AbstractList" "modCount" "I" (.int (((((0 : Int32) + (1 : Int32)) + (1 : Int32)) + (1 : Int32)) + (1 : Int32))) := Fld.ext E725 f721
            have f737 : Fld Z h725 b517 "java/util/ArrayList" "elementData" "[Ljava/lang/Object;" (.ref b554) := Fld.ext E725 f722
            have f738 : Fld Z h725 b517 "java/util/ArrayList" "size" "I" (.int (4 : Int32)) := Fld.ext E725 f723
            have f739 : own_ArvR Z h725 b554 "java/lang/Object" (10 : Int32) [(.ref b454), (.ref b467), (.ref b482), (.ref b499), .null, .null, .null, .null, .null, .null] := f724.ext E725
            refine own_goW st725 ?_
            have hf740 : ((p5 &&& (2147483647 : Int32)) % ((1 : Int32) + (p4 &&& (3 : Int32)))) = (1 : Int32) := hc134
            rw [hf740]
            obtain ⟨_, _, ⟨T741, L741, kk741, nn741⟩, -, X741, ⟨Lc741, hQ741, l741, y741, z741⟩, st741⟩ := Jvm.LawKit.callS X725 hx (y := (⟨"com/example/scorebench/scorebench/OptionValue", "of", "(Ljava/lang/String;Ljava/util/List;ILjava/lang/String;Ljava/lang/String;)Ljava/lang/String;"⟩ : MethodName)) hown (mvT hZ (hw _ (List.mem_of_getElem? (i := 87) rfl))) (mvT hZ (hw _ (List.mem_of_getElem? (i := 88) rfl))) (mvT hZ (hw _ (List.mem_of_getElem? (i := 89) rfl))) (mvT hZ (hw _ (List.mem_of_getElem? (i := 90) rfl))) (by decide) (backOf (W := 0) (of1 l Z a0 hw [] b695 b517 b710 b725 (4 : Int32) b554 (.ref b454) b467 (.ref b482) (.ref b499) (.null) (.null) (.null) (.null) (.null) (.null) h725 n0 Z726 (by decide : (1 : Int32) < (4 : Int32)) f738 f735 (by decide : ¬ ((1 : Int32) = (4 : Int32))) f737 f739 f732) hZ (hw _ (List.mem_of_getElem? (i := 90) rfl)) (hw _ (List.mem_of_getElem? (i := 89) rfl)) (by decide) (by decide)) (g := (mkF m 167 #[.val (.int p0), .val (.int p1), .val (.int p2), .val (.int p3), .val (.int p4), .val (.int p5), .val (.int ((1 : Int32) + (p4 &&& (3 : Int32)))), .val (.ref b454), .val (.ref b467), .val (.ref b482), .val (.ref b499), .val (.ref b517), .val (.int (1 : Int32)), .val (.ref b467), .unset] [(.ref b725), (.ref b710), (.int (1 : Int32)), (.ref b517), (.ref b695)])) rfl (by rw [hml]; rfl) (argsL := [(.ref b695), (.ref b517), (.int (1 : Int32)), (.ref b710), (.ref b725)]) (rest := []) (lenOf pd_179 rfl) rfl (by show 2 * 0 + _ ≤ _; exact Nat.le_of_eq rfl) (hb hby at_167) (fun _ _ => ⟨rfl, e725, (by decide : 16 + 0 ≤ _), (by decide : 93 + 0 ≤ _)⟩)
            dsimp only [Pt.U, Pt.locs, Pt.cells, Pt.slots] at X741 l741 y741 z741 st741 hQ741
            subst l741 y741 z741
            obtain ⟨rfl, N742, e741⟩ := hQ741
            have N744 := Fr.app N626 N742
            refine own_goW st741 ?_
            refine own_goW (S' := T741.setTop (mkF m 181 #[.val (.int p0), .val (.int p1), .val (.int p2), .val (.int p3), .val (.int p4), .val (.int p5), .val (.int ((1 : Int32) + (p4 &&& (3 : Int32)))), .val (.ref b454), .val (.ref b467), .val (.ref b482), .val (.ref b499), .val (.ref b517), .val (.int (1 : Int32)), .val (.ref b467), .val (.ref b467)] [(.ref b467), (.ref b467)])) (fun t k => ?_) ?_
            · show Steps p.tables e below (T741.setTop (mkF m 170 #[.val (.int p0), .val (.int p1), .val (.int p2), .val (.int p3), .val (.int p4), .val (.int p5), .val (.int ((1 : Int32) + (p4 &&& (3 : Int32)))), .val (.ref b454), .val (.ref b467), .val (.ref b482), .val (.ref b499), .val (.ref b517), .val (.int (1 : Int32)), .val (.ref b467), .unset] [(.ref b467)])) t
              refine XS.astore X741.here hx rfl (hb hby at_170) rfl rfl (l' := #[.val (.int p0), .val (.int p1), .val (.int p2), .val (.int p3), .val (.int p4), .val (.int p5), .val (.int ((1 : Int32) + (p4 &&& (3 : Int32)))), .val (.ref b454), .val (.ref b467), .val (.ref b482), .val (.ref b499), .val (.ref b517), .val (.int (1 : Int32)), .val (.ref b467), .val (.ref b467)]) rfl ?_
              show Steps p.tables e below (T741.setTop (mkF m 172 #[.val (.int p0), .val (.int p1), .val (.int p2), .val (.int p3), .val (.int p4), .val (.int p5), .val (.int ((1 : Int32) + (p4 &&& (3 : Int32)))), .val (.ref b454), .val (.ref b467), .val (.ref b482), .val (.ref b499), .val (.ref b517), .val (.int (1 : Int32)), .val (.ref b467), .val (.ref b467)] [])) t
              refine XS.aload X741.here hx rfl (hb hby at_172) rfl rfl ?_
              show Steps p.tables e below (T741.setTop (mkF m 174 #[.val (.int p0), .val (.int p1), .val (.int p2), .val (.int p3), .val (.int p4), .val (.int p5), .val (.int ((1 : Int32) + (p4 &&& (3 : Int32)))), .val (.ref b454), .val (.ref b467), .val (.ref b482), .val (.ref b499), .val (.ref b517), .val (.int (1 : Int32)), .val (.ref b467), .val (.ref b467)] [(.ref b467)])) t
              refine XS.ifnullNo X741.here hx rfl (hb hby at_174) rfl ?_
              show Steps p.tables e below (T741.setTop (mkF m 177 #[.val (.int p0), .val (.int p1), .val (.int p2), .val (.int p3), .val (.int p4), .val (.int p5), .val (.int ((1 : Int32) + (p4 &&& (3 : Int32)))), .val (.ref b454), .val (.ref b467), .val (.ref b482), .val (.ref b499), .val (.ref b517), .val (.int (1 : Int32)), .val (.ref b467), .val (.ref b467)] [])) t
              refine XS.aload X741.here hx rfl (hb hby at_177) rfl rfl ?_
              show Steps p.tables e below (T741.setTop (mkF m 179 #[.val (.int p0), .val (.int p1), .val (.int p2), .val (.int p3), .val (.int p4), .val (.int p5), .val (.int ((1 : Int32) + (p4 &&& (3 : Int32)))), .val (.ref b454), .val (.ref b467), .val (.ref b482), .val (.ref b499), .val (.ref b517), .val (.int (1 : Int32)), .val (.ref b467), .val (.ref b467)] [(.ref b467)])) t
              refine XS.aload X741.here hx rfl (hb hby at_179) rfl rfl ?_
              exact k
            obtain ⟨cq745, kq745, qa745, qb745, qc745⟩ := isOf hZ e741 f732
            obtain ⟨_, _, ⟨T745, L745, kk745, nn745⟩, -, X745, ⟨Lc745, hQ745, l745, y745, z745⟩, st745⟩ := X741.virtualBack hx (y := (⟨"java/lang/String", "equals", "(Ljava/lang/Object;)Z"⟩ : MethodName)) (z := (⟨"java/lang/String", "equals", "(Ljava/lang/Object;)Z"⟩ : MethodName)) hown (mvT hZ (hw _ (List.mem_of_getElem? (i := 122) rfl))) (mvT hZ (hw _ (List.mem_of_getElem? (i := 123) rfl))) (notFace_of_selects (args := #[]) (mvT hZ (hw _ (List.mem_of_getElem? (i := 125) rfl)))) (mvT hZ (hw _ (List.mem_of_getElem? (i := 125) rfl))) (mvT hZ (hw _ (List.mem_of_getElem? (i := 124) rfl))) (by decide) (backOf (W := 0) (eqSame l Z a0 hw [] b467 b467 h725 n0 Z726 (rfl : b467 = b467)) hZ (hw _ (List.mem_of_getElem? (i := 126) rfl)) (hw _ (List.mem_of_getElem? (i := 2) rfl)) (by decide) (by decide)) qa745 qc745 (g := (mkF m 181 #[.val (.int p0), .val (.int p1), .val (.int p2), .val (.int p3), .val (.int p4), .val (.int p5), .val (.int ((1 : Int32) + (p4 &&& (3 : Int32)))), .val (.ref b454), .val (.ref b467), .val (.ref b482), .val (.ref b499), .val (.ref b517), .val (.int (1 : Int32)), .val (.ref b467), .val (.ref b467)] [(.ref b467), (.ref b467)])) rfl (by rw [hml]; rfl) (Steps.refl _) (argsL := [(.ref b467)]) (rest := []) (lenOf pd_178 rfl) rfl (by show 2 * 0 + _ ≤ _; exact Nat.le_of_eq rfl) (hb hby at_181) (fun _ _ => ⟨rfl, e741, (by decide : 16 + 0 ≤ _), (by decide : 93 + 0 ≤ _)⟩)
            dsimp only [Pt.U, Pt.locs, Pt.cells, Pt.slots] at X745 l745 y745 z745 st745 hQ745
            subst l745 y745 z745
            obtain ⟨rfl, N746, e745⟩ := hQ745
            have N748 := Fr.app N744 N746
            refine own_goTW st745 ?_
            refine own_goW (S' := T745.setTop (mkF m 189 #[.val (.int p0), .val (.int p1), .val (.int p2), .val (.int p3), .val (.int p4), .val (.int p5), .val (.int ((1 : Int32) + (p4 &&& (3 : Int32)))), .val (.ref b454), .val (.ref b467), .val (.ref b482), .val (.ref b499), .val (.ref b517), .val (.int (1 : Int32)), .val (.ref b467), .val (.ref b467)] [(.ref b517)])) (fun t k => ?_) ?_
            · show Steps p.tables e below (T745.setTop (mkF m 184 #[.val (.int p0), .val (.int p1), .val (.int p2), .val (.int p3), .val (.int p4), .val (.int p5), .val (.int ((1 : Int32) + (p4 &&& (3 : Int32)))), .val (.ref b454), .val (.ref b467), .val (.ref b482), .val (.ref b499), .val (.ref b517), .val (.int (1 : Int32)), .val (.ref b467), .val (.ref b467)] [(.int (1 : Int32))])) t
              refine XS.ifNo X745.here hx rfl (hb hby at_184) rfl ((if0 _ _).trans (feq (by decide)).1) ?_
              show Steps p.tables e below (T745.setTop (mkF m 187 #[.val (.int p0), .val (.int p1), .val (.int p2), .val (.int p3), .val (.int p4), .val (.int p5), .val (.int ((1 : Int32) + (p4 &&& (3 : Int32)))), .val (.ref b454), .val (.ref b467), .val (.ref b482), .val (.ref b499), .val (.ref b517), .val (.int (1 : Int32)), .val (.ref b467), .val (.ref b467)] [])) t
              refine XS.aload X745.here hx rfl (hb hby at_187) rfl rfl ?_
              exact k
            obtain ⟨cq749, kq749, qa749, qb749, qc749⟩ := isOf hZ e745 f735
            obtain ⟨_, _, ⟨T749, L749, kk749, nn749⟩, -, X749, ⟨Lc749, hQ749, l749, y749, z749⟩, st749⟩ := X745.virtualBack hx (y := (⟨"java/util/ArrayList", "size", "()I"⟩ : MethodName)) (z := (⟨"java/util/ArrayList", "size", "()I"⟩ : MethodName)) hown (mvT hZ (hw _ (List.mem_of_getElem? (i := 127) rfl))) (mvT hZ (hw _ (List.mem_of_getElem? (i := 128) rfl))) (notFace_of_selects (args := #[]) (mvT hZ (hw _ (List.mem_of_getElem? (i := 129) rfl)))) (mvT hZ (hw _ (List.mem_of_getElem? (i := 129) rfl))) (mvT hZ (hw _ (List.mem_of_getElem? (i := 95) rfl))) (by decide) (backOf (W := 0) (alSize l Z a0 hw [] b517 (4 : Int32) h725 n0 Z726 f738) hZ (hw _ (List.mem_of_getElem? (i := 99) rfl)) (hw _ (List.mem_of_getElem? (i := 28) rfl)) (by decide) (by decide)) qa749 qc749 (g := (mkF m 189 #[.val (.int p0), .val (.int p1), .val (.int p2), .val (.int p3), .val (.int p4), .val (.int p5), .val (.int ((1 : Int32) + (p4 &&& (3 : Int32)))), .val (.ref b454), .val (.ref b467), .val (.ref b482), .val (.ref b499), .val (.ref b517), .val (.int (1 : Int32)), .val (.ref b467), .val (.ref b467)] [(.ref b517)])) rfl (by rw [hml]; rfl) (Steps.refl _) (argsL := []) (rest := []) (lenOf pd_164 rfl) rfl (by show 2 * 0 + _ ≤ _; exact Nat.le_of_eq rfl) (hb hby at_189) (fun _ _ => ⟨rfl, e745, (by decide : 16 + 0 ≤ _), (by decide : 93 + 0 ≤ _)⟩)
            dsimp only [Pt.U, Pt.locs, Pt.cells, Pt.slots] at X749 l749 y749 z749 st749 hQ749
            subst l749 y749 z749
            obtain ⟨rfl, N750, e749⟩ := hQ749
            have N752 := Fr.app N748 N750
            refine own_goTW st749 ?_
            refine own_goW (S' := T749.setTop (mkF m 194 #[.val (.int p0), .val (.int p1), .val (.int p2), .val (.int p3), .val (.int p4), .val (.int p5), .val (.int ((1 : Int32) + (p4 &&& (3 : Int32)))), .val (.ref b454), .val (.ref b467), .val (.ref b482), .val (.ref b499), .val (.ref b517), .val (.int (1 : Int32)), .val (.ref b467), .val (.ref b467)] [(.int ((1 : Int32) + (p4 &&& (3 : Int32)))), (.int (4 : Int32))])) (fun t k => ?_) ?_
            · show Steps p.tables e below (T749.setTop (mkF m 192 #[.val (.int p0), .val (.int p1), .val (.int p2), .val (.int p3), .val (.int p4), .val (.int p5), .val (.int ((1 : Int32) + (p4 &&& (3 : Int32)))), .val (.ref b454), .val (.ref b467), .val (.ref b482), .val (.ref b499), .val (.ref b517), .val (.int (1 : Int32)), .val (.ref b467), .val (.ref b467)] [(.int (4 : Int32))])) t
              refine XS.iload X749.here hx rfl (hb hby at_192) rfl ?_
              exact k
            refine own_goW (S' := T749.setTop (mkF m 202 #[.val (.int p0), .val (.int p1), .val (.int p2), .val (.int p3), .val (.int p4), .val (.int p5), .val (.int ((1 : Int32) + (p4 &&& (3 : Int32)))), .val (.ref b454), .val (.ref b467), .val (.ref b482), .val (.ref b499), .val (.ref b517), .val (.int (1 : Int32)), .val (.ref b467), .val (.ref b467)] [(.int (if (4 : Int32) = ((1 : Int32) + (p4 &&& (3 : Int32))) then (1 : Int32) else (0 : Int32)))])) (fun t k => ?_) ?_
            · show Steps p.tables e below (T749.setTop (mkF m 194 #[.val (.int p0), .val (.int p1), .val (.int p2), .val (.int p3), .val (.int p4), .val (.int p5), .val (.int ((1 : Int32) + (p4 &&& (3 : Int32)))), .val (.ref b454), .val (.ref b467), .val (.ref b482), .val (.ref b499), .val (.ref b517), .val (.int (1 : Int32)), .val (.ref b467), .val (.ref b467)] [(.int ((1 : Int32) + (p4 &&& (3 : Int32)))), (.int (4 : Int32))])) t
              by_cases hc194 : (4 : Int32) = ((1 : Int32) + (p4 &&& (3 : Int32)))
              · show Steps p.tables e below (T749.setTop (mkF m 194 #[.val (.int p0), .val (.int p1), .val (.int p2), .val (.int p3), .val (.int p4), .val (.int p5), .val (.int ((1 : Int32) + (p4 &&& (3 : Int32)))), .val (.ref b454), .val (.ref b467), .val (.ref b482), .val (.ref b499), .val (.ref b517), .val (.int (1 : Int32)), .val (.ref b467), .val (.ref b467)] [(.int ((1 : Int32) + (p4 &&& (3 : Int32)))), (.int (4 : Int32))])) t
                refine XS.icmpNo X749.here hx rfl (hb hby at_194) rfl (teq hc194).2 ?_
                show Steps p.tables e below (T749.setTop (mkF m 197 #[.val (.int p0), .val (.int p1), .val (.int p2), .val (.int p3), .val (.int p4), .val (.int p5), .val (.int ((1 : Int32) + (p4 &&& (3 : Int32)))), .val (.ref b454), .val (.ref b467), .val (.ref b482), .val (.ref b499), .val (.ref b517), .val (.int (1 : Int32)), .val (.ref b467), .val (.ref b467)] [])) t
                refine XS.iconst X749.here hx rfl (hb hby at_197) ?_
                show Steps p.tables e below (T749.setTop (mkF m 198 #[.val (.int p0), .val (.int p1), .val (.int p2), .val (.int p3), .val (.int p4), .val (.int p5), .val (.int ((1 : Int32) + (p4 &&& (3 : Int32)))), .val (.ref b454), .val (.ref b467), .val (.ref b482), .val (.ref b499), .val (.ref b517), .val (.int (1 : Int32)), .val (.ref b467), .val (.ref b467)] [(.int (1 : Int32))])) t
                refine XS.goto X749.here hx rfl (pc0 := 198) (pc' := 202) rfl (hb hby at_198) (by decide) (by decide) ?_
                first | exact k | (simp only [if_pos hc194] at k ⊢; exact k)
              · show Steps p.tables e below (T749.setTop (mkF m 194 #[.val (.int p0), .val (.int p1), .val (.int p2), .val (.int p3), .val (.int p4), .val (.int p5), .val (.int ((1 : Int32) + (p4 &&& (3 : Int32)))), .val (.ref b454), .val (.ref b467), .val (.ref b482), .val (.ref b499), .val (.ref b517), .val (.int (1 : Int32)), .val (.ref b467), .val (.ref b467)] [(.int ((1 : Int32) + (p4 &&& (3 : Int32)))), (.int (4 : Int32))])) t
                refine XS.icmpYes X749.here hx rfl (pc0 := 194) (pc' := 201) rfl (hb hby at_194) rfl (feq hc194).2 (by decide) (by decide) ?_
                show Steps p.tables e below (T749.setTop (mkF m 201 #[.val (.int p0), .val (.int p1), .val (.int p2), .val (.int p3), .val (.int p4), .val (.int p5), .val (.int ((1 : Int32) + (p4 &&& (3 : Int32)))), .val (.ref b454), .val (.ref b467), .val (.ref b482), .val (.ref b499), .val (.ref b517), .val (.int (1 : Int32)), .val (.ref b467), .val (.ref b467)] [])) t
                refine XS.iconst X749.here hx rfl (hb hby at_201) ?_
                first | exact k | (simp only [if_neg hc194] at k ⊢; exact k)
            have hfin : (if (4 : Int32) = ((1 : Int32) + (p4 &&& (3 : Int32))) then (1 : Int32) else (0 : Int32)) = (1 : Int32) := if_pos (own_sz hc100 (own_hi p4) (by decide))
            rw [hfin]
            obtain ⟨fs, hr, hrun, hended, hW, hsame⟩ := X749.leave (v := some (.int (1 : Int32))) (fun h => by rw [Bd.returns] at h; cases h)
            refine own_endW (v := some (.int (1 : Int32))) ?_ hrun hended ?_ (hS.ended hW (by show _ ≤ T749.heap.size; rw [e749]; exact hk725) hsame) (by decide) (by decide)
            · show Steps p.tables e below (T749.setTop (mkF m 202 #[.val (.int p0), .val (.int p1), .val (.int p2), .val (.int p3), .val (.int p4), .val (.int p5), .val (.int ((1 : Int32) + (p4 &&& (3 : Int32)))), .val (.ref b454), .val (.ref b467), .val (.ref b482), .val (.ref b499), .val (.ref b517), .val (.int (1 : Int32)), .val (.ref b467), .val (.ref b467)] [(.int (1 : Int32))])) _
              exact retN X749 hx (t := .boolean) Bd.returns (by simp) (hb hby at_202) hr
            · show Qrm0 Z p0 p1 p2 p3 p4 p5 w_s_COMPACT_STRINGS w_s_DEFAULTCAPACITY_EMPTY_ELEMENTDATA h0 n0 _ T749.heap _
              rw [e749]
              exact ⟨rfl, N752⟩
          · skip
            refine own_goW (S' := T618.setTop (mkF m 145 #[.val (.int p0), .val (.int p1), .val (.int p2), .val (.int p3), .val (.int p4), .val (.int p5), .val (.int ((1 : Int32) + (p4 &&& (3 : Int32)))), .val (.ref b454), .val (.ref b467), .val (.ref b482), .val (.ref b499), .val (.ref b517), .val (.int ((p5 &&& (2147483647 : Int32)) % ((1 : Int32) + (p4 &&& (3 : Int32))))), .unset, .unset] [(.int (2 : Int32)), (.int ((p5 &&& (2147483647 : Int32)) % ((1 : Int32) + (p4 &&& (3 : Int32)))))])) (fun t k => ?_) ?_
            · show Steps p.tables e below (T618.setTop (mkF m 134 #[.val (.int p0), .val (.int p1), .val (.int p2), .val (.int p3), .val (.int p4), .val (.int p5), .val (.int ((1 : Int32) + (p4 &&& (3 : Int32)))), .val (.ref b454), .val (.ref b467), .val (.ref b482), .val (.ref b499), .val (.ref b517), .val (.int ((p5 &&& (2147483647 : Int32)) % ((1 : Int32) + (p4 &&& (3 : Int32))))), .unset, .unset] [(.int (1 : Int32)), (.int ((p5 &&& (2147483647 : Int32)) % ((1 : Int32) + (p4 &&& (3 : Int32)))))])) t
              refine XS.icmpYes X618.here hx rfl (pc0 := 134) (pc' := 142) rfl (hb hby at_134) rfl (feq hc134).2 (by decide) (by decide) ?_
              show Steps p.tables e below (T618.setTop (mkF m 142 #[.val (.int p0), .val (.int p1), .val (.int p2), .val (.int p3), .val (.int p4), .val (.int p5), .val (.int ((1 : Int32) + (p4 &&& (3 : Int32)))), .val (.ref b454), .val (.ref b467), .val (.ref b482), .val (.ref b499), .val (.ref b517), .val (.int ((p5 &&& (2147483647 : Int32)) % ((1 : Int32) + (p4 &&& (3 : Int32))))), .unset, .unset] [])) t
              refine XS.iload X618.here hx rfl (hb hby at_142) rfl ?_
              show Steps p.tables e below (T618.setTop (mkF m 144 #[.val (.int p0), .val (.int p1), .val (.int p2), .val (.int p3), .val (.int p4), .val (.int p5), .val (.int ((1 : Int32) + (p4 &&& (3 : Int32)))), .val (.ref b454), .val (.ref b467), .val (.ref b482), .val (.ref b499), .val (.ref b517), .val (.int ((p5 &&& (2147483647 : Int32)) % ((1 : Int32) + (p4 &&& (3 : Int32))))), .unset, .unset] [(.int ((p5 &&& (2147483647 : Int32)) % ((1 : Int32) + (p4 &&& (3 : Int32)))))])) t
              refine XS.iconst X618.here hx rfl (hb hby at_144) ?_
              exact k
            by_cases hc145 : ((p5 &&& (2147483647 : Int32)) % ((1 : Int32) + (p4 &&& (3 : Int32)))) = (2 : Int32)
            · skip
              refine own_goW (S' := T618.setTop (mkF m 157 #[.val (.int p0), .val (.int p1), .val (.int p2), .val (.int p3), .val (.int p4), .val (.int p5), .val (.int ((1 : Int32) + (p4 &&& (3 : Int32)))), .val (.ref b454), .val (.ref b467), .val (.ref b482), .val (.ref b499), .val (.ref b517), .val (.int ((p5 &&& (2147483647 : Int32)) % ((1 : Int32) + (p4 &&& (3 : Int32))))), .val (.ref b482), .unset] [])) (fun t k => ?_) ?_
              · show Steps p.tables e below (T618.setTop (mkF m 145 #[.val (.int p0), .val (.int p1), .val (.int p2), .val (.int p3), .val (.int p4), .val (.int p5), .val (.int ((1 : Int32) + (p4 &&& (3 : Int32)))), .val (.ref b454), .val (.ref b467), .val (.ref b482), .val (.ref b499), .val (.ref b517), .val (.int ((p5 &&& (2147483647 : Int32)) % ((1 : Int32) + (p4 &&& (3 : Int32))))), .unset, .unset] [(.int (2 : Int32)), (.int ((p5 &&& (2147483647 : Int32)) % ((1 : Int32) + (p4 &&& (3 : Int32)))))])) t
                refine XS.icmpNo X618.here hx rfl (hb hby at_145) rfl (teq hc145).2 ?_
                show Steps p.tables e below (T618.setTop (mkF m 148 #[.val (.int p0), .val (.int p1), .val (.int p2), .val (.int p3), .val (.int p4), .val (.int p5), .val (.int ((1 : Int32) + (p4 &&& (3 : Int32)))), .val (.ref b454), .val (.ref b467), .val (.ref b482), .val (.ref b499), .val (.ref b517), .val (.int ((p5 &&& (2147483647 : Int32)) % ((1 : Int32) + (p4 &&& (3 : Int32))))), .unset, .unset] [])) t
                refine XS.aload X618.here hx rfl (hb hby at_148) rfl rfl ?_
                show Steps p.tables e below (T618.setTop (mkF m 150 #[.val (.int p0), .val (.int p1), .val (.int p2), .val (.int p3), .val (.int p4), .val (.int p5), .val (.int ((1 : Int32) + (p4 &&& (3 : Int32)))), .val (.ref b454), .val (.ref b467), .val (.ref b482), .val (.ref b499), .val (.ref b517), .val (.int ((p5 &&& (2147483647 : Int32)) % ((1 : Int32) + (p4 &&& (3 : Int32))))), .unset, .unset] [(.ref b482)])) t
                refine XS.goto X618.here hx rfl (pc0 := 150) (pc' := 155) rfl (hb hby at_150) (by decide) (by decide) ?_
                show Steps p.tables e below (T618.setTop (mkF m 155 #[.val (.int p0), .val (.int p1), .val (.int p2), .val (.int p3), .val (.int p4), .val (.int p5), .val (.int ((1 : Int32) + (p4 &&& (3 : Int32)))), .val (.ref b454), .val (.ref b467), .val (.ref b482), .val (.ref b499), .val (.ref b517), .val (.int ((p5 &&& (2147483647 : Int32)) % ((1 : Int32) + (p4 &&& (3 : Int32))))), .unset, .unset] [(.ref b482)])) t
                refine XS.astore X618.here hx rfl (hb hby at_155) rfl rfl (l' := #[.val (.int p0), .val (.int p1), .val (.int p2), .val (.int p3), .val (.int p4), .val (.int p5), .val (.int ((1 : Int32) + (p4 &&& (3 : Int32)))), .val (.ref b454), .val (.ref b467), .val (.ref b482), .val (.ref b499), .val (.ref b517), .val (.int ((p5 &&& (2147483647 : Int32)) % ((1 : Int32) + (p4 &&& (3 : Int32))))), .val (.ref b482), .unset]) rfl ?_
                exact k
              obtain ⟨b753, T753, h753, k753, X753, e753, E753, hS, hk753, hZ, hown, st753⟩ := ldcS (s := s) (vm0 := s.vm) X618 hx hZ hown (hw _ (List.mem_of_getElem? (i := 82) rfl)) (own_strW (hw _ (List.mem_of_getElem? (i := 2) rfl)) (hw _ (List.mem_of_getElem? (i := 10) rfl)) (hw _ (List.mem_of_getElem? (i := 14) rfl)) (hw _ (List.mem_of_getElem? (i := 23) rfl)) (hw _ (List.mem_of_getElem? (i := 25) rfl)) (hw _ (List.mem_of_getElem? (i := 83) rfl)) (hw _ (List.mem_of_getElem? (i := 84) rfl))) rfl hS hk636 (g := (mkF m 157 #[.val (.int p0), .val (.int p1), .val (.int p2), .val (.int p3), .val (.int p4), .val (.int p5), .val (.int ((1 : Int32) + (p4 &&& (3 : Int32)))), .val (.ref b454), .val (.ref b467), .val (.ref b482), .val (.ref b499), .val (.ref b517), .val (.int ((p5 &&& (2147483647 : Int32)) % ((1 : Int32) + (p4 &&& (3 : Int32))))), .val (.ref b482), .unset] [])) rfl (hb hby at_157) (n := 12) (by decide) (by decide) (by decide) (by decide)
              have Z754 : n0 ≤ h753.size := Nat.le_trans Z635 E753.1
              have hk755 := Nat.le_trans hk636 E753.1
              have f756 : own_Len Z h753 w_s_DEFAULTCAPACITY_EMPTY_ELEMENTDATA (.object "java/lang/Object") (0 : Int32) := f627.ext E753
              have f757 : Sta Z h753 "java/lang/String" "COMPACT_STRINGS" "Z" (.int w_s_COMPACT_STRINGS) := Sta.ext E753 f628
              have f758 : Sta Z h753 "java/util/ArrayList" "DEFAULTCAPACITY_EMPTY_ELEMENTDATA" "[Ljava/lang/Object;" (.ref w_s_DEFAULTCAPACITY_EMPTY_ELEMENTDATA) := Sta.ext E753 f629
              have f759 : Exa Z h753 b454 "java/lang/String" := Exa.ext E753 f630
              have f760 : Exa Z h753 b467 "java/lang/String" := Exa.ext E753 f631
              have f761 : Exa Z h753 b482 "java/lang/String" := Exa.ext E753 f632
              have f762 : Exa Z h753 b499 "java/lang/String" := Exa.ext E753 f633
              have f763 : Exa Z h753 b517 "java/util/ArrayList" := Exa.ext E753 p621
              have f764 : Fld Z h753 b517 "java/util/AbstractList" "modCount" "I" (.int (((((0 : Int32) + (1 : Int32)) + (1 : Int32)) + (1 : Int32)) + (1 : Int32))) := Fld.ext E753 p622
              have f765 : Fld Z h753 b517 "java/util/ArrayList" "elementData" "[Ljava/lang/Object;" (.ref b554) := Fld.ext E753 p623
              have f766 : Fld Z h753 b517 "java/util/ArrayList" "size" "I" (.int (4 : Int32)) := Fld.ext E753 p624
              have f767 : own_ArvR Z h753 b554 "java/lang/Object" (10 : Int32) [(.ref b454), (.ref b467), (.ref b482), (.ref b499), .null, .null, .null, .null, .null, .null] := p625.ext E753
              refine own_goW st753 ?_
              refine own_goW (S' := T753.setTop (mkF m 163 #[.val (.int p0), .val (.int p1), .val (.int p2), .val (.int p3), .val (.int p4), .val (.int p5), .val (.int ((1 : Int32) + (p4 &&& (3 : Int32)))), .val (.ref b454), .val (.ref b467), .val (.ref b482), .val (.ref b499), .val (.ref b517), .val (.int ((p5 &&& (2147483647 : Int32)) % ((1 : Int32) + (p4 &&& (3 : Int32))))), .val (.ref b482), .unset] [(.int ((p5 &&& (2147483647 : Int32)) % ((1 : Int32) + (p4 &&& (3 : Int32))))), (.ref b517), (.ref b753)])) (fun t k => ?_) ?_
              · show Steps p.tables e below (T753.setTop (mkF m 159 #[.val (.int p0), .val (.int p1), .val (.int p2), .val (.int p3), .val (.int p4), .val (.int p5), .val (.int ((1 : Int32) + (p4 &&& (3 : Int32)))), .val (.ref b454), .val (.ref b467), .val (.ref b482), .val (.ref b499), .val (.ref b517), .val (.int ((p5 &&& (2147483647 : Int32)) % ((1 : Int32) + (p4 &&& (3 : Int32))))), .val (.ref b482), .unset] [(.ref b753)])) t
                refine XS.aload X753.here hx rfl (hb hby at_159) rfl rfl ?_
                show Steps p.tables e below (T753.setTop (mkF m 161 #[.val (.int p0), .val (.int p1), .val (.int p2), .val (.int p3), .val (.int p4), .val (.int p5), .val (.int ((1 : Int32) + (p4 &&& (3 : Int32)))), .val (.ref b454), .val (.ref b467), .val (.ref b482), .val (.ref b499), .val (.ref b517), .val (.int ((p5 &&& (2147483647 : Int32)) % ((1 : Int32) + (p4 &&& (3 : Int32))))), .val (.ref b482), .unset] [(.ref b517), (.ref b753)])) t
                refine XS.iload X753.here hx rfl (hb hby at_161) rfl ?_
                exact k
              obtain ⟨b768, T768, h768, k768, X768, e768, E768, hS, hk768, hZ, hown, st768⟩ := ldcS (s := s) (vm0 := T753.vm) X753 hx hZ hown (hw _ (List.mem_of_getElem? (i := 85) rfl)) (own_strW (hw _ (List.mem_of_getElem? (i := 2) rfl)) (hw _ (List.mem_of_getElem? (i := 10) rfl)) (hw _ (List.mem_of_getElem? (i := 14) rfl)) (hw _ (List.mem_of_getElem? (i := 23) rfl)) (hw _ (List.mem_of_getElem? (i := 25) rfl)) (hw _ (List.mem_of_getElem? (i := 83) rfl)) (hw _ (List.mem_of_getElem? (i := 84) rfl))) e753 hS hk753 (g := (mkF m 163 #[.val (.int p0), .val (.int p1), .val (.int p2), .val (.int p3), .val (.int p4), .val (.int p5), .val (.int ((1 : Int32) + (p4 &&& (3 : Int32)))), .val (.ref b454), .val (.ref b467), .val (.ref b482), .val (.ref b499), .val (.ref b517), .val (.int ((p5 &&& (2147483647 : Int32)) % ((1 : Int32) + (p4 &&& (3 : Int32))))), .val (.ref b482), .unset] [(.int ((p5 &&& (2147483647 : Int32)) % ((1 : Int32) + (p4 &&& (3 : Int32))))), (.ref b517), (.ref b753)])) rfl (hb hby at_163) (n := 8) (by decide) (by decide) (by decide) (by decide)
              have Z769 : n0 ≤ h768.size := Nat.le_trans Z754 E768.1
              have hk770 := Nat.le_trans hk753 E768.1
              have f771 : own_Len Z h768 w_s_DEFAULTCAPACITY_EMPTY_ELEMENTDATA (.object "java/lang/Object") (0 : Int32) := f756.ext E768
              have f772 : Sta Z h768 "java/lang/String" "COMPACT_STRINGS" "Z" (.int w_s_COMPACT_STRINGS) := Sta.ext E768 f757
              have f773 : Sta Z h768 "java/util/ArrayList" "DEFAULTCAPACITY_EMPTY_ELEMENTDATA" "[Ljava/lang/Object;" (.ref w_s_DEFAULTCAPACITY_EMPTY_ELEMENTDATA) := Sta.ext E768 f758
              have f774 : Exa Z h768 b454 "java/lang/String" := Exa.ext E768 f759
              have f775 : Exa Z h768 b467 "java/lang/String" := Exa.ext E768 f760
              have f776 : Exa Z h768 b482 "java/lang/String" := Exa.ext E768 f761
              have f777 : Exa Z h768 b499 "java/lang/String" := Exa.ext E768 f762
              have f778 : Exa Z h768 b517 "java/util/ArrayList" := Exa.ext E768 f763
              have f779 : Fld Z h768 b517 "java/util/AbstractList" "modCount" "I" (.int (((((0 : Int32) + (1 : Int32)) + (1 : Int32)) + (1 : Int32)) + (1 : Int32))) := Fld.ext E768 f764
              have f780 : Fld Z h768 b517 "java/util/ArrayList" "elementData" "[Ljava/lang/Object;" (.ref b554) := Fld.ext E768 f765
              have f781 : Fld Z h768 b517 "java/util/ArrayList" "size" "I" (.int (4 : Int32)) := Fld.ext E768 f766
              have f782 : own_ArvR Z h768 b554 "java/lang/Object" (10 : Int32) [(.ref b454), (.ref b467), (.ref b482), (.ref b499), .null, .null, .null, .null, .null, .null] := f767.ext E768
              refine own_goW st768 ?_
              obtain ⟨b783, T783, h783, k783, X783, e783, E783, hS, hk783, hZ, hown, st783⟩ := ldcS (s := s) (vm0 := T768.vm) X768 hx hZ hown (hw _ (List.mem_of_getElem? (i := 86) rfl)) (own_strW (hw _ (List.mem_of_getElem? (i := 2) rfl)) (hw _ (List.mem_of_getElem? (i := 10) rfl)) (hw _ (List.mem_of_getElem? (i := 14) rfl)) (hw _ (List.mem_of_getElem? (i := 23) rfl)) (hw _ (List.mem_of_getElem? (i := 25) rfl)) (hw _ (List.mem_of_getElem? (i := 83) rfl)) (hw _ (List.mem_of_getElem? (i := 84) rfl))) e768 hS hk768 (g := (mkF m 165 #[.val (.int p0), .val (.int p1), .val (.int p2), .val (.int p3), .val (.int p4), .val (.int p5), .val (.int ((1 : Int32) + (p4 &&& (3 : Int32)))), .val (.ref b454), .val (.ref b467), .val (.ref b482), .val (.ref b499), .val (.ref b517), .val (.int ((p5 &&& (2147483647 : Int32)) % ((1 : Int32) + (p4 &&& (3 : Int32))))), .val (.ref b482), .unset] [(.ref b768), (.int ((p5 &&& (2147483647 : Int32)) % ((1 : Int32) + (p4 &&& (3 : Int32))))), (.ref b517), (.ref b753)])) rfl (hb hby at_165) (n := 28) (by decide) (by decide) (by decide) (by decide)
              have Z784 : n0 ≤ h783.size := Nat.le_trans Z769 E783.1
              have hk785 := Nat.le_trans hk768 E783.1
              have f786 : own_Len Z h783 w_s_DEFAULTCAPACITY_EMPTY_ELEMENTDATA (.object "java/lang/Object") (0 : Int32) := f771.ext E783
              have f787 : Sta Z h783 "java/lang/String" "COMPACT_STRINGS" "Z" (.int w_s_COMPACT_STRINGS) := Sta.ext E783 f772
              have f788 : Sta Z h783 "java/util/ArrayList" "DEFAULTCAPACITY_EMPTY_ELEMENTDATA" "[Ljava/lang/Object;" (.ref w_s_DEFAULTCAPACITY_EMPTY_ELEMENTDATA) := Sta.ext E783 f773
              have f789 : Exa Z h783 b454 "java/lang/String" := Exa.ext E783 f774
              have f790 : Exa Z h783 b467 "java/lang/String" := Exa.ext E783 f775
              have f791 : Exa Z h783 b482 "java/lang/String" := Exa.ext E783 f776
              have f792 : Exa Z h783 b499 "java/lang/String" := Exa.ext E783 f777
              have f793 : Exa Z h783 b517 "java/util/ArrayList" := Exa.ext E783 f778
              have f794 : Fld Z h783 b517 "java/util/AbstractList" "modCount" "I" (.int (((((0 : Int32) + (1 : Int32)) + (1 : Int32)) + (1 : Int32)) + (1 : Int32))) := Fld.ext E783 f779
              have f795 : Fld Z h783 b517 "java/util/ArrayList" "elementData" "[Ljava/lang/Object;" (.ref b554) := Fld.ext E783 f780
              have f796 : Fld Z h783 b517 "java/util/ArrayList" "size" "I" (.int (4 : Int32)) := Fld.ext E783 f781
              have f797 : own_ArvR Z h783 b554 "java/lang/Object" (10 : Int32) [(.ref b454), (.ref b467), (.ref b482), (.ref b499), .null, .null, .null, .null, .null, .null] := f782.ext E783
              refine own_goW st783 ?_
              have hf798 : ((p5 &&& (2147483647 : Int32)) % ((1 : Int32) + (p4 &&& (3 : Int32)))) = (2 : Int32) := hc145
              rw [hf798]
              obtain ⟨_, _, ⟨T799, L799, kk799, nn799⟩, -, X799, ⟨Lc799, hQ799, l799, y799, z799⟩, st799⟩ := Jvm.LawKit.callS X783 hx (y := (⟨"com/example/scorebench/scorebench/OptionValue", "of", "(Ljava/lang/String;Ljava/util/List;ILjava/lang/String;Ljava/lang/String;)Ljava/lang/String;"⟩ : MethodName)) hown (mvT hZ (hw _ (List.mem_of_getElem? (i := 87) rfl))) (mvT hZ (hw _ (List.mem_of_getElem? (i := 88) rfl))) (mvT hZ (hw _ (List.mem_of_getElem? (i := 89) rfl))) (mvT hZ (hw _ (List.mem_of_getElem? (i := 90) rfl))) (by decide) (backOf (W := 0) (of2 l Z a0 hw [] b753 b517 b768 b783 (4 : Int32) b554 (.ref b454) (.ref b467) b482 (.ref b499) (.null) (.null) (.null) (.null) (.null) (.null) h783 n0 Z784 (by decide : (2 : Int32) < (4 : Int32)) f796 f793 (by decide : ¬ ((2 : Int32) = (4 : Int32))) f795 f797 f791) hZ (hw _ (List.mem_of_getElem? (i := 90) rfl)) (hw _ (List.mem_of_getElem? (i := 89) rfl)) (by decide) (by decide)) (g := (mkF m 167 #[.val (.int p0), .val (.int p1), .val (.int p2), .val (.int p3), .val (.int p4), .val (.int p5), .val (.int ((1 : Int32) + (p4 &&& (3 : Int32)))), .val (.ref b454), .val (.ref b467), .val (.ref b482), .val (.ref b499), .val (.ref b517), .val (.int (2 : Int32)), .val (.ref b482), .unset] [(.ref b783), (.ref b768), (.int (2 : Int32)), (.ref b517), (.ref b753)])) rfl (by rw [hml]; rfl) (argsL := [(.ref b753), (.ref b517), (.int (2 : Int32)), (.ref b768), (.ref b783)]) (rest := []) (lenOf pd_179 rfl) rfl (by show 2 * 0 + _ ≤ _; exact Nat.le_of_eq rfl) (hb hby at_167) (fun _ _ => ⟨rfl, e783, (by decide : 16 + 0 ≤ _), (by decide : 93 + 0 ≤ _)⟩)
              dsimp only [Pt.U, Pt.locs, Pt.cells, Pt.slots] at X799 l799 y799 z799 st799 hQ799
              subst l799 y799 z799
              obtain ⟨rfl, N800, e799⟩ := hQ799
              have N802 := Fr.app N626 N800
              refine own_goW st799 ?_
              refine own_goW (S' := T799.setTop (mkF m 181 #[.val (.int p0), .val (.int p1), .val (.int p2), .val (.int p3), .val (.int p4), .val (.int p5), .val (.int ((1 : Int32) + (p4 &&& (3 : Int32)))), .val (.ref b454), .val (.ref b467), .val (.ref b482), .val (.ref b499), .val (.ref b517), .val (.int (2 : Int32)), .val (.ref b482), .val (.ref b482)] [(.ref b482), (.ref b482)])) (fun t k => ?_) ?_
              · show Steps p.tables e below (T799.setTop (mkF m 170 #[.val (.int p0), .val (.int p1), .val (.int p2), .val (.int p3), .val (.int p4), .val (.int p5), .val (.int ((1 : Int32) + (p4 &&& (3 : Int32)))), .val (.ref b454), .val (.ref b467), .val (.ref b482), .val (.ref b499), .val (.ref b517), .val (.int (2 : Int32)), .val (.ref b482), .unset] [(.ref b482)])) t
                refine XS.astore X799.here hx rfl (hb hby at_170) rfl rfl (l' := #[.val (.int p0), .val (.int p1), .val (.int p2), .val (.int p3), .val (.int p4), .val (.int p5), .val (.int ((1 : Int32) + (p4 &&& (3 : Int32)))), .val (.ref b454), .val (.ref b467), .val (.ref b482), .val (.ref b499), .val (.ref b517), .val (.int (2 : Int32)), .val (.ref b482), .val (.ref b482)]) rfl ?_
                show Steps p.tables e below (T799.setTop (mkF m 172 #[.val (.int p0), .val (.int p1), .val (.int p2), .val (.int p3), .val (.int p4), .val (.int p5), .val (.int ((1 : Int32) + (p4 &&& (3 : Int32)))), .val (.ref b454), .val (.ref b467), .val (.ref b482), .val (.ref b499), .val (.ref b517), .val (.int (2 : Int32)), .val (.ref b482), .val (.ref b482)] [])) t
                refine XS.aload X799.here hx rfl (hb hby at_172) rfl rfl ?_
                show Steps p.tables e below (T799.setTop (mkF m 174 #[.val (.int p0), .val (.int p1), .val (.int p2), .val (.int p3), .val (.int p4), .val (.int p5), .val (.int ((1 : Int32) + (p4 &&& (3 : Int32)))), .val (.ref b454), .val (.ref b467), .val (.ref b482), .val (.ref b499), .val (.ref b517), .val (.int (2 : Int32)), .val (.ref b482), .val (.ref b482)] [(.ref b482)])) t
                refine XS.ifnullNo X799.here hx rfl (hb hby at_174) rfl ?_
                show Steps p.tables e below (T799.setTop (mkF m 177 #[.val (.int p0), .val (.int p1), .val (.int p2), .val (.int p3), .val (.int p4), .val (.int p5), .val (.int ((1 : Int32) + (p4 &&& (3 : Int32)))), .val (.ref b454), .val (.ref b467), .val (.ref b482), .val (.ref b499), .val (.ref b517), .val (.int (2 : Int32)), .val (.ref b482), .val (.ref b482)] [])) t
                refine XS.aload X799.here hx rfl (hb hby at_177) rfl rfl ?_
                show Steps p.tables e below (T799.setTop (mkF m 179 #[.val (.int p0), .val (.int p1), .val (.int p2), .val (.int p3), .val (.int p4), .val (.int p5), .val (.int ((1 : Int32) + (p4 &&& (3 : Int32)))), .val (.ref b454), .val (.ref b467), .val (.ref b482), .val (.ref b499), .val (.ref b517), .val (.int (2 : Int32)), .val (.ref b482), .val (.ref b482)] [(.ref b482)])) t
                refine XS.aload X799.here hx rfl (hb hby at_179) rfl rfl ?_
                exact k
              obtain ⟨cq803, kq803, qa803, qb803, qc803⟩ := isOf hZ e799 f791
              obtain ⟨_, _, ⟨T803, L803, kk803, nn803⟩, -, X803, ⟨Lc803, hQ803, l803, y803, z803⟩, st803⟩ := X799.virtualBack hx (y := (⟨"java/lang/String", "equals", "(Ljava/lang/Object;)Z"⟩ : MethodName)) (z := (⟨"java/lang/String", "equals", "(Ljava/lang/Object;)Z"⟩ : MethodName)) hown (mvT hZ (hw _ (List.mem_of_getElem? (i := 122) rfl))) (mvT hZ (hw _ (List.mem_of_getElem? (i := 123) rfl))) (notFace_of_selects (args := #[]) (mvT hZ (hw _ (List.mem_of_getElem? (i := 125) rfl)))) (mvT hZ (hw _ (List.mem_of_getElem? (i := 125) rfl))) (mvT hZ (hw _ (List.mem_of_getElem? (i := 124) rfl))) (by decide) (backOf (W := 0) (eqSame l Z a0 hw [] b482 b482 h783 n0 Z784 (rfl : b482 = b482)) hZ (hw _ (List.mem_of_getElem? (i := 126) rfl)) (hw _ (List.mem_of_getElem? (i := 2) rfl)) (by decide) (by decide)) qa803 qc803 (g := (mkF m 181 #[.val (.int p0), .val (.int p1), .val (.int p2), .val (.int p3), .val (.int p4), .val (.int p5), .val (.int ((1 : Int32) + (p4 &&& (3 : Int32)))), .val (.ref b454), .val (.ref b467), .val (.ref b482), .val (.ref b499), .val (.ref b517), .val (.int (2 : Int32)), .val (.ref b482), .val (.ref b482)] [(.ref b482), (.ref b482)])) rfl (by rw [hml]; rfl) (Steps.refl _) (argsL := [(.ref b482)]) (rest := []) (lenOf pd_178 rfl) rfl (by show 2 * 0 + _ ≤ _; exact Nat.le_of_eq rfl) (hb hby at_181) (fun _ _ => ⟨rfl, e799, (by decide : 16 + 0 ≤ _), (by decide : 93 + 0 ≤ _)⟩)
              dsimp only [Pt.U, Pt.locs, Pt.cells, Pt.slots] at X803 l803 y803 z803 st803 hQ803
              subst l803 y803 z803
              obtain ⟨rfl, N804, e803⟩ := hQ803
              have N806 := Fr.app N802 N804
              refine own_goTW st803 ?_
              refine own_goW (S' := T803.setTop (mkF m 189 #[.val (.int p0), .val (.int p1), .val (.int p2), .val (.int p3), .val (.int p4), .val (.int p5), .val (.int ((1 : Int32) + (p4 &&& (3 : Int32)))), .val (.ref b454), .val (.ref b467), .val (.ref b482), .val (.ref b499), .val (.ref b517), .val (.int (2 : Int32)), .val (.ref b482), .val (.ref b482)] [(.ref b517)])) (fun t k => ?_) ?_
              · show Steps p.tables e below (T803.setTop (mkF m 184 #[.val (.int p0), .val (.int p1), .val (.int p2), .val (.int p3), .val (.int p4), .val (.int p5), .val (.int ((1 : Int32) + (p4 &&& (3 : Int32)))), .val (.ref b454), .val (.ref b467), .val (.ref b482), .val (.ref b499), .val (.ref b517), .val (.int (2 : Int32)), .val (.ref b482), .val (.ref b482)] [(.int (1 : Int32))])) t
                refine XS.ifNo X803.here hx rfl (hb hby at_184) rfl ((if0 _ _).trans (feq (by decide)).1) ?_
                show Steps p.tables e below (T803.setTop (mkF m 187 #[.val (.int p0), .val (.int p1), .val (.int p2), .val (.int p3), .val (.int p4), .val (.int p5), .val (.int ((1 : Int32) + (p4 &&& (3 : Int32)))), .val (.ref b454), .val (.ref b467), .val (.ref b482), .val (.ref b499), .val (.ref b517), .val (.int (2 : Int32)), .val (.ref b482), .val (.ref b482)] [])) t
                refine XS.aload X803.here hx rfl (hb hby at_187) rfl rfl ?_
                exact k
              obtain ⟨cq807, kq807, qa807, qb807, qc807⟩ := isOf hZ e803 f793
              obtain ⟨_, _, ⟨T807, L807, kk807, nn807⟩, -, X807, ⟨Lc807, hQ807, l807, y807, z807⟩, st807⟩ := X803.virtualBack hx (y := (⟨"java/util/ArrayList", "size", "()I"⟩ : MethodName)) (z := (⟨"java/util/ArrayList", "size", "()I"⟩ : MethodName)) hown (mvT hZ (hw _ (List.mem_of_getElem? (i := 127) rfl))) (mvT hZ (hw _ (List.mem_of_getElem? (i := 128) rfl))) (notFace_of_selects (args := #[]) (mvT hZ (hw _ (List.mem_of_getElem? (i := 129) rfl)))) (mvT hZ (hw _ (List.mem_of_getElem? (i := 129) rfl))) (mvT hZ (hw _ (List.mem_of_getElem? (i := 95) rfl))) (by decide) (backOf (W := 0) (alSize l Z a0 hw [] b517 (4 : Int32) h783 n0 Z784 f796) hZ (hw _ (List.mem_of_getElem? (i := 99) rfl)) (hw _ (List.mem_of_getElem? (i := 28) rfl)) (by decide) (by decide)) qa807 qc807 (g := (mkF m 189 #[.val (.int p0), .val (.int p1), .val (.int p2), .val (.int p3), .val (.int p4), .val (.int p5), .val (.int ((1 : Int32) + (p4 &&& (3 : Int32)))), .val (.ref b454), .val (.ref b467), .val (.ref b482), .val (.ref b499), .val (.ref b517), .val (.int (2 : Int32)), .val (.ref b482), .val (.ref b482)] [(.ref b517)])) rfl (by rw [hml]; rfl) (Steps.refl _) (argsL := []) (rest := []) (lenOf pd_164 rfl) rfl (by show 2 * 0 + _ ≤ _; exact Nat.le_of_eq rfl) (hb hby at_189) (fun _ _ => ⟨rfl, e803, (by decide : 16 + 0 ≤ _), (by decide : 93 + 0 ≤ _)⟩)
              dsimp only [Pt.U, Pt.locs, Pt.cells, Pt.slots] at X807 l807 y807 z807 st807 hQ807
              subst l807 y807 z807
              obtain ⟨rfl, N808, e807⟩ := hQ807
              have N810 := Fr.app N806 N808
              refine own_goTW st807 ?_
              refine own_goW (S' := T807.setTop (mkF m 194 #[.val (.int p0), .val (.int p1), .val (.int p2), .val (.int p3), .val (.int p4), .val (.int p5), .val (.int ((1 : Int32) + (p4 &&& (3 : Int32)))), .val (.ref b454), .val (.ref b467), .val (.ref b482), .val (.ref b499), .val (.ref b517), .val (.int (2 : Int32)), .val (.ref b482), .val (.ref b482)] [(.int ((1 : Int32) + (p4 &&& (3 : Int32)))), (.int (4 : Int32))])) (fun t k => ?_) ?_
              · show Steps p.tables e below (T807.setTop (mkF m 192 #[.val (.int p0), .val (.int p1), .val (.int p2), .val (.int p3), .val (.int p4), .val (.int p5), .val (.int ((1 : Int32) + (p4 &&& (3 : Int32)))), .val (.ref b454), .val (.ref b467), .val (.ref b482), .val (.ref b499), .val (.ref b517), .val (.int (2 : Int32)), .val (.ref b482), .val (.ref b482)] [(.int (4 : Int32))])) t
                refine XS.iload X807.here hx rfl (hb hby at_192) rfl ?_
                exact k
              refine own_goW (S' := T807.setTop (mkF m 202 #[.val (.int p0), .val (.int p1), .val (.int p2), .val (.int p3), .val (.int p4), .val (.int p5), .val (.int ((1 : Int32) + (p4 &&& (3 : Int32)))), .val (.ref b454), .val (.ref b467), .val (.ref b482), .val (.ref b499), .val (.ref b517), .val (.int (2 : Int32)), .val (.ref b482), .val (.ref b482)] [(.int (if (4 : Int32) = ((1 : Int32) + (p4 &&& (3 : Int32))) then (1 : Int32) else (0 : Int32)))])) (fun t k => ?_) ?_
              · show Steps p.tables e below (T807.setTop (mkF m 194 #[.val (.int p0), .val (.int p1), .val (.int p2), .val (.int p3), .val (.int p4), .val (.int p5), .val (.int ((1 : Int32) + (p4 &&& (3 : Int32)))), .val (.ref b454), .val (.ref b467), .val (.ref b482), .val (.ref b499), .val (.ref b517), .val (.int (2 : Int32)), .val (.ref b482), .val (.ref b482)] [(.int ((1 : Int32) + (p4 &&& (3 : Int32)))), (.int (4 : Int32))])) t
                by_cases hc194 : (4 : Int32) = ((1 : Int32) + (p4 &&& (3 : Int32)))
                · show Steps p.tables e below (T807.setTop (mkF m 194 #[.val (.int p0), .val (.int p1), .val (.int p2), .val (.int p3), .val (.int p4), .val (.int p5), .val (.int ((1 : Int32) + (p4 &&& (3 : Int32)))), .val (.ref b454), .val (.ref b467), .val (.ref b482), .val (.ref b499), .val (.ref b517), .val (.int (2 : Int32)), .val (.ref b482), .val (.ref b482)] [(.int ((1 : Int32) + (p4 &&& (3 : Int32)))), (.int (4 : Int32))])) t
                  refine XS.icmpNo X807.here hx rfl (hb hby at_194) rfl (teq hc194).2 ?_
                  show Steps p.tables e below (T807.setTop (mkF m 197 #[.val (.int p0), .val (.int p1), .val (.int p2), .val (.int p3), .val (.int p4), .val (.int p5), .val (.int ((1 : Int32) + (p4 &&& (3 : Int32)))), .val (.ref b454), .val (.ref b467), .val (.ref b482), .val (.ref b499), .val (.ref b517), .val (.int (2 : Int32)), .val (.ref b482), .val (.ref b482)] [])) t
                  refine XS.iconst X807.here hx rfl (hb hby at_197) ?_
                  show Steps p.tables e below (T807.setTop (mkF m 198 #[.val (.int p0), .val (.int p1), .val (.int p2), .val (.int p3), .val (.int p4), .val (.int p5), .val (.int ((1 : Int32) + (p4 &&& (3 : Int32)))), .val (.ref b454), .val (.ref b467), .val (.ref b482), .val (.ref b499), .val (.ref b517), .val (.int (2 : Int32)), .val (.ref b482), .val (.ref b482)] [(.int (1 : Int32))])) t
                  refine XS.goto X807.here hx rfl (pc0 := 198) (pc' := 202) rfl (hb hby at_198) (by decide) (by decide) ?_
                  first | exact k | (simp only [if_pos hc194] at k ⊢; exact k)
                · show Steps p.tables e below (T807.setTop (mkF m 194 #[.val (.int p0), .val (.int p1), .val (.int p2), .val (.int p3), .val (.int p4), .val (.int p5), .val (.int ((1 : Int32) + (p4 &&& (3 : Int32)))), .val (.ref b454), .val (.ref b467), .val (.ref b482), .val (.ref b499), .val (.ref b517), .val (.int (2 : Int32)), .val (.ref b482), .val (.ref b482)] [(.int ((1 : Int32) + (p4 &&& (3 : Int32)))), (.int (4 : Int32))])) t
                  refine XS.icmpYes X807.here hx rfl (pc0 := 194) (pc' := 201) rfl (hb hby at_194) rfl (feq hc194).2 (by decide) (by decide) ?_
                  show Steps p.tables e below (T807.setTop (mkF m 201 #[.val (.int p0), .val (.int p1), .val (.int p2), .val (.int p3), .val (.int p4), .val (.int p5), .val (.int ((1 : Int32) + (p4 &&& (3 : Int32)))), .val (.ref b454), .val (.ref b467), .val (.ref b482), .val (.ref b499), .val (.ref b517), .val (.int (2 : Int32)), .val (.ref b482), .val (.ref b482)] [])) t
                  refine XS.iconst X807.here hx rfl (hb hby at_201) ?_
                  first | exact k | (simp only [if_neg hc194] at k ⊢; exact k)
              have hfin : (if (4 : Int32) = ((1 : Int32) + (p4 &&& (3 : Int32))) then (1 : Int32) else (0 : Int32)) = (1 : Int32) := if_pos (own_sz hc100 (own_hi p4) (by decide))
              rw [hfin]
              obtain ⟨fs, hr, hrun, hended, hW, hsame⟩ := X807.leave (v := some (.int (1 : Int32))) (fun h => by rw [Bd.returns] at h; cases h)
              refine own_endW (v := some (.int (1 : Int32))) ?_ hrun hended ?_ (hS.ended hW (by show _ ≤ T807.heap.size; rw [e807]; exact hk783) hsame) (by decide) (by decide)
              · show Steps p.tables e below (T807.setTop (mkF m 202 #[.val (.int p0), .val (.int p1), .val (.int p2), .val (.int p3), .val (.int p4), .val (.int p5), .val (.int ((1 : Int32) + (p4 &&& (3 : Int32)))), .val (.ref b454), .val (.ref b467), .val (.ref b482), .val (.ref b499), .val (.ref b517), .val (.int (2 : Int32)), .val (.ref b482), .val (.ref b482)] [(.int (1 : Int32))])) _
                exact retN X807 hx (t := .boolean) Bd.returns (by simp) (hb hby at_202) hr
              · show Qrm0 Z p0 p1 p2 p3 p4 p5 w_s_COMPACT_STRINGS w_s_DEFAULTCAPACITY_EMPTY_ELEMENTDATA h0 n0 _ T807.heap _
                rw [e807]
                exact ⟨rfl, N810⟩
            · skip
              refine own_goW (S' := T618.setTop (mkF m 157 #[.val (.int p0), .val (.int p1), .val (.int p2), .val (.int p3), .val (.int p4), .val (.int p5), .val (.int ((1 : Int32) + (p4 &&& (3 : Int32)))), .val (.ref b454), .val (.ref b467), .val (.ref b482), .val (.ref b499), .val (.ref b517), .val (.int ((p5 &&& (2147483647 : Int32)) % ((1 : Int32) + (p4 &&& (3 : Int32))))), .val (.ref b499), .unset] [])) (fun t k => ?_) ?_
              · show Steps p.tables e below (T618.setTop (mkF m 145 #[.val (.int p0), .val (.int p1), .val (.int p2), .val (.int p3), .val (.int p4), .val (.int p5), .val (.int ((1 : Int32) + (p4 &&& (3 : Int32)))), .val (.ref b454), .val (.ref b467), .val (.ref b482), .val (.ref b499), .val (.ref b517), .val (.int ((p5 &&& (2147483647 : Int32)) % ((1 : Int32) + (p4 &&& (3 : Int32))))), .unset, .unset] [(.int (2 : Int32)), (.int ((p5 &&& (2147483647 : Int32)) % ((1 : Int32) + (p4 &&& (3 : Int32)))))])) t
                refine XS.icmpYes X618.here hx rfl (pc0 := 145) (pc' := 153) rfl (hb hby at_145) rfl (feq hc145).2 (by decide) (by decide) ?_
                show Steps p.tables e below (T618.setTop (mkF m 153 #[.val (.int p0), .val (.int p1), .val (.int p2), .val (.int p3), .val (.int p4), .val (.int p5), .val (.int ((1 : Int32) + (p4 &&& (3 : Int32)))), .val (.ref b454), .val (.ref b467), .val (.ref b482), .val (.ref b499), .val (.ref b517), .val (.int ((p5 &&& (2147483647 : Int32)) % ((1 : Int32) + (p4 &&& (3 : Int32))))), .unset, .unset] [])) t
                refine XS.aload X618.here hx rfl (hb hby at_153) rfl rfl ?_
                show Steps p.tables e below (T618.setTop (mkF m 155 #[.val (.int p0), .val (.int p1), .val (.int p2), .val (.int p3), .val (.int p4), .val (.int p5), .val (.int ((1 : Int32) + (p4 &&& (3 : Int32)))), .val (.ref b454), .val (.ref b467), .val (.ref b482), .val (.ref b499), .val (.ref b517), .val (.int ((p5 &&& (2147483647 : Int32)) % ((1 : Int32) + (p4 &&& (3 : Int32))))), .unset, .unset] [(.ref b499)])) t
                refine XS.astore X618.here hx rfl (hb hby at_155) rfl rfl (l' := #[.val (.int p0), .val (.int p1), .val (.int p2), .val (.int p3), .val (.int p4), .val (.int p5), .val (.int ((1 : Int32) + (p4 &&& (3 : Int32)))), .val (.ref b454), .val (.ref b467), .val (.ref b482), .val (.ref b499), .val (.ref b517), .val (.int ((p5 &&& (2147483647 : Int32)) % ((1 : Int32) + (p4 &&& (3 : Int32))))), .val (.ref b499), .unset]) rfl ?_
                exact k
              obtain ⟨b811, T811, h811, k811, X811, e811, E811, hS, hk811, hZ, hown, st811⟩ := ldcS (s := s) (vm0 := s.vm) X618 hx hZ hown (hw _ (List.mem_of_getElem? (i := 82) rfl)) (own_strW (hw _ (List.mem_of_getElem? (i := 2) rfl)) (hw _ (List.mem_of_getElem? (i := 10) rfl)) (hw _ (List.mem_of_getElem? (i := 14) rfl)) (hw _ (List.mem_of_getElem? (i := 23) rfl)) (hw _ (List.mem_of_getElem? (i := 25) rfl)) (hw _ (List.mem_of_getElem? (i := 83) rfl)) (hw _ (List.mem_of_getElem? (i := 84) rfl))) rfl hS hk636 (g := (mkF m 157 #[.val (.int p0), .val (.int p1), .val (.int p2), .val (.int p3), .val (.int p4), .val (.int p5), .val (.int ((1 : Int32) + (p4 &&& (3 : Int32)))), .val (.ref b454), .val (.ref b467), .val (.ref b482), .val (.ref b499), .val (.ref b517), .val (.int ((p5 &&& (2147483647 : Int32)) % ((1 : Int32) + (p4 &&& (3 : Int32))))), .val (.ref b499), .unset] [])) rfl (hb hby at_157) (n := 12) (by decide) (by decide) (by decide) (by decide)
              have Z812 : n0 ≤ h811.size := Nat.le_trans Z635 E811.1
              have hk813 := Nat.le_trans hk636 E811.1
              have f814 : own_Len Z h811 w_s_DEFAULTCAPACITY_EMPTY_ELEMENTDATA (.object "java/lang/Object") (0 : Int32) := f627.ext E811
              have f815 : Sta Z h811 "java/lang/String" "COMPACT_STRINGS" "Z" (.int w_s_COMPACT_STRINGS) := Sta.ext E811 f628
              have f816 : Sta Z h811 "java/util/ArrayList" "DEFAULTCAPACITY_EMPTY_ELEMENTDATA" "[Ljava/lang/Object;" (.ref w_s_DEFAULTCAPACITY_EMPTY_ELEMENTDATA) := Sta.ext E811 f629
              have f817 : Exa Z h811 b454 "java/lang/String" := Exa.ext E811 f630
              have f818 : Exa Z h811 b467 "java/lang/String" := Exa.ext E811 f631
              have f819 : Exa Z h811 b482 "java/lang/String" := Exa.ext E811 f632
              have f820 : Exa Z h811 b499 "java/lang/String" := Exa.ext E811 f633
              have f821 : Exa Z h811 b517 "java/util/ArrayList" := Exa.ext E811 p621
              have f822 : Fld Z h811 b517 "java/util/AbstractList" "modCount" "I" (.int (((((0 : Int32) + (1 : Int32)) + (1 : Int32)) + (1 : Int32)) + (1 : Int32))) := Fld.ext E811 p622
              have f823 : Fld Z h811 b517 "java/util/ArrayList" "elementData" "[Ljava/lang/Object;" (.ref b554) := Fld.ext E811 p623
              have f824 : Fld Z h811 b517 "java/util/ArrayList" "size" "I" (.int (4 : Int32)) := Fld.ext E811 p624
              have f825 : own_ArvR Z h811 b554 "java/lang/Object" (10 : Int32) [(.ref b454), (.ref b467), (.ref b482), (.ref b499), .null, .null, .null, .null, .null, .null] := p625.ext E811
              refine own_goW st811 ?_
              refine own_goW (S' := T811.setTop (mkF m 163 #[.val (.int p0), .val (.int p1), .val (.int p2), .val (.int p3), .val (.int p4), .val (.int p5), .val (.int ((1 : Int32) + (p4 &&& (3 : Int32)))), .val (.ref b454), .val (.ref b467), .val (.ref b482), .val (.ref b499), .val (.ref b517), .val (.int ((p5 &&& (2147483647 : Int32)) % ((1 : Int32) + (p4 &&& (3 : Int32))))), .val (.ref b499), .unset] [(.int ((p5 &&& (2147483647 : Int32)) % ((1 : Int32) + (p4 &&& (3 : Int32))))), (.ref b517), (.ref b811)])) (fun t k => ?_) ?_
              · show Steps p.tables e below (T811.setTop (mkF m 159 #[.val (.int p0), .val (.int p1), .val (.int p2), .val (.int p3), .val (.int p4), .val (.int p5), .val (.int ((1 : Int32) + (p4 &&& (3 : Int32)))), .val (.ref b454), .val (.ref b467), .val (.ref b482), .val (.ref b499), .val (.ref b517), .val (.int ((p5 &&& (2147483647 : Int32)) % ((1 : Int32) + (p4 &&& (3 : Int32))))), .val (.ref b499), .unset] [(.ref b811)])) t
                refine XS.aload X811.here hx rfl (hb hby at_159) rfl rfl ?_
                show Steps p.tables e below (T811.setTop (mkF m 161 #[.val (.int p0), .val (.int p1), .val (.int p2), .val (.int p3), .val (.int p4), .val (.int p5), .val (.int ((1 : Int32) + (p4 &&& (3 : Int32)))), .val (.ref b454), .val (.ref b467), .val (.ref b482), .val (.ref b499), .val (.ref b517), .val (.int ((p5 &&& (2147483647 : Int32)) % ((1 : Int32) + (p4 &&& (3 : Int32))))), .val (.ref b499), .unset] [(.ref b517), (.ref b811)])) t
                refine XS.iload X811.here hx rfl (hb hby at_161) rfl ?_
                exact k
              obtain ⟨b826, T826, h826, k826, X826, e826, E826, hS, hk826, hZ, hown, st826⟩ := ldcS (s := s) (vm0 := T811.vm) X811 hx hZ hown (hw _ (List.mem_of_getElem? (i := 85) rfl)) (own_strW (hw _ (List.mem_of_getElem? (i := 2) rfl)) (hw _ (List.mem_of_getElem? (i := 10) rfl)) (hw _ (List.mem_of_getElem? (i := 14) rfl)) (hw _ (List.mem_of_getElem? (i := 23) rfl)) (hw _ (List.mem_of_getElem? (i := 25) rfl)) (hw _ (List.mem_of_getElem? (i := 83) rfl)) (hw _ (List.mem_of_getElem? (i := 84) rfl))) e811 hS hk811 (g := (mkF m 163 #[.val (.int p0), .val (.int p1), .val (.int p2), .val (.int p3), .val (.int p4), .val (.int p5), .val (.int ((1 : Int32) + (p4 &&& (3 : Int32)))), .val (.ref b454), .val (.ref b467), .val (.ref b482), .val (.ref b499), .val (.ref b517), .val (.int ((p5 &&& (2147483647 : Int32)) % ((1 : Int32) + (p4 &&& (3 : Int32))))), .val (.ref b499), .unset] [(.int ((p5 &&& (2147483647 : Int32)) % ((1 : Int32) + (p4 &&& (3 : Int32))))), (.ref b517), (.ref b811)])) rfl (hb hby at_163) (n := 8) (by decide) (by decide) (by decide) (by decide)
              have Z827 : n0 ≤ h826.size := Nat.le_trans Z812 E826.1
              have hk828 := Nat.le_trans hk811 E826.1
              have f829 : own_Len Z h826 w_s_DEFAULTCAPACITY_EMPTY_ELEMENTDATA (.object "java/lang/Object") (0 : Int32) := f814.ext E826
              have f830 : Sta Z h826 "java/lang/String" "COMPACT_STRINGS" "Z" (.int w_s_COMPACT_STRINGS) := Sta.ext E826 f815
              have f831 : Sta Z h826 "java/util/ArrayList" "DEFAULTCAPACITY_EMPTY_ELEMENTDATA" "[Ljava/lang/Object;" (.ref w_s_DEFAULTCAPACITY_EMPTY_ELEMENTDATA) := Sta.ext E826 f816
              have f832 : Exa Z h826 b454 "java/lang/String" := Exa.ext E826 f817
              have f833 : Exa Z h826 b467 "java/lang/String" := Exa.ext E826 f818
              have f834 : Exa Z h826 b482 "java/lang/String" := Exa.ext E826 f819
              have f835 : Exa Z h826 b499 "java/lang/String" := Exa.ext E826 f820
              have f836 : Exa Z h826 b517 "java/util/ArrayList" := Exa.ext E826 f821
              have f837 : Fld Z h826 b517 "java/util/AbstractList" "modCount" "I" (.int (((((0 : Int32) + (1 : Int32)) + (1 : Int32)) + (1 : Int32)) + (1 : Int32))) := Fld.ext E826 f822
              have f838 : Fld Z h826 b517 "java/util/ArrayList" "elementData" "[Ljava/lang/Object;" (.ref b554) := Fld.ext E826 f823
              have f839 : Fld Z h826 b517 "java/util/ArrayList" "size" "I" (.int (4 : Int32)) := Fld.ext E826 f824
              have f840 : own_ArvR Z h826 b554 "java/lang/Object" (10 : Int32) [(.ref b454), (.ref b467), (.ref b482), (.ref b499), .null, .null, .null, .null, .null, .null] := f825.ext E826
              refine own_goW st826 ?_
              obtain ⟨b841, T841, h841, k841, X841, e841, E841, hS, hk841, hZ, hown, st841⟩ := ldcS (s := s) (vm0 := T826.vm) X826 hx hZ hown (hw _ (List.mem_of_getElem? (i := 86) rfl)) (own_strW (hw _ (List.mem_of_getElem? (i := 2) rfl)) (hw _ (List.mem_of_getElem? (i := 10) rfl)) (hw _ (List.mem_of_getElem? (i := 14) rfl)) (hw _ (List.mem_of_getElem? (i := 23) rfl)) (hw _ (List.mem_of_getElem? (i := 25) rfl)) (hw _ (List.mem_of_getElem? (i := 83) rfl)) (hw _ (List.mem_of_getElem? (i := 84) rfl))) e826 hS hk826 (g := (mkF m 165 #[.val (.int p0), .val (.int p1), .val (.int p2), .val (.int p3), .val (.int p4), .val (.int p5), .val (.int ((1 : Int32) + (p4 &&& (3 : Int32)))), .val (.ref b454), .val (.ref b467), .val (.ref b482), .val (.ref b499), .val (.ref b517), .val (.int ((p5 &&& (2147483647 : Int32)) % ((1 : Int32) + (p4 &&& (3 : Int32))))), .val (.ref b499), .unset] [(.ref b826), (.int ((p5 &&& (2147483647 : Int32)) % ((1 : Int32) + (p4 &&& (3 : Int32))))), (.ref b517), (.ref b811)])) rfl (hb hby at_165) (n := 28) (by decide) (by decide) (by decide) (by decide)
              have Z842 : n0 ≤ h841.size := Nat.le_trans Z827 E841.1
              have hk843 := Nat.le_trans hk826 E841.1
              have f844 : own_Len Z h841 w_s_DEFAULTCAPACITY_EMPTY_ELEMENTDATA (.object "java/lang/Object") (0 : Int32) := f829.ext E841
              have f845 : Sta Z h841 "java/lang/String" "COMPACT_STRINGS" "Z" (.int w_s_COMPACT_STRINGS) := Sta.ext E841 f830
              have f846 : Sta Z h841 "java/util/ArrayList" "DEFAULTCAPACITY_EMPTY_ELEMENTDATA" "[Ljava/lang/Object;" (.ref w_s_DEFAULTCAPACITY_EMPTY_ELEMENTDATA) := Sta.ext E841 f831
              have f847 : Exa Z h841 b454 "java/lang/String" := Exa.ext E841 f832
              have f848 : Exa Z h841 b467 "java/lang/String" := Exa.ext E841 f833
              have f849 : Exa Z h841 b482 "java/lang/String" := Exa.ext E841 f834
              have f850 : Exa Z h841 b499 "java/lang/String" := Exa.ext E841 f835
              have f851 : Exa Z h841 b517 "java/util/ArrayList" := Exa.ext E841 f836
              have f852 : Fld Z h841 b517 "java/util/AbstractList" "modCount" "I" (.int (((((0 : Int32) + (1 : Int32)) + (1 : Int32)) + (1 : Int32)) + (1 : Int32))) := Fld.ext E841 f837
              have f853 : Fld Z h841 b517 "java/util/ArrayList" "elementData" "[Ljava/lang/Object;" (.ref b554) := Fld.ext E841 f838
              have f854 : Fld Z h841 b517 "java/util/ArrayList" "size" "I" (.int (4 : Int32)) := Fld.ext E841 f839
              have f855 : own_ArvR Z h841 b554 "java/lang/Object" (10 : Int32) [(.ref b454), (.ref b467), (.ref b482), (.ref b499), .null, .null, .null, .null, .null, .null] := f840.ext E841
              refine own_goW st841 ?_
              have hf856 : ((p5 &&& (2147483647 : Int32)) % ((1 : Int32) + (p4 &&& (3 : Int32)))) = (3 : Int32) := own_at3 hc123 hc134 hc145
              rw [hf856]
              obtain ⟨_, _, ⟨T857, L857, kk857, nn857⟩, -, X857, ⟨Lc857, hQ857, l857, y857, z857⟩, st857⟩ := Jvm.LawKit.callS X841 hx (y := (⟨"com/example/scorebench/scorebench/OptionValue", "of", "(Ljava/lang/String;Ljava/util/List;ILjava/lang/String;Ljava/lang/String;)Ljava/lang/String;"⟩ : MethodName)) hown (mvT hZ (hw _ (List.mem_of_getElem? (i := 87) rfl))) (mvT hZ (hw _ (List.mem_of_getElem? (i := 88) rfl))) (mvT hZ (hw _ (List.mem_of_getElem? (i := 89) rfl))) (mvT hZ (hw _ (List.mem_of_getElem? (i := 90) rfl))) (by decide) (backOf (W := 0) (of3 l Z a0 hw [] b811 b517 b826 b841 (4 : Int32) b554 (.ref b454) (.ref b467) (.ref b482) b499 (.null) (.null) (.null) (.null) (.null) (.null) h841 n0 Z842 (by decide : (3 : Int32) < (4 : Int32)) f854 f851 (by decide : ¬ ((3 : Int32) = (4 : Int32))) f853 f855 f850) hZ (hw _ (List.mem_of_getElem? (i := 90) rfl)) (hw _ (List.mem_of_getElem? (i := 89) rfl)) (by decide) (by decide)) (g := (mkF m 167 #[.val (.int p0), .val (.int p1), .val (.int p2), .val (.int p3), .val (.int p4), .val (.int p5), .val (.int ((1 : Int32) + (p4 &&& (3 : Int32)))), .val (.ref b454), .val (.ref b467), .val (.ref b482), .val (.ref b499), .val (.ref b517), .val (.int (3 : Int32)), .val (.ref b499), .unset] [(.ref b841), (.ref b826), (.int (3 : Int32)), (.ref b517), (.ref b811)])) rfl (by rw [hml]; rfl) (argsL := [(.ref b811), (.ref b517), (.int (3 : Int32)), (.ref b826), (.ref b841)]) (rest := []) (lenOf pd_179 rfl) rfl (by show 2 * 0 + _ ≤ _; exact Nat.le_of_eq rfl) (hb hby at_167) (fun _ _ => ⟨rfl, e841, (by decide : 16 + 0 ≤ _), (by decide : 93 + 0 ≤ _)⟩)
              dsimp only [Pt.U, Pt.locs, Pt.cells, Pt.slots] at X857 l857 y857 z857 st857 hQ857
              subst l857 y857 z857
              obtain ⟨rfl, N858, e857⟩ := hQ857
              have N860 := Fr.app N626 N858
              refine own_goW st857 ?_
              refine own_goW (S' := T857.setTop (mkF m 181 #[.val (.int p0), .val (.int p1), .val (.int p2), .val (.int p3), .val (.int p4), .val (.int p5), .val (.int ((1 : Int32) + (p4 &&& (3 : Int32)))), .val (.ref b454), .val (.ref b467), .val (.ref b482), .val (.ref b499), .val (.ref b517), .val (.int (3 : Int32)), .val (.ref b499), .val (.ref b499)] [(.ref b499), (.ref b499)])) (fun t k => ?_) ?_
              · show Steps p.tables e below (T857.setTop (mkF m 170 #[.val (.int p0), .val (.int p1), .val (.int p2), .val (.int p3), .val (.int p4), .val (.int p5), .val (.int ((1 : Int32) + (p4 &&& (3 : Int32)))), .val (.ref b454), .val (.ref b467), .val (.ref b482), .val (.ref b499), .val (.ref b517), .val (.int (3 : Int32)), .val (.ref b499), .unset] [(.ref b499)])) t
                refine XS.astore X857.here hx rfl (hb hby at_170) rfl rfl (l' := #[.val (.int p0), .val (.int p1), .val (.int p2), .val (.int p3), .val (.int p4), .val (.int p5), .val (.int ((1 : Int32) + (p4 &&& (3 : Int32)))), .val (.ref b454), .val (.ref b467), .val (.ref b482), .val (.ref b499), .val (.ref b517), .val (.int (3 : Int32)), .val (.ref b499), .val (.ref b499)]) rfl ?_
                show Steps p.tables e below (T857.setTop (mkF m 172 #[.val (.int p0), .val (.int p1), .val (.int p2), .val (.int p3), .val (.int p4), .val (.int p5), .val (.int ((1 : Int32) + (p4 &&& (3 : Int32)))), .val (.ref b454), .val (.ref b467), .val (.ref b482), .val (.ref b499), .val (.ref b517), .val (.int (3 : Int32)), .val (.ref b499), .val (.ref b499)] [])) t
                refine XS.aload X857.here hx rfl (hb hby at_172) rfl rfl ?_
                show Steps p.tables e below (T857.setTop (mkF m 174 #[.val (.int p0), .val (.int p1), .val (.int p2), .val (.int p3), .val (.int p4), .val (.int p5), .val (.int ((1 : Int32) + (p4 &&& (3 : Int32)))), .val (.ref b454), .val (.ref b467), .val (.ref b482), .val (.ref b499), .val (.ref b517), .val (.int (3 : Int32)), .val (.ref b499), .val (.ref b499)] [(.ref b499)])) t
                refine XS.ifnullNo X857.here hx rfl (hb hby at_174) rfl ?_
                show Steps p.tables e below (T857.setTop (mkF m 177 #[.val (.int p0), .val (.int p1), .val (.int p2), .val (.int p3), .val (.int p4), .val (.int p5), .val (.int ((1 : Int32) + (p4 &&& (3 : Int32)))), .val (.ref b454), .val (.ref b467), .val (.ref b482), .val (.ref b499), .val (.ref b517), .val (.int (3 : Int32)), .val (.ref b499), .val (.ref b499)] [])) t
                refine XS.aload X857.here hx rfl (hb hby at_177) rfl rfl ?_
                show Steps p.tables e below (T857.setTop (mkF m 179 #[.val (.int p0), .val (.int p1), .val (.int p2), .val (.int p3), .val (.int p4), .val (.int p5), .val (.int ((1 : Int32) + (p4 &&& (3 : Int32)))), .val (.ref b454), .val (.ref b467), .val (.ref b482), .val (.ref b499), .val (.ref b517), .val (.int (3 : Int32)), .val (.ref b499), .val (.ref b499)] [(.ref b499)])) t
                refine XS.aload X857.here hx rfl (hb hby at_179) rfl rfl ?_
                exact k
              obtain ⟨cq861, kq861, qa861, qb861, qc861⟩ := isOf hZ e857 f850
              obtain ⟨_, _, ⟨T861, L861, kk861, nn861⟩, -, X861, ⟨Lc861, hQ861, l861, y861, z861⟩, st861⟩ := X857.virtualBack hx (y := (⟨"java/lang/String", "equals", "(Ljava/lang/Object;)Z"⟩ : MethodName)) (z := (⟨"java/lang/String", "equals", "(Ljava/lang/Object;)Z"⟩ : MethodName)) hown (mvT hZ (hw _ (List.mem_of_getElem? (i := 122) rfl))) (mvT hZ (hw _ (List.mem_of_getElem? (i := 123) rfl))) (notFace_of_selects (args := #[]) (mvT hZ (hw _ (List.mem_of_getElem? (i := 125) rfl)))) (mvT hZ (hw _ (List.mem_of_getElem? (i := 125) rfl))) (mvT hZ (hw _ (List.mem_of_getElem? (i := 124) rfl))) (by decide) (backOf (W := 0) (eqSame l Z a0 hw [] b499 b499 h841 n0 Z842 (rfl : b499 = b499)) hZ (hw _ (List.mem_of_getElem? (i := 126) rfl)) (hw _ (List.mem_of_getElem? (i := 2) rfl)) (by decide) (by decide)) qa861 qc861 (g := (mkF m 181 #[.val (.int p0), .val (.int p1), .val (.int p2), .val (.int p3), .val (.int p4), .val (.int p5), .val (.int ((1 : Int32) + (p4 &&& (3 : Int32)))), .val (.ref b454), .val (.ref b467), .val (.ref b482), .val (.ref b499), .val (.ref b517), .val (.int (3 : Int32)), .val (.ref b499), .val (.ref b499)] [(.ref b499), (.ref b499)])) rfl (by rw [hml]; rfl) (Steps.refl _) (argsL := [(.ref b499)]) (rest := []) (lenOf pd_178 rfl) rfl (by show 2 * 0 + _ ≤ _; exact Nat.le_of_eq rfl) (hb hby at_181) (fun _ _ => ⟨rfl, e857, (by decide : 16 + 0 ≤ _), (by decide : 93 + 0 ≤ _)⟩)
              dsimp only [Pt.U, Pt.locs, Pt.cells, Pt.slots] at X861 l861 y861 z861 st861 hQ861
              subst l861 y861 z861
              obtain ⟨rfl, N862, e861⟩ := hQ861
              have N864 := Fr.app N860 N862
              refine own_goTW st861 ?_
              refine own_goW (S' := T861.setTop (mkF m 189 #[.val (.int p0), .val (.int p1), .val (.int p2), .val (.int p3), .val (.int p4), .val (.int p5), .val (.int ((1 : Int32) + (p4 &&& (3 : Int32)))), .val (.ref b454), .val (.ref b467), .val (.ref b482), .val (.ref b499), .val (.ref b517), .val (.int (3 : Int32)), .val (.ref b499), .val (.ref b499)] [(.ref b517)])) (fun t k => ?_) ?_
              · show Steps p.tables e below (T861.setTop (mkF m 184 #[.val (.int p0), .val (.int p1), .val (.int p2), .val (.int p3), .val (.int p4), .val (.int p5), .val (.int ((1 : Int32) + (p4 &&& (3 : Int32)))), .val (.ref b454), .val (.ref b467), .val (.ref b482), .val (.ref b499), .val (.ref b517), .val (.int (3 : Int32)), .val (.ref b499), .val (.ref b499)] [(.int (1 : Int32))])) t
                refine XS.ifNo X861.here hx rfl (hb hby at_184) rfl ((if0 _ _).trans (feq (by decide)).1) ?_
                show Steps p.tables e below (T861.setTop (mkF m 187 #[.val (.int p0), .val (.int p1), .val (.int p2), .val (.int p3), .val (.int p4), .val (.int p5), .val (.int ((1 : Int32) + (p4 &&& (3 : Int32)))), .val (.ref b454), .val (.ref b467), .val (.ref b482), .val (.ref b499), .val (.ref b517), .val (.int (3 : Int32)), .val (.ref b499), .val (.ref b499)] [])) t
                refine XS.aload X861.here hx rfl (hb hby at_187) rfl rfl ?_
                exact k
              obtain ⟨cq865, kq865, qa865, qb865, qc865⟩ := isOf hZ e861 f851
              obtain ⟨_, _, ⟨T865, L865, kk865, nn865⟩, -, X865, ⟨Lc865, hQ865, l865, y865, z865⟩, st865⟩ := X861.virtualBack hx (y := (⟨"java/util/ArrayList", "size", "()I"⟩ : MethodName)) (z := (⟨"java/util/ArrayList", "size", "()I"⟩ : MethodName)) hown (mvT hZ (hw _ (List.mem_of_getElem? (i := 127) rfl))) (mvT hZ (hw _ (List.mem_of_getElem? (i := 128) rfl))) (notFace_of_selects (args := #[]) (mvT hZ (hw _ (List.mem_of_getElem? (i := 129) rfl)))) (mvT hZ (hw _ (List.mem_of_getElem? (i := 129) rfl))) (mvT hZ (hw _ (List.mem_of_getElem? (i := 95) rfl))) (by decide) (backOf (W := 0) (alSize l Z a0 hw [] b517 (4 : Int32) h841 n0 Z842 f854) hZ (hw _ (List.mem_of_getElem? (i := 99) rfl)) (hw _ (List.mem_of_getElem? (i := 28) rfl)) (by decide) (by decide)) qa865 qc865 (g := (mkF m 189 #[.val (.int p0), .val (.int p1), .val (.int p2), .val (.int p3), .val (.int p4), .val (.int p5), .val (.int ((1 : Int32) + (p4 &&& (3 : Int32)))), .val (.ref b454), .val (.ref b467), .val (.ref b482), .val (.ref b499), .val (.ref b517), .val (.int (3 : Int32)), .val (.ref b499), .val (.ref b499)] [(.ref b517)])) rfl (by rw [hml]; rfl) (Steps.refl _) (argsL := []) (rest := []) (lenOf pd_164 rfl) rfl (by show 2 * 0 + _ ≤ _; exact Nat.le_of_eq rfl) (hb hby at_189) (fun _ _ => ⟨rfl, e861, (by decide : 16 + 0 ≤ _), (by decide : 93 + 0 ≤ _)⟩)
              dsimp only [Pt.U, Pt.locs, Pt.cells, Pt.slots] at X865 l865 y865 z865 st865 hQ865
              subst l865 y865 z865
              obtain ⟨rfl, N866, e865⟩ := hQ865
              have N868 := Fr.app N864 N866
              refine own_goTW st865 ?_
              refine own_goW (S' := T865.setTop (mkF m 194 #[.val (.int p0), .val (.int p1), .val (.int p2), .val (.int p3), .val (.int p4), .val (.int p5), .val (.int ((1 : Int32) + (p4 &&& (3 : Int32)))), .val (.ref b454), .val (.ref b467), .val (.ref b482), .val (.ref b499), .val (.ref b517), .val (.int (3 : Int32)), .val (.ref b499), .val (.ref b499)] [(.int ((1 : Int32) + (p4 &&& (3 : Int32)))), (.int (4 : Int32))])) (fun t k => ?_) ?_
              · show Steps p.tables e below (T865.setTop (mkF m 192 #[.val (.int p0), .val (.int p1), .val (.int p2), .val (.int p3), .val (.int p4), .val (.int p5), .val (.int ((1 : Int32) + (p4 &&& (3 : Int32)))), .val (.ref b454), .val (.ref b467), .val (.ref b482), .val (.ref b499), .val (.ref b517), .val (.int (3 : Int32)), .val (.ref b499), .val (.ref b499)] [(.int (4 : Int32))])) t
                refine XS.iload X865.here hx rfl (hb hby at_192) rfl ?_
                exact k
              refine own_goW (S' := T865.setTop (mkF m 202 #[.val (.int p0), .val (.int p1), .val (.int p2), .val (.int p3), .val (.int p4), .val (.int p5), .val (.int ((1 : Int32) + (p4 &&& (3 : Int32)))), .val (.ref b454), .val (.ref b467), .val (.ref b482), .val (.ref b499), .val (.ref b517), .val (.int (3 : Int32)), .val (.ref b499), .val (.ref b499)] [(.int (if (4 : Int32) = ((1 : Int32) + (p4 &&& (3 : Int32))) then (1 : Int32) else (0 : Int32)))])) (fun t k => ?_) ?_
              · show Steps p.tables e below (T865.setTop (mkF m 194 #[.val (.int p0), .val (.int p1), .val (.int p2), .val (.int p3), .val (.int p4), .val (.int p5), .val (.int ((1 : Int32) + (p4 &&& (3 : Int32)))), .val (.ref b454), .val (.ref b467), .val (.ref b482), .val (.ref b499), .val (.ref b517), .val (.int (3 : Int32)), .val (.ref b499), .val (.ref b499)] [(.int ((1 : Int32) + (p4 &&& (3 : Int32)))), (.int (4 : Int32))])) t
                by_cases hc194 : (4 : Int32) = ((1 : Int32) + (p4 &&& (3 : Int32)))
                · show Steps p.tables e below (T865.setTop (mkF m 194 #[.val (.int p0), .val (.int p1), .val (.int p2), .val (.int p3), .val (.int p4), .val (.int p5), .val (.int ((1 : Int32) + (p4 &&& (3 : Int32)))), .val (.ref b454), .val (.ref b467), .val (.ref b482), .val (.ref b499), .val (.ref b517), .val (.int (3 : Int32)), .val (.ref b499), .val (.ref b499)] [(.int ((1 : Int32) + (p4 &&& (3 : Int32)))), (.int (4 : Int32))])) t
                  refine XS.icmpNo X865.here hx rfl (hb hby at_194) rfl (teq hc194).2 ?_
                  show Steps p.tables e below (T865.setTop (mkF m 197 #[.val (.int p0), .val (.int p1), .val (.int p2), .val (.int p3), .val (.int p4), .val (.int p5), .val (.int ((1 : Int32) + (p4 &&& (3 : Int32)))), .val (.ref b454), .val (.ref b467), .val (.ref b482), .val (.ref b499), .val (.ref b517), .val (.int (3 : Int32)), .val (.ref b499), .val (.ref b499)] [])) t
                  refine XS.iconst X865.here hx rfl (hb hby at_197) ?_
                  show Steps p.tables e below (T865.setTop (mkF m 198 #[.val (.int p0), .val (.int p1), .val (.int p2), .val (.int p3), .val (.int p4), .val (.int p5), .val (.int ((1 : Int32) + (p4 &&& (3 : Int32)))), .val (.ref b454), .val (.ref b467), .val (.ref b482), .val (.ref b499), .val (.ref b517), .val (.int (3 : Int32)), .val (.ref b499), .val (.ref b499)] [(.int (1 : Int32))])) t
                  refine XS.goto X865.here hx rfl (pc0 := 198) (pc' := 202) rfl (hb hby at_198) (by decide) (by decide) ?_
                  first | exact k | (simp only [if_pos hc194] at k ⊢; exact k)
                · show Steps p.tables e below (T865.setTop (mkF m 194 #[.val (.int p0), .val (.int p1), .val (.int p2), .val (.int p3), .val (.int p4), .val (.int p5), .val (.int ((1 : Int32) + (p4 &&& (3 : Int32)))), .val (.ref b454), .val (.ref b467), .val (.ref b482), .val (.ref b499), .val (.ref b517), .val (.int (3 : Int32)), .val (.ref b499), .val (.ref b499)] [(.int ((1 : Int32) + (p4 &&& (3 : Int32)))), (.int (4 : Int32))])) t
                  refine XS.icmpYes X865.here hx rfl (pc0 := 194) (pc' := 201) rfl (hb hby at_194) rfl (feq hc194).2 (by decide) (by decide) ?_
                  show Steps p.tables e below (T865.setTop (mkF m 201 #[.val (.int p0), .val (.int p1), .val (.int p2), .val (.int p3), .val (.int p4), .val (.int p5), .val (.int ((1 : Int32) + (p4 &&& (3 : Int32)))), .val (.ref b454), .val (.ref b467), .val (.ref b482), .val (.ref b499), .val (.ref b517), .val (.int (3 : Int32)), .val (.ref b499), .val (.ref b499)] [])) t
                  refine XS.iconst X865.here hx rfl (hb hby at_201) ?_
                  first | exact k | (simp only [if_neg hc194] at k ⊢; exact k)
              have hfin : (if (4 : Int32) = ((1 : Int32) + (p4 &&& (3 : Int32))) then (1 : Int32) else (0 : Int32)) = (1 : Int32) := if_pos (own_sz hc100 (own_hi p4) (by decide))
              rw [hfin]
              obtain ⟨fs, hr, hrun, hended, hW, hsame⟩ := X865.leave (v := some (.int (1 : Int32))) (fun h => by rw [Bd.returns] at h; cases h)
              refine own_endW (v := some (.int (1 : Int32))) ?_ hrun hended ?_ (hS.ended hW (by show _ ≤ T865.heap.size; rw [e865]; exact hk841) hsame) (by decide) (by decide)
              · show Steps p.tables e below (T865.setTop (mkF m 202 #[.val (.int p0), .val (.int p1), .val (.int p2), .val (.int p3), .val (.int p4), .val (.int p5), .val (.int ((1 : Int32) + (p4 &&& (3 : Int32)))), .val (.ref b454), .val (.ref b467), .val (.ref b482), .val (.ref b499), .val (.ref b517), .val (.int (3 : Int32)), .val (.ref b499), .val (.ref b499)] [(.int (1 : Int32))])) _
                exact retN X865 hx (t := .boolean) Bd.returns (by simp) (hb hby at_202) hr
              · show Qrm0 Z p0 p1 p2 p3 p4 p5 w_s_COMPACT_STRINGS w_s_DEFAULTCAPACITY_EMPTY_ELEMENTDATA h0 n0 _ T865.heap _
                rw [e865]
                exact ⟨rfl, N868⟩
      · skip
        refine own_goW (S' := T599.setTop (mkF m 123 #[.val (.int p0), .val (.int p1), .val (.int p2), .val (.int p3), .val (.int p4), .val (.int p5), .val (.int ((1 : Int32) + (p4 &&& (3 : Int32)))), .val (.ref b454), .val (.ref b467), .val (.ref b482), .val (.ref b499), .val (.ref b517), .val (.int ((p5 &&& (2147483647 : Int32)) % ((1 : Int32) + (p4 &&& (3 : Int32))))), .unset, .unset] [(.int ((p5 &&& (2147483647 : Int32)) % ((1 : Int32) + (p4 &&& (3 : Int32)))))])) (fun t k => ?_) ?_
        · show Steps p.tables e below (T599.setTop (mkF m 100 #[.val (.int p0), .val (.int p1), .val (.int p2), .val (.int p3), .val (.int p4), .val (.int p5), .val (.int ((1 : Int32) + (p4 &&& (3 : Int32)))), .val (.ref b454), .val (.ref b467), .val (.ref b482), .val (.ref b499), .val (.ref b517), .unset, .unset, .unset] [(.int (3 : Int32)), (.int ((1 : Int32) + (p4 &&& (3 : Int32))))])) t
          refine XS.icmpYes X599.here hx rfl (pc0 := 100) (pc' := 111) rfl (hb hby at_100) rfl (flt hc100).2.2.2 (by decide) (by decide) ?_
          show Steps p.tables e below (T599.setTop (mkF m 111 #[.val (.int p0), .val (.int p1), .val (.int p2), .val (.int p3), .val (.int p4), .val (.int p5), .val (.int ((1 : Int32) + (p4 &&& (3 : Int32)))), .val (.ref b454), .val (.ref b467), .val (.ref b482), .val (.ref b499), .val (.ref b517), .unset, .unset, .unset] [])) t
          refine XS.iload X599.here hx rfl (hb hby at_111) rfl ?_
          show Steps p.tables e below (T599.setTop (mkF m 113 #[.val (.int p0), .val (.int p1), .val (.int p2), .val (.int p3), .val (.int p4), .val (.int p5), .val (.int ((1 : Int32) + (p4 &&& (3 : Int32)))), .val (.ref b454), .val (.ref b467), .val (.ref b482), .val (.ref b499), .val (.ref b517), .unset, .unset, .unset] [(.int p5)])) t
          refine X599.ldcInt hx hown (mvT hZ (hw _ (List.mem_of_getElem? (i := 81) rfl))) (g := (mkF m 113 #[.val (.int p0), .val (.int p1), .val (.int p2), .val (.int p3), .val (.int p4), .val (.int p5), .val (.int ((1 : Int32) + (p4 &&& (3 : Int32)))), .val (.ref b454), .val (.ref b467), .val (.ref b482), .val (.ref b499), .val (.ref b517), .unset, .unset, .unset] [(.int p5)])) rfl (hb hby at_113) _ ?_
          show Steps p.tables e below (T599.setTop (mkF m 115 #[.val (.int p0), .val (.int p1), .val (.int p2), .val (.int p3), .val (.int p4), .val (.int p5), .val (.int ((1 : Int32) + (p4 &&& (3 : Int32)))), .val (.ref b454), .val (.ref b467), .val (.ref b482), .val (.ref b499), .val (.ref b517), .unset, .unset, .unset] [(.int (2147483647 : Int32)), (.int p5)])) t
          refine XS.iand X599.here hx rfl (hb hby at_115) rfl ?_
          show Steps p.tables e below (T599.setTop (mkF m 116 #[.val (.int p0), .val (.int p1), .val (.int p2), .val (.int p3), .val (.int p4), .val (.int p5), .val (.int ((1 : Int32) + (p4 &&& (3 : Int32)))), .val (.ref b454), .val (.ref b467), .val (.ref b482), .val (.ref b499), .val (.ref b517), .unset, .unset, .unset] [(.int (p5 &&& (2147483647 : Int32)))])) t
          refine XS.iload X599.here hx rfl (hb hby at_116) rfl ?_
          show Steps p.tables e below (T599.setTop (mkF m 118 #[.val (.int p0), .val (.int p1), .val (.int p2), .val (.int p3), .val (.int p4), .val (.int p5), .val (.int ((1 : Int32) + (p4 &&& (3 : Int32)))), .val (.ref b454), .val (.ref b467), .val (.ref b482), .val (.ref b499), .val (.ref b517), .unset, .unset, .unset] [(.int ((1 : Int32) + (p4 &&& (3 : Int32)))), (.int (p5 &&& (2147483647 : Int32)))])) t
          refine iremM X599 hx rfl (hb hby at_118) rfl (own_nz p4) ?_
          show Steps p.tables e below (T599.setTop (mkF m 119 #[.val (.int p0), .val (.int p1), .val (.int p2), .val (.int p3), .val (.int p4), .val (.int p5), .val (.int ((1 : Int32) + (p4 &&& (3 : Int32)))), .val (.ref b454), .val (.ref b467), .val (.ref b482), .val (.ref b499), .val (.ref b517), .unset, .unset, .unset] [(.int ((p5 &&& (2147483647 : Int32)) % ((1 : Int32) + (p4 &&& (3 : Int32)))))])) t
          refine XS.istore X599.here hx rfl (hb hby at_119) rfl (l' := #[.val (.int p0), .val (.int p1), .val (.int p2), .val (.int p3), .val (.int p4), .val (.int p5), .val (.int ((1 : Int32) + (p4 &&& (3 : Int32)))), .val (.ref b454), .val (.ref b467), .val (.ref b482), .val (.ref b499), .val (.ref b517), .val (.int ((p5 &&& (2147483647 : Int32)) % ((1 : Int32) + (p4 &&& (3 : Int32))))), .unset, .unset]) rfl ?_
          show Steps p.tables e below (T599.setTop (mkF m 121 #[.val (.int p0), .val (.int p1), .val (.int p2), .val (.int p3), .val (.int p4), .val (.int p5), .val (.int ((1 : Int32) + (p4 &&& (3 : Int32)))), .val (.ref b454), .val (.ref b467), .val (.ref b482), .val (.ref b499), .val (.ref b517), .val (.int ((p5 &&& (2147483647 : Int32)) % ((1 : Int32) + (p4 &&& (3 : Int32))))), .unset, .unset] [])) t
          refine XS.iload X599.here hx rfl (hb hby at_121) rfl ?_
          exact k
        by_cases hc123 : ((p5 &&& (2147483647 : Int32)) % ((1 : Int32) + (p4 &&& (3 : Int32)))) = (0 : Int32)
        · skip
          refine own_goW (S' := T599.setTop (mkF m 157 #[.val (.int p0), .val (.int p1), .val (.int p2), .val (.int p3), .val (.int p4), .val (.int p5), .val (.int ((1 : Int32) + (p4 &&& (3 : Int32)))), .val (.ref b454), .val (.ref b467), .val (.ref b482), .val (.ref b499), .val (.ref b517), .val (.int ((p5 &&& (2147483647 : Int32)) % ((1 : Int32) + (p4 &&& (3 : Int32))))), .val (.ref b454), .unset] [])) (fun t k => ?_) ?_
          · show Steps p.tables e below (T599.setTop (mkF m 123 #[.val (.int p0), .val (.int p1), .val (.int p2), .val (.int p3), .val (.int p4), .val (.int p5), .val (.int ((1 : Int32) + (p4 &&& (3 : Int32)))), .val (.ref b454), .val (.ref b467), .val (.ref b482), .val (.ref b499), .val (.ref b517), .val (.int ((p5 &&& (2147483647 : Int32)) % ((1 : Int32) + (p4 &&& (3 : Int32))))), .unset, .unset] [(.int ((p5 &&& (2147483647 : Int32)) % ((1 : Int32) + (p4 &&& (3 : Int32)))))])) t
            refine XS.ifNo X599.here hx rfl (hb hby at_123) rfl ((if0 _ _).trans (teq hc123).2) ?_
            show Steps p.tables e below (T599.setTop (mkF m 126 #[.val (.int p0), .val (.int p1), .val (.int p2), .val (.int p3), .val (.int p4), .val (.int p5), .val (.int ((1 : Int32) + (p4 &&& (3 : Int32)))), .val (.ref b454), .val (.ref b467), .val (.ref b482), .val (.ref b499), .val (.ref b517), .val (.int ((p5 &&& (2147483647 : Int32)) % ((1 : Int32) + (p4 &&& (3 : Int32))))), .unset, .unset] [])) t
            refine XS.aload X599.here hx rfl (hb hby at_126) rfl rfl ?_
            show Steps p.tables e below (T599.setTop (mkF m 128 #[.val (.int p0), .val (.int p1), .val (.int p2), .val (.int p3), .val (.int p4), .val (.int p5), .val (.int ((1 : Int32) + (p4 &&& (3 : Int32)))), .val (.ref b454), .val (.ref b467), .val (.ref b482), .val (.ref b499), .val (.ref b517), .val (.int ((p5 &&& (2147483647 : Int32)) % ((1 : Int32) + (p4 &&& (3 : Int32))))), .unset, .unset] [(.ref b454)])) t
            refine XS.goto X599.here hx rfl (pc0 := 128) (pc' := 155) rfl (hb hby at_128) (by decide) (by decide) ?_
            show Steps p.tables e below (T599.setTop (mkF m 155 #[.val (.int p0), .val (.int p1), .val (.int p2), .val (.int p3), .val (.int p4), .val (.int p5), .val (.int ((1 : Int32) + (p4 &&& (3 : Int32)))), .val (.ref b454), .val (.ref b467), .val (.ref b482), .val (.ref b499), .val (.ref b517), .val (.int ((p5 &&& (2147483647 : Int32)) % ((1 : Int32) + (p4 &&& (3 : Int32))))), .unset, .unset] [(.ref b454)])) t
            refine XS.astore X599.here hx rfl (hb hby at_155) rfl rfl (l' := #[.val (.int p0), .val (.int p1), .val (.int p2), .val (.int p3), .val (.int p4), .val (.int p5), .val (.int ((1 : Int32) + (p4 &&& (3 : Int32)))), .val (.ref b454), .val (.ref b467), .val (.ref b482), .val (.ref b499), .val (.ref b517), .val (.int ((p5 &&& (2147483647 : Int32)) % ((1 : Int32) + (p4 &&& (3 : Int32))))), .val (.ref b454), .unset]) rfl ?_
            exact k
          obtain ⟨b869, T869, h869, k869, X869, e869, E869, hS, hk869, hZ, hown, st869⟩ := ldcS (s := s) (vm0 := s.vm) X599 hx hZ hown (hw _ (List.mem_of_getElem? (i := 82) rfl)) (own_strW (hw _ (List.mem_of_getElem? (i := 2) rfl)) (hw _ (List.mem_of_getElem? (i := 10) rfl)) (hw _ (List.mem_of_getElem? (i := 14) rfl)) (hw _ (List.mem_of_getElem? (i := 23) rfl)) (hw _ (List.mem_of_getElem? (i := 25) rfl)) (hw _ (List.mem_of_getElem? (i := 83) rfl)) (hw _ (List.mem_of_getElem? (i := 84) rfl))) rfl hS hk617 (g := (mkF m 157 #[.val (.int p0), .val (.int p1), .val (.int p2), .val (.int p3), .val (.int p4), .val (.int p5), .val (.int ((1 : Int32) + (p4 &&& (3 : Int32)))), .val (.ref b454), .val (.ref b467), .val (.ref b482), .val (.ref b499), .val (.ref b517), .val (.int ((p5 &&& (2147483647 : Int32)) % ((1 : Int32) + (p4 &&& (3 : Int32))))), .val (.ref b454), .unset] [])) rfl (hb hby at_157) (n := 12) (by decide) (by decide) (by decide) (by decide)
          have Z870 : n0 ≤ h869.size := Nat.le_trans Z616 E869.1
          have hk871 := Nat.le_trans hk617 E869.1
          have f872 : own_Len Z h869 w_s_DEFAULTCAPACITY_EMPTY_ELEMENTDATA (.object "java/lang/Object") (0 : Int32) := f608.ext E869
          have f873 : Sta Z h869 "java/lang/String" "COMPACT_STRINGS" "Z" (.int w_s_COMPACT_STRINGS) := Sta.ext E869 f609
          have f874 : Sta Z h869 "java/util/ArrayList" "DEFAULTCAPACITY_EMPTY_ELEMENTDATA" "[Ljava/lang/Object;" (.ref w_s_DEFAULTCAPACITY_EMPTY_ELEMENTDATA) := Sta.ext E869 f610
          have f875 : Exa Z h869 b454 "java/lang/String" := Exa.ext E869 f611
          have f876 : Exa Z h869 b467 "java/lang/String" := Exa.ext E869 f612
          have f877 : Exa Z h869 b482 "java/lang/String" := Exa.ext E869 f613
          have f878 : Exa Z h869 b499 "java/lang/String" := Exa.ext E869 f614
          have f879 : Exa Z h869 b517 "java/util/ArrayList" := Exa.ext E869 p602
          have f880 : Fld Z h869 b517 "java/util/AbstractList" "modCount" "I" (.int ((((0 : Int32) + (1 : Int32)) + (1 : Int32)) + (1 : Int32))) := Fld.ext E869 p603
          have f881 : Fld Z h869 b517 "java/util/ArrayList" "elementData" "[Ljava/lang/Object;" (.ref b554) := Fld.ext E869 p604
          have f882 : Fld Z h869 b517 "java/util/ArrayList" "size" "I" (.int (3 : Int32)) := Fld.ext E869 p605
          have f883 : own_ArvR Z h869 b554 "java/lang/Object" (10 : Int32) [(.ref b454), (.ref b467), (.ref b482), .null, .null, .null, .null, .null, .null, .null] := p606.ext E869
          refine own_goW st869 ?_
          refine own_goW (S' := T869.setTop (mkF m 163 #[.val (.int p0), .val (.int p1), .val (.int p2), .val (.int p3), .val (.int p4), .val (.int p5), .val (.int ((1 : Int32) + (p4 &&& (3 : Int32)))), .val (.ref b454), .val (.ref b467), .val (.ref b482), .val (.ref b499), .val (.ref b517), .val (.int ((p5 &&& (2147483647 : Int32)) % ((1 : Int32) + (p4 &&& (3 : Int32))))), .val (.ref b454), .unset] [(.int ((p5 &&& (2147483647 : Int32)) % ((1 : Int32) + (p4 &&& (3 : Int32))))), (.ref b517), (.ref b869)])) (fun t k => ?_) ?_
          · show Steps p.tables e below (T869.setTop (mkF m 159 #[.val (.int p0), .val (.int p1), .val (.int p2), .val (.int p3), .val (.int p4), .val (.int p5), .val (.int ((1 : Int32) + (p4 &&& (3 : Int32)))), .val (.ref b454), .val (.ref b467), .val (.ref b482), .val (.ref b499), .val (.ref b517), .val (.int ((p5 &&& (2147483647 : Int32)) % ((1 : Int32) + (p4 &&& (3 : Int32))))), .val (.ref b454), .unset] [(.ref b869)])) t
            refine XS.aload X869.here hx rfl (hb hby at_159) rfl rfl ?_
            show Steps p.tables e below (T869.setTop (mkF m 161 #[.val (.int p0), .val (.int p1), .val (.int p2), .val (.int p3), .val (.int p4), .val (.int p5), .val (.int ((1 : Int32) + (p4 &&& (3 : Int32)))), .val (.ref b454), .val (.ref b467), .val (.ref b482), .val (.ref b499), .val (.ref b517), .val (.int ((p5 &&& (2147483647 : Int32)) % ((1 : Int32) + (p4 &&& (3 : Int32))))), .val (.ref b454), .unset] [(.ref b517), (.ref b869)])) t
            refine XS.iload X869.here hx rfl (hb hby at_161) rfl ?_
            exact k
          obtain ⟨b884, T884, h884, k884, X884, e884, E884, hS, hk884, hZ, hown, st884⟩ := ldcS (s := s) (vm0 := T869.vm) X869 hx hZ hown (hw _ (List.mem_of_getElem? (i := 85) rfl)) (own_strW (hw _ (List.mem_of_getElem? (i := 2) rfl)) (hw _ (List.mem_of_getElem? (i := 10) rfl)) (hw _ (List.mem_of_getElem? (i := 14) rfl)) (hw _ (List.mem_of_getElem? (i := 23) rfl)) (hw _ (List.mem_of_getElem? (i := 25) rfl)) (hw _ (List.mem_of_getElem? (i := 83) rfl)) (hw _ (List.mem_of_getElem? (i := 84) rfl))) e869 hS hk869 (g := (mkF m 163 #[.val (.int p0), .val (.int p1), .val (.int p2), .val (.int p3), .val (.int p4), .val (.int p5), .val (.int ((1 : Int32) + (p4 &&& (3 : Int32)))), .val (.ref b454), .val (.ref b467), .val (.ref b482), .val (.ref b499), .val (.ref b517), .val (.int ((p5 &&& (2147483647 : Int32)) % ((1 : Int32) + (p4 &&& (3 : Int32))))), .val (.ref b454), .unset] [(.int ((p5 &&& (2147483647 : Int32)) % ((1 : Int32) + (p4 &&& (3 : Int32))))), (.ref b517), (.ref b869)])) rfl (hb hby at_163) (n := 8) (by decide) (by decide) (by decide) (by decide)
          have Z885 : n0 ≤ h884.size := Nat.le_trans Z870 E884.1
          have hk886 := Nat.le_trans hk869 E884.1
          have f887 : own_Len Z h884 w_s_DEFAULTCAPACITY_EMPTY_ELEMENTDATA (.object "java/lang/Object") (0 : Int32) := f872.ext E884
          have f888 : Sta Z h884 "java/lang/String" "COMPACT_STRINGS" "Z" (.int w_s_COMPACT_STRINGS) := Sta.ext E884 f873
          have f889 : Sta Z h884 "java/util/ArrayList" "DEFAULTCAPACITY_EMPTY_ELEMENTDATA" "[Ljava/lang/Object;" (.ref w_s_DEFAULTCAPACITY_EMPTY_ELEMENTDATA) := Sta.ext E884 f874
          have f890 : Exa Z h884 b454 "java/lang/String" := Exa.ext E884 f875
          have f891 : Exa Z h884 b467 "java/lang/String" := Exa.ext E884 f876
          have f892 : Exa Z h884 b482 "java/lang/String" := Exa.ext E884 f877
          have f893 : Exa Z h884 b499 "java/lang/String" := Exa.ext E884 f878
          have f894 : Exa Z h884 b517 "java/util/ArrayList" := Exa.ext E884 f879
          have f895 : Fld Z h884 b517 "java/util/AbstractList" "modCount" "I" (.int ((((0 : Int32) + (1 : Int32)) + (1 : Int32)) + (1 : Int32))) := Fld.ext E884 f880
          have f896 : Fld Z h884 b517 "java/util/ArrayList" "elementData" "[Ljava/lang/Object;" (.ref b554) := Fld.ext E884 f881
          have f897 : Fld Z h884 b517 "java/util/ArrayList" "size" "I" (.int (3 : Int32)) := Fld.ext E884 f882
          have f898 : own_ArvR Z h884 b554 "java/lang/Object" (10 : Int32) [(.ref b454), (.ref b467), (.ref b482), .null, .null, .null, .null, .null, .null, .null] := f883.ext E884
          refine own_goW st884 ?_
          obtain ⟨b899, T899, h899, k899, X899, e899, E899, hS, hk899, hZ, hown, st899⟩ := ldcS (s := s) (vm0 := T884.vm) X884 hx hZ hown (hw _ (List.mem_of_getElem? (i := 86) rfl)) (own_strW (hw _ (List.mem_of_getElem? (i := 2) rfl)) (hw _ (List.mem_of_getElem? (i := 10) rfl)) (hw _ (List.mem_of_getElem? (i := 14) rfl)) (hw _ (List.mem_of_getElem? (i := 23) rfl)) (hw _ (List.mem_of_getElem? (i := 25) rfl)) (hw _ (List.mem_of_getElem? (i := 83) rfl)) (hw _ (List.mem_of_getElem? (i := 84) rfl))) e884 hS hk884 (g := (mkF m 165 #[.val (.int p0), .val (.int p1), .val (.int p2), .val (.int p3), .val (.int p4), .val (.int p5), .val (.int ((1 : Int32) + (p4 &&& (3 : Int32)))), .val (.ref b454), .val (.ref b467), .val (.ref b482), .val (.ref b499), .val (.ref b517), .val (.int ((p5 &&& (2147483647 : Int32)) % ((1 : Int32) + (p4 &&& (3 : Int32))))), .val (.ref b454), .unset] [(.ref b884), (.int ((p5 &&& (2147483647 : Int32)) % ((1 : Int32) + (p4 &&& (3 : Int32))))), (.ref b517), (.ref b869)])) rfl (hb hby at_165) (n := 28) (by decide) (by decide) (by decide) (by decide)
          have Z900 : n0 ≤ h899.size := Nat.le_trans Z885 E899.1
          have hk901 := Nat.le_trans hk884 E899.1
          have f902 : own_Len Z h899 w_s_DEFAULTCAPACITY_EMPTY_ELEMENTDATA (.object "java/lang/Object") (0 : Int32) := f887.ext E899
          have f903 : Sta Z h899 "java/lang/String" "COMPACT_STRINGS" "Z" (.int w_s_COMPACT_STRINGS) := Sta.ext E899 f888
          have f904 : Sta Z h899 "java/util/ArrayList" "DEFAULTCAPACITY_EMPTY_ELEMENTDATA" "[Ljava/lang/Object;" (.ref w_s_DEFAULTCAPACITY_EMPTY_ELEMENTDATA) := Sta.ext E899 f889
          have f905 : Exa Z h899 b454 "java/lang/String" := Exa.ext E899 f890
          have f906 : Exa Z h899 b467 "java/lang/String" := Exa.ext E899 f891
          have f907 : Exa Z h899 b482 "java/lang/String" := Exa.ext E899 f892
          have f908 : Exa Z h899 b499 "java/lang/String" := Exa.ext E899 f893
          have f909 : Exa Z h899 b517 "java/util/ArrayList" := Exa.ext E899 f894
          have f910 : Fld Z h899 b517 "java/util/AbstractList" "modCount" "I" (.int ((((0 : Int32) + (1 : Int32)) + (1 : Int32)) + (1 : Int32))) := Fld.ext E899 f895
          have f911 : Fld Z h899 b517 "java/util/ArrayList" "elementData" "[Ljava/lang/Object;" (.ref b554) := Fld.ext E899 f896
          have f912 : Fld Z h899 b517 "java/util/ArrayList" "size" "I" (.int (3 : Int32)) := Fld.ext E899 f897
          have f913 : own_ArvR Z h899 b554 "java/lang/Object" (10 : Int32) [(.ref b454), (.ref b467), (.ref b482), .null, .null, .null, .null, .null, .null, .null] := f898.ext E899
          refine own_goW st899 ?_
          have hf914 : ((p5 &&& (2147483647 : Int32)) % ((1 : Int32) + (p4 &&& (3 : Int32)))) = (0 : Int32) := hc123
          rw [hf914]
          obtain ⟨_, _, ⟨T915, L915, kk915, nn915⟩, -, X915, ⟨Lc915, hQ915, l915, y915, z915⟩, st915⟩ := Jvm.LawKit.callS X899 hx (y := (⟨"com/example/scorebench/scorebench/OptionValue", "of", "(Ljava/lang/String;Ljava/util/List;ILjava/lang/String;Ljava/lang/String;)Ljava/lang/String;"⟩ : MethodName)) hown (mvT hZ (hw _ (List.mem_of_getElem? (i := 87) rfl))) (mvT hZ (hw _ (List.mem_of_getElem? (i := 88) rfl))) (mvT hZ (hw _ (List.mem_of_getElem? (i := 89) rfl))) (mvT hZ (hw _ (List.mem_of_getElem? (i := 90) rfl))) (by decide) (backOf (W := 0) (of0 l Z a0 hw [] b869 b517 b884 b899 (3 : Int32) b554 b454 (.ref b467) (.ref b482) (.null) (.null) (.null) (.null) (.null) (.null) (.null) h899 n0 Z900 (by decide : (0 : Int32) < (3 : Int32)) f912 f909 (by decide : ¬ ((0 : Int32) = (3 : Int32))) f911 f913 f905) hZ (hw _ (List.mem_of_getElem? (i := 90) rfl)) (hw _ (List.mem_of_getElem? (i := 89) rfl)) (by decide) (by decide)) (g := (mkF m 167 #[.val (.int p0), .val (.int p1), .val (.int p2), .val (.int p3), .val (.int p4), .val (.int p5), .val (.int ((1 : Int32) + (p4 &&& (3 : Int32)))), .val (.ref b454), .val (.ref b467), .val (.ref b482), .val (.ref b499), .val (.ref b517), .val (.int (0 : Int32)), .val (.ref b454), .unset] [(.ref b899), (.ref b884), (.int (0 : Int32)), (.ref b517), (.ref b869)])) rfl (by rw [hml]; rfl) (argsL := [(.ref b869), (.ref b517), (.int (0 : Int32)), (.ref b884), (.ref b899)]) (rest := []) (lenOf pd_179 rfl) rfl (by show 2 * 0 + _ ≤ _; exact Nat.le_of_eq rfl) (hb hby at_167) (fun _ _ => ⟨rfl, e899, (by decide : 16 + 0 ≤ _), (by decide : 93 + 0 ≤ _)⟩)
          dsimp only [Pt.U, Pt.locs, Pt.cells, Pt.slots] at X915 l915 y915 z915 st915 hQ915
          subst l915 y915 z915
          obtain ⟨rfl, N916, e915⟩ := hQ915
          have N918 := Fr.app N607 N916
          refine own_goW st915 ?_
          refine own_goW (S' := T915.setTop (mkF m 181 #[.val (.int p0), .val (.int p1), .val (.int p2), .val (.int p3), .val (.int p4), .val (.int p5), .val (.int ((1 : Int32) + (p4 &&& (3 : Int32)))), .val (.ref b454), .val (.ref b467), .val (.ref b482), .val (.ref b499), .val (.ref b517), .val (.int (0 : Int32)), .val (.ref b454), .val (.ref b454)] [(.ref b454), (.ref b454)])) (fun t k => ?_) ?_
          · show Steps p.tables e below (T915.setTop (mkF m 170 #[.val (.int p0), .val (.int p1), .val (.int p2), .val (.int p3), .val (.int p4), .val (.int p5), .val (.int ((1 : Int32) + (p4 &&& (3 : Int32)))), .val (.ref b454), .val (.ref b467), .val (.ref b482), .val (.ref b499), .val (.ref b517), .val (.int (0 : Int32)), .val (.ref b454), .unset] [(.ref b454)])) t
            refine XS.astore X915.here hx rfl (hb hby at_170) rfl rfl (l' := #[.val (.int p0), .val (.int p1), .val (.int p2), .val (.int p3), .val (.int p4), .val (.int p5), .val (.int ((1 : Int32) + (p4 &&& (3 : Int32)))), .val (.ref b454), .val (.ref b467), .val (.ref b482), .val (.ref b499), .val (.ref b517), .val (.int (0 : Int32)), .val (.ref b454), .val (.ref b454)]) rfl ?_
            show Steps p.tables e below (T915.setTop (mkF m 172 #[.val (.int p0), .val (.int p1), .val (.int p2), .val (.int p3), .val (.int p4), .val (.int p5), .val (.int ((1 : Int32) + (p4 &&& (3 : Int32)))), .val (.ref b454), .val (.ref b467), .val (.ref b482), .val (.ref b499), .val (.ref b517), .val (.int (0 : Int32)), .val (.ref b454), .val (.ref b454)] [])) t
            refine XS.aload X915.here hx rfl (hb hby at_172) rfl rfl ?_
            show Steps p.tables e below (T915.setTop (mkF m 174 #[.val (.int p0), .val (.int p1), .val (.int p2), .val (.int p3), .val (.int p4), .val (.int p5), .val (.int ((1 : Int32) + (p4 &&& (3 : Int32)))), .val (.ref b454), .val (.ref b467), .val (.ref b482), .val (.ref b499), .val (.ref b517), .val (.int (0 : Int32)), .val (.ref b454), .val (.ref b454)] [(.ref b454)])) t
            refine XS.ifnullNo X915.here hx rfl (hb hby at_174) rfl ?_
            show Steps p.tables e below (T915.setTop (mkF m 177 #[.val (.int p0), .val (.int p1), .val (.int p2), .val (.int p3), .val (.int p4), .val (.int p5), .val (.int ((1 : Int32) + (p4 &&& (3 : Int32)))), .val (.ref b454), .val (.ref b467), .val (.ref b482), .val (.ref b499), .val (.ref b517), .val (.int (0 : Int32)), .val (.ref b454), .val (.ref b454)] [])) t
            refine XS.aload X915.here hx rfl (hb hby at_177) rfl rfl ?_
            show Steps p.tables e below (T915.setTop (mkF m 179 #[.val (.int p0), .val (.int p1), .val (.int p2), .val (.int p3), .val (.int p4), .val (.int p5), .val (.int ((1 : Int32) + (p4 &&& (3 : Int32)))), .val (.ref b454), .val (.ref b467), .val (.ref b482), .val (.ref b499), .val (.ref b517), .val (.int (0 : Int32)), .val (.ref b454), .val (.ref b454)] [(.ref b454)])) t
            refine XS.aload X915.here hx rfl (hb hby at_179) rfl rfl ?_
            exact k
          obtain ⟨cq919, kq919, qa919, qb919, qc919⟩ := isOf hZ e915 f905
          obtain ⟨_, _, ⟨T919, L919, kk919, nn919⟩, -, X919, ⟨Lc919, hQ919, l919, y919, z919⟩, st919⟩ := X915.virtualBack hx (y := (⟨"java/lang/String", "equals", "(Ljava/lang/Object;)Z"⟩ : MethodName)) (z := (⟨"java/lang/String", "equals", "(Ljava/lang/Object;)Z"⟩ : MethodName)) hown (mvT hZ (hw _ (List.mem_of_getElem? (i := 122) rfl))) (mvT hZ (hw _ (List.mem_of_getElem? (i := 123) rfl))) (notFace_of_selects (args := #[]) (mvT hZ (hw _ (List.mem_of_getElem? (i := 125) rfl)))) (mvT hZ (hw _ (List.mem_of_getElem? (i := 125) rfl))) (mvT hZ (hw _ (List.mem_of_getElem? (i := 124) rfl))) (by decide) (backOf (W := 0) (eqSame l Z a0 hw [] b454 b454 h899 n0 Z900 (rfl : b454 = b454)) hZ (hw _ (List.mem_of_getElem? (i := 126) rfl)) (hw _ (List.mem_of_getElem? (i := 2) rfl)) (by decide) (by decide)) qa919 qc919 (g := (mkF m 181 #[.val (.int p0), .val (.int p1), .val (.int p2), .val (.int p3), .val (.int p4), .val (.int p5), .val (.int ((1 : Int32) + (p4 &&& (3 : Int32)))), .val (.ref b454), .val (.ref b467), .val (.ref b482), .val (.ref b499), .val (.ref b517), .val (.int (0 : Int32)), .val (.ref b454), .val (.ref b454)] [(.ref b454), (.ref b454)])) rfl (by rw [hml]; rfl) (Steps.refl _) (argsL := [(.ref b454)]) (rest := []) (lenOf pd_178 rfl) rfl (by show 2 * 0 + _ ≤ _; exact Nat.le_of_eq rfl) (hb hby at_181) (fun _ _ => ⟨rfl, e915, (by decide : 16 + 0 ≤ _), (by decide : 93 + 0 ≤ _)⟩)
          dsimp only [Pt.U, Pt.locs, Pt.cells, Pt.slots] at X919 l919 y919 z919 st919 hQ919
          subst l919 y919 z919
          obtain ⟨rfl, N920, e919⟩ := hQ919
          have N922 := Fr.app N918 N920
          refine own_goTW st919 ?_
          refine own_goW (S' := T919.setTop (mkF m 189 #[.val (.int p0), .val (.int p1), .val (.int p2), .val (.int p3), .val (.int p4), .val (.int p5), .val (.int ((1 : Int32) + (p4 &&& (3 : Int32)))), .val (.ref b454), .val (.ref b467), .val (.ref b482), .val (.ref b499), .val (.ref b517), .val (.int (0 : Int32)), .val (.ref b454), .val (.ref b454)] [(.ref b517)])) (fun t k => ?_) ?_
          · show Steps p.tables e below (T919.setTop (mkF m 184 #[.val (.int p0), .val (.int p1), .val (.int p2), .val (.int p3), .val (.int p4), .val (.int p5), .val (.int ((1 : Int32) + (p4 &&& (3 : Int32)))), .val (.ref b454), .val (.ref b467), .val (.ref b482), .val (.ref b499), .val (.ref b517), .val (.int (0 : Int32)), .val (.ref b454), .val (.ref b454)] [(.int (1 : Int32))])) t
            refine XS.ifNo X919.here hx rfl (hb hby at_184) rfl ((if0 _ _).trans (feq (by decide)).1) ?_
            show Steps p.tables e below (T919.setTop (mkF m 187 #[.val (.int p0), .val (.int p1), .val (.int p2), .val (.int p3), .val (.int p4), .val (.int p5), .val (.int ((1 : Int32) + (p4 &&& (3 : Int32)))), .val (.ref b454), .val (.ref b467), .val (.ref b482), .val (.ref b499), .val (.ref b517), .val (.int (0 : Int32)), .val (.ref b454), .val (.ref b454)] [])) t
            refine XS.aload X919.here hx rfl (hb hby at_187) rfl rfl ?_
            exact k
          obtain ⟨cq923, kq923, qa923, qb923, qc923⟩ := isOf hZ e919 f909
          obtain ⟨_, _, ⟨T923, L923, kk923, nn923⟩, -, X923, ⟨Lc923, hQ923, l923, y923, z923⟩, st923⟩ := X919.virtualBack hx (y := (⟨"java/util/ArrayList", "size", "()I"⟩ : MethodName)) (z := (⟨"java/util/ArrayList", "size", "()I"⟩ : MethodName)) hown (mvT hZ (hw _ (List.mem_of_getElem? (i := 127) rfl))) (mvT hZ (hw _ (List.mem_of_getElem? (i := 128) rfl))) (notFace_of_selects (args := #[]) (mvT hZ (hw _ (List.mem_of_getElem? (i := 129) rfl)))) (mvT hZ (hw _ (List.mem_of_getElem? (i := 129) rfl))) (mvT hZ (hw _ (List.mem_of_getElem? (i := 95) rfl))) (by decide) (backOf (W := 0) (alSize l Z a0 hw [] b517 (3 : Int32) h899 n0 Z900 f912) hZ (hw _ (List.mem_of_getElem? (i := 99) rfl)) (hw _ (List.mem_of_getElem? (i := 28) rfl)) (by decide) (by decide)) qa923 qc923 (g := (mkF m 189 #[.val (.int p0), .val (.int p1), .val (.int p2), .val (.int p3), .val (.int p4), .val (.int p5), .val (.int ((1 : Int32) + (p4 &&& (3 : Int32)))), .val (.ref b454), .val (.ref b467), .val (.ref b482), .val (.ref b499), .val (.ref b517), .val (.int (0 : Int32)), .val (.ref b454), .val (.ref b454)] [(.ref b517)])) rfl (by rw [hml]; rfl) (Steps.refl _) (argsL := []) (rest := []) (lenOf pd_164 rfl) rfl (by show 2 * 0 + _ ≤ _; exact Nat.le_of_eq rfl) (hb hby at_189) (fun _ _ => ⟨rfl, e919, (by decide : 16 + 0 ≤ _), (by decide : 93 + 0 ≤ _)⟩)
          dsimp only [Pt.U, Pt.locs, Pt.cells, Pt.slots] at X923 l923 y923 z923 st923 hQ923
          subst l923 y923 z923
          obtain ⟨rfl, N924, e923⟩ := hQ923
          have N926 := Fr.app N922 N924
          refine own_goTW st923 ?_
          refine own_goW (S' := T923.setTop (mkF m 194 #[.val (.int p0), .val (.int p1), .val (.int p2), .val (.int p3), .val (.int p4), .val (.int p5), .val (.int ((1 : Int32) + (p4 &&& (3 : Int32)))), .val (.ref b454), .val (.ref b467), .val (.ref b482), .val (.ref b499), .val (.ref b517), .val (.int (0 : Int32)), .val (.ref b454), .val (.ref b454)] [(.int ((1 : Int32) + (p4 &&& (3 : Int32)))), (.int (3 : Int32))])) (fun t k => ?_) ?_
          · show Steps p.tables e below (T923.setTop (mkF m 192 #[.val (.int p0), .val (.int p1), .val (.int p2), .val (.int p3), .val (.int p4), .val (.int p5), .val (.int ((1 : Int32) + (p4 &&& (3 : Int32)))), .val (.ref b454), .val (.ref b467), .val (.ref b482), .val (.ref b499), .val (.ref b517), .val (.int (0 : Int32)), .val (.ref b454), .val (.ref b454)] [(.int (3 : Int32))])) t
            refine XS.iload X923.here hx rfl (hb hby at_192) rfl ?_
            exact k
          refine own_goW (S' := T923.setTop (mkF m 202 #[.val (.int p0), .val (.int p1), .val (.int p2), .val (.int p3), .val (.int p4), .val (.int p5), .val (.int ((1 : Int32) + (p4 &&& (3 : Int32)))), .val (.ref b454), .val (.ref b467), .val (.ref b482), .val (.ref b499), .val (.ref b517), .val (.int (0 : Int32)), .val (.ref b454), .val (.ref b454)] [(.int (if (3 : Int32) = ((1 : Int32) + (p4 &&& (3 : Int32))) then (1 : Int32) else (0 : Int32)))])) (fun t k => ?_) ?_
          · show Steps p.tables e below (T923.setTop (mkF m 194 #[.val (.int p0), .val (.int p1), .val (.int p2), .val (.int p3), .val (.int p4), .val (.int p5), .val (.int ((1 : Int32) + (p4 &&& (3 : Int32)))), .val (.ref b454), .val (.ref b467), .val (.ref b482), .val (.ref b499), .val (.ref b517), .val (.int (0 : Int32)), .val (.ref b454), .val (.ref b454)] [(.int ((1 : Int32) + (p4 &&& (3 : Int32)))), (.int (3 : Int32))])) t
            by_cases hc194 : (3 : Int32) = ((1 : Int32) + (p4 &&& (3 : Int32)))
            · show Steps p.tables e below (T923.setTop (mkF m 194 #[.val (.int p0), .val (.int p1), .val (.int p2), .val (.int p3), .val (.int p4), .val (.int p5), .val (.int ((1 : Int32) + (p4 &&& (3 : Int32)))), .val (.ref b454), .val (.ref b467), .val (.ref b482), .val (.ref b499), .val (.ref b517), .val (.int (0 : Int32)), .val (.ref b454), .val (.ref b454)] [(.int ((1 : Int32) + (p4 &&& (3 : Int32)))), (.int (3 : Int32))])) t
              refine XS.icmpNo X923.here hx rfl (hb hby at_194) rfl (teq hc194).2 ?_
              show Steps p.tables e below (T923.setTop (mkF m 197 #[.val (.int p0), .val (.int p1), .val (.int p2), .val (.int p3), .val (.int p4), .val (.int p5), .val (.int ((1 : Int32) + (p4 &&& (3 : Int32)))), .val (.ref b454), .val (.ref b467), .val (.ref b482), .val (.ref b499), .val (.ref b517), .val (.int (0 : Int32)), .val (.ref b454), .val (.ref b454)] [])) t
              refine XS.iconst X923.here hx rfl (hb hby at_197) ?_
              show Steps p.tables e below (T923.setTop (mkF m 198 #[.val (.int p0), .val (.int p1), .val (.int p2), .val (.int p3), .val (.int p4), .val (.int p5), .val (.int ((1 : Int32) + (p4 &&& (3 : Int32)))), .val (.ref b454), .val (.ref b467), .val (.ref b482), .val (.ref b499), .val (.ref b517), .val (.int (0 : Int32)), .val (.ref b454), .val (.ref b454)] [(.int (1 : Int32))])) t
              refine XS.goto X923.here hx rfl (pc0 := 198) (pc' := 202) rfl (hb hby at_198) (by decide) (by decide) ?_
              first | exact k | (simp only [if_pos hc194] at k ⊢; exact k)
            · show Steps p.tables e below (T923.setTop (mkF m 194 #[.val (.int p0), .val (.int p1), .val (.int p2), .val (.int p3), .val (.int p4), .val (.int p5), .val (.int ((1 : Int32) + (p4 &&& (3 : Int32)))), .val (.ref b454), .val (.ref b467), .val (.ref b482), .val (.ref b499), .val (.ref b517), .val (.int (0 : Int32)), .val (.ref b454), .val (.ref b454)] [(.int ((1 : Int32) + (p4 &&& (3 : Int32)))), (.int (3 : Int32))])) t
              refine XS.icmpYes X923.here hx rfl (pc0 := 194) (pc' := 201) rfl (hb hby at_194) rfl (feq hc194).2 (by decide) (by decide) ?_
              show Steps p.tables e below (T923.setTop (mkF m 201 #[.val (.int p0), .val (.int p1), .val (.int p2), .val (.int p3), .val (.int p4), .val (.int p5), .val (.int ((1 : Int32) + (p4 &&& (3 : Int32)))), .val (.ref b454), .val (.ref b467), .val (.ref b482), .val (.ref b499), .val (.ref b517), .val (.int (0 : Int32)), .val (.ref b454), .val (.ref b454)] [])) t
              refine XS.iconst X923.here hx rfl (hb hby at_201) ?_
              first | exact k | (simp only [if_neg hc194] at k ⊢; exact k)
          have hfin : (if (3 : Int32) = ((1 : Int32) + (p4 &&& (3 : Int32))) then (1 : Int32) else (0 : Int32)) = (1 : Int32) := if_pos (own_sz hc86 hc100 (by decide))
          rw [hfin]
          obtain ⟨fs, hr, hrun, hended, hW, hsame⟩ := X923.leave (v := some (.int (1 : Int32))) (fun h => by rw [Bd.returns] at h; cases h)
          refine own_endW (v := some (.int (1 : Int32))) ?_ hrun hended ?_ (hS.ended hW (by show _ ≤ T923.heap.size; rw [e923]; exact hk899) hsame) (by decide) (by decide)
          · show Steps p.tables e below (T923.setTop (mkF m 202 #[.val (.int p0), .val (.int p1), .val (.int p2), .val (.int p3), .val (.int p4), .val (.int p5), .val (.int ((1 : Int32) + (p4 &&& (3 : Int32)))), .val (.ref b454), .val (.ref b467), .val (.ref b482), .val (.ref b499), .val (.ref b517), .val (.int (0 : Int32)), .val (.ref b454), .val (.ref b454)] [(.int (1 : Int32))])) _
            exact retN X923 hx (t := .boolean) Bd.returns (by simp) (hb hby at_202) hr
          · show Qrm0 Z p0 p1 p2 p3 p4 p5 w_s_COMPACT_STRINGS w_s_DEFAULTCAPACITY_EMPTY_ELEMENTDATA h0 n0 _ T923.heap _
            rw [e923]
            exact ⟨rfl, N926⟩
        · skip
          refine own_goW (S' := T599.setTop (mkF m 134 #[.val (.int p0), .val (.int p1), .val (.int p2), .val (.int p3), .val (.int p4), .val (.int p5), .val (.int ((1 : Int32) + (p4 &&& (3 : Int32)))), .val (.ref b454), .val (.ref b467), .val (.ref b482), .val (.ref b499), .val (.ref b517), .val (.int ((p5 &&& (2147483647 : Int32)) % ((1 : Int32) + (p4 &&& (3 : Int32))))), .unset, .unset] [(.int (1 : Int32)), (.int ((p5 &&& (2147483647 : Int32)) % ((1 : Int32) + (p4 &&& (3 : Int32)))))])) (fun t k => ?_) ?_
          · show Steps p.tables e below (T599.setTop (mkF m 123 #[.val (.int p0), .val (.int p1), .val (.int p2), .val (.int p3), .val (.int p4), .val (.int p5), .val (.int ((1 : Int32) + (p4 &&& (3 : Int32)))), .val (.ref b454), .val (.ref b467), .val (.ref b482), .val (.ref b499), .val (.ref b517), .val (.int ((p5 &&& (2147483647 : Int32)) % ((1 : Int32) + (p4 &&& (3 : Int32))))), .unset, .unset] [(.int ((p5 &&& (2147483647 : Int32)) % ((1 : Int32) + (p4 &&& (3 : Int32)))))])) t
            refine XS.ifYes X599.here hx rfl (pc0 := 123) (pc' := 131) rfl (hb hby at_123) rfl ((if0 _ _).trans (feq hc123).2) (by decide) (by decide) ?_
            show Steps p.tables e below (T599.setTop (mkF m 131 #[.val (.int p0), .val (.int p1), .val (.int p2), .val (.int p3), .val (.int p4), .val (.int p5), .val (.int ((1 : Int32) + (p4 &&& (3 : Int32)))), .val (.ref b454), .val (.ref b467), .val (.ref b482), .val (.ref b499), .val (.ref b517), .val (.int ((p5 &&& (2147483647 : Int32)) % ((1 : Int32) + (p4 &&& (3 : Int32))))), .unset, .unset] [])) t
            refine XS.iload X599.here hx rfl (hb hby at_131) rfl ?_
            show Steps p.tables e below (T599.setTop (mkF m 133 #[.val (.int p0), .val (.int p1), .val (.int p2), .val (.int p3), .val (.int p4), .val (.int p5), .val (.int ((1 : Int32) + (p4 &&& (3 : Int32)))), .val (.ref b454), .val (.ref b467), .val (.ref b482), .val (.ref b499), .val (.ref b517), .val (.int ((p5 &&& (2147483647 : Int32)) % ((1 : Int32) + (p4 &&& (3 : Int32))))), .unset, .unset] [(.int ((p5 &&& (2147483647 : Int32)) % ((1 : Int32) + (p4 &&& (3 : Int32)))))])) t
            refine XS.iconst X599.here hx rfl (hb hby at_133) ?_
            exact k
          by_cases hc134 : ((p5 &&& (2147483647 : Int32)) % ((1 : Int32) + (p4 &&& (3 : Int32)))) = (1 : Int32)
          · skip
            refine own_goW (S' := T599.setTop (mkF m 157 #[.val (.int p0), .val (.int p1), .val (.int p2), .val (.int p3), .val (.int p4), .val (.int p5), .val (.int ((1 : Int32) + (p4 &&& (3 : Int32)))), .val (.ref b454), .val (.ref b467), .val (.ref b482), .val (.ref b499), .val (.ref b517), .val (.int ((p5 &&& (2147483647 : Int32)) % ((1 : Int32) + (p4 &&& (3 : Int32))))), .val (.ref b467), .unset] [])) (fun t k => ?_) ?_
            · show Steps p.tables e below (T599.setTop (mkF m 134 #[.val (.int p0), .val (.int p1), .val (.int p2), .val (.int p3), .val (.int p4), .val (.int p5), .val (.int ((1 : Int32) + (p4 &&& (3 : Int32)))), .val (.ref b454), .val (.ref b467), .val (.ref b482), .val (.ref b499), .val (.ref b517), .val (.int ((p5 &&& (2147483647 : Int32)) % ((1 : Int32) + (p4 &&& (3 : Int32))))), .unset, .unset] [(.int (1 : Int32)), (.int ((p5 &&& (2147483647 : Int32)) % ((1 : Int32) + (p4 &&& (3 : Int32)))))])) t
              refine XS.icmpNo X599.here hx rfl (hb hby at_134) rfl (teq hc134).2 ?_
              show Steps p.tables e below (T599.setTop (mkF m 137 #[.val (.int p0), .val (.int p1), .val (.int p2), .val (.int p3), .val (.int p4), .val (.int p5), .val (.int ((1 : Int32) + (p4 &&& (3 : Int32)))), .val (.ref b454), .val (.ref b467), .val (.ref b482), .val (.ref b499), .val (.ref b517), .val (.int ((p5 &&& (2147483647 : Int32)) % ((1 : Int32) + (p4 &&& (3 : Int32))))), .unset, .unset] [])) t
              refine XS.aload X599.here hx rfl (hb hby at_137) rfl rfl ?_
              show Steps p.tables e below (T599.setTop (mkF m 139 #[.val (.int p0), .val (.int p1), .val (.int p2), .val (.int p3), .val (.int p4), .val (.int p5), .val (.int ((1 : Int32) + (p4 &&& (3 : Int32)))), .val (.ref b454), .val (.ref b467), .val (.ref b482), .val (.ref b499), .val (.ref b517), .val (.int ((p5 &&& (2147483647 : Int32)) % ((1 : Int32) + (p4 &&& (3 : Int32))))), .unset, .unset] [(.ref b467)])) t
              refine XS.goto X599.here hx rfl (pc0 := 139) (pc' := 155) rfl (hb hby at_139) (by decide) (by decide) ?_
              show Steps p.tables e below (T599.setTop (mkF m 155 #[.val (.int p0), .val (.int p1), .val (.int p2), .val (.int p3), .val (.int p4), .val (.int p5), .val (.int ((1 : Int32) + (p4 &&& (3 : Int32)))), .val (.ref b454), .val (.ref b467), .val (.ref b482), .val (.ref b499), .val (.ref b517), .val (.int ((p5 &&& (2147483647 : Int32)) % ((1 : Int32) + (p4 &&& (3 : Int32))))), .unset, .unset] [(.ref b467)])) t
              refine XS.astore X599.here hx rfl (hb hby at_155) rfl rfl (l' := #[.val (.int p0), .val (.int p1), .val (.int p2), .val (.int p3), .val (.int p4), .val (.int p5), .val (.int ((1 : Int32) + (p4 &&& (3 : Int32)))), .val (.ref b454), .val (.ref b467), .val (.ref b482), .val (.ref b499), .val (.ref b517), .val (.int ((p5 &&& (2147483647 : Int32)) % ((1 : Int32) + (p4 &&& (3 : Int32))))), .val (.ref b467), .unset]) rfl ?_
              exact k
            obtain ⟨b927, T927, h927, k927, X927, e927, E927, hS, hk927, hZ, hown, st927⟩ := ldcS (s := s) (vm0 := s.vm) X599 hx hZ hown (hw _ (List.mem_of_getElem? (i := 82) rfl)) (own_strW (hw _ (List.mem_of_getElem? (i := 2) rfl)) (hw _ (List.mem_of_getElem? (i := 10) rfl)) (hw _ (List.mem_of_getElem? (i := 14) rfl)) (hw _ (List.mem_of_getElem? (i := 23) rfl)) (hw _ (List.mem_of_getElem? (i := 25) rfl)) (hw _ (List.mem_of_getElem? (i := 83) rfl)) (hw _ (List.mem_of_getElem? (i := 84) rfl))) rfl hS hk617 (g := (mkF m 157 #[.val (.int p0), .val (.int p1), .val (.int p2), .val (.int p3), .val (.int p4), .val (.int p5), .val (.int ((1 : Int32) + (p4 &&& (3 : Int32)))), .val (.ref b454), .val (.ref b467), .val (.ref b482), .val (.ref b499), .val (.ref b517), .val (.int ((p5 &&& (2147483647 : Int32)) % ((1 : Int32) + (p4 &&& (3 : Int32))))), .val (.ref b467), .unset] [])) rfl (hb hby at_157) (n := 12) (by decide) (by decide) (by decide) (by decide)
            have Z928 : n0 ≤ h927.size := Nat.le_trans Z616 E927.1
            have hk929 := Nat.le_trans hk617 E927.1
            have f930 : own_Len Z h927 w_s_DEFAULTCAPACITY_EMPTY_ELEMENTDATA (.object "java/lang/Object") (0 : Int32) := f608.ext E927
            have f931 : Sta Z h927 "java/lang/String" "COMPACT_STRINGS" "Z" (.int w_s_COMPACT_STRINGS) := Sta.ext E927 f609
            have f932 : Sta Z h927 "java/util/ArrayList" "DEFAULTCAPACITY_EMPTY_ELEMENTDATA" "[Ljava/lang/Object;" (.ref w_s_DEFAULTCAPACITY_EMPTY_ELEMENTDATA) := Sta.ext E927 f610
            have f933 : Exa Z h927 b454 "java/lang/String" := Exa.ext E927 f611
            have f934 : Exa Z h927 b467 "java/lang/String" := Exa.ext E927 f612
            have f935 : Exa Z h927 b482 "java/lang/String" := Exa.ext E927 f613
            have f936 : Exa Z h927 b499 "java/lang/String" := Exa.ext E927 f614
            have f937 : Exa Z h927 b517 "java/util/ArrayList" := Exa.ext E927 p602
            have f938 : Fld Z h927 b517 "java/util/AbstractList" "modCount" "I" (.int ((((0 : Int32) + (1 : Int32)) + (1 : Int32)) + (1 : Int32))) := Fld.ext E927 p603
            have f939 : Fld Z h927 b517 "java/util/ArrayList" "elementData" "[Ljava/lang/Object;" (.ref b554) := Fld.ext E927 p604
            have f940 : Fld Z h927 b517 "java/util/ArrayList" "size" "I" (.int (3 : Int32)) := Fld.ext E927 p605
            have f941 : own_ArvR Z h927 b554 "java/lang/Object" (10 : Int32) [(.ref b454), (.ref b467), (.ref b482), .null, .null, .null, .null, .null, .null, .null] := p606.ext E927
            refine own_goW st927 ?_
            refine own_goW (S' := T927.setTop (mkF m 163 #[.val (.int p0), .val (.int p1), .val (.int p2), .val (.int p3), .val (.int p4), .val (.int p5), .val (.int ((1 : Int32) + (p4 &&& (3 : Int32)))), .val (.ref b454), .val (.ref b467), .val (.ref b482), .val (.ref b499), .val (.ref b517), .val (.int ((p5 &&& (2147483647 : Int32)) % ((1 : Int32) + (p4 &&& (3 : Int32))))), .val (.ref b467), .unset] [(.int ((p5 &&& (2147483647 : Int32)) % ((1 : Int32) + (p4 &&& (3 : Int32))))), (.ref b517), (.ref b927)])) (fun t k => ?_) ?_
            · show Steps p.tables e below (T927.setTop (mkF m 159 #[.val (.int p0), .val (.int p1), .val (.int p2), .val (.int p3), .val (.int p4), .val (.int p5), .val (.int ((1 : Int32) + (p4 &&& (3 : Int32)))), .val (.ref b454), .val (.ref b467), .val (.ref b482), .val (.ref b499), .val (.ref b517), .val (.int ((p5 &&& (2147483647 : Int32)) % ((1 : Int32) + (p4 &&& (3 : Int32))))), .val (.ref b467), .unset] [(.ref b927)])) t
              refine XS.aload X927.here hx rfl (hb hby at_159) rfl rfl ?_
              show Steps p.tables e below (T927.setTop (mkF m 161 #[.val (.int p0), .val (.int p1), .val (.int p2), .val (.int p3), .val (.int p4), .val (.int p5), .val (.int ((1 : Int32) + (p4 &&& (3 : Int32)))), .val (.ref b454), .val (.ref b467), .val (.ref b482), .val (.ref b499), .val (.ref b517), .val (.int ((p5 &&& (2147483647 : Int32)) % ((1 : Int32) + (p4 &&& (3 : Int32))))), .val (.ref b467), .unset] [(.ref b517), (.ref b927)])) t
              refine XS.iload X927.here hx rfl (hb hby at_161) rfl ?_
              exact k
            obtain ⟨b942, T942, h942, k942, X942, e942, E942, hS, hk942, hZ, hown, st942⟩ := ldcS (s := s) (vm0 := T927.vm) X927 hx hZ hown (hw _ (List.mem_of_getElem? (i := 85) rfl)) (own_strW (hw _ (List.mem_of_getElem? (i := 2) rfl)) (hw _ (List.mem_of_getElem? (i := 10) rfl)) (hw _ (List.mem_of_getElem? (i := 14) rfl)) (hw _ (List.mem_of_getElem? (i := 23) rfl)) (hw _ (List.mem_of_getElem? (i := 25) rfl)) (hw _ (List.mem_of_getElem? (i := 83) rfl)) (hw _ (List.mem_of_getElem? (i := 84) rfl))) e927 hS hk927 (g := (mkF m 163 #[.val (.int p0), .val (.int p1), .val (.int p2), .val (.int p3), .val (.int p4), .val (.int p5), .val (.int ((1 : Int32) + (p4 &&& (3 : Int32)))), .val (.ref b454), .val (.ref b467), .val (.ref b482), .val (.ref b499), .val (.ref b517), .val (.int ((p5 &&& (2147483647 : Int32)) % ((1 : Int32) + (p4 &&& (3 : Int32))))), .val (.ref b467), .unset] [(.int ((p5 &&& (2147483647 : Int32)) % ((1 : Int32) + (p4 &&& (3 : Int32))))), (.ref b517), (.ref b927)])) rfl (hb hby at_163) (n := 8) (by decide) (by decide) (by decide) (by decide)
            have Z943 : n0 ≤ h942.size := Nat.le_trans Z928 E942.1
            have hk944 := Nat.le_trans hk927 E942.1
            have f945 : own_Len Z h942 w_s_DEFAULTCAPACITY_EMPTY_ELEMENTDATA (.object "java/lang/Object") (0 : Int32) := f930.ext E942
            have f946 : Sta Z h942 "java/lang/String" "COMPACT_STRINGS" "Z" (.int w_s_COMPACT_STRINGS) := Sta.ext E942 f931
            have f947 : Sta Z h942 "java/util/ArrayList" "DEFAULTCAPACITY_EMPTY_ELEMENTDATA" "[Ljava/lang/Object;" (.ref w_s_DEFAULTCAPACITY_EMPTY_ELEMENTDATA) := Sta.ext E942 f932
            have f948 : Exa Z h942 b454 "java/lang/String" := Exa.ext E942 f933
            have f949 : Exa Z h942 b467 "java/lang/String" := Exa.ext E942 f934
            have f950 : Exa Z h942 b482 "java/lang/String" := Exa.ext E942 f935
            have f951 : Exa Z h942 b499 "java/lang/String" := Exa.ext E942 f936
            have f952 : Exa Z h942 b517 "java/util/ArrayList" := Exa.ext E942 f937
            have f953 : Fld Z h942 b517 "java/util/AbstractList" "modCount" "I" (.int ((((0 : Int32) + (1 : Int32)) + (1 : Int32)) + (1 : Int32))) := Fld.ext E942 f938
            have f954 : Fld Z h942 b517 "java/util/ArrayList" "elementData" "[Ljava/lang/Object;" (.ref b554) := Fld.ext E942 f939
            have f955 : Fld Z h942 b517 "java/util/ArrayList" "size" "I" (.int (3 : Int32)) := Fld.ext E942 f940
            have f956 : own_ArvR Z h942 b554 "java/lang/Object" (10 : Int32) [(.ref b454), (.ref b467), (.ref b482), .null, .null, .null, .null, .null, .null, .null] := f941.ext E942
            refine own_goW st942 ?_
            obtain ⟨b957, T957, h957, k957, X957, e957, E957, hS, hk957, hZ, hown, st957⟩ := ldcS (s := s) (vm0 := T942.vm) X942 hx hZ hown (hw _ (List.mem_of_getElem? (i := 86) rfl)) (own_strW (hw _ (List.mem_of_getElem? (i := 2) rfl)) (hw _ (List.mem_of_getElem? (i := 10) rfl)) (hw _ (List.mem_of_getElem? (i := 14) rfl)) (hw _ (List.mem_of_getElem? (i := 23) rfl)) (hw _ (List.mem_of_getElem? (i := 25) rfl)) (hw _ (List.mem_of_getElem? (i := 83) rfl)) (hw _ (List.mem_of_getElem? (i := 84) rfl))) e942 hS hk942 (g := (mkF m 165 #[.val (.int p0), .val (.int p1), .val (.int p2), .val (.int p3), .val (.int p4), .val (.int p5), .val (.int ((1 : Int32) + (p4 &&& (3 : Int32)))), .val (.ref b454), .val (.ref b467), .val (.ref b482), .val (.ref b499), .val (.ref b517), .val (.int ((p5 &&& (2147483647 : Int32)) % ((1 : Int32) + (p4 &&& (3 : Int32))))), .val (.ref b467), .unset] [(.ref b942), (.int ((p5 &&& (2147483647 : Int32)) % ((1 : Int32) + (p4 &&& (3 : Int32))))), (.ref b517), (.ref b927)])) rfl (hb hby at_165) (n := 28) (by decide) (by decide) (by decide) (by decide)
            have Z958 : n0 ≤ h957.size := Nat.le_trans Z943 E957.1
            have hk959 := Nat.le_trans hk942 E957.1
            have f960 : own_Len Z h957 w_s_DEFAULTCAPACITY_EMPTY_ELEMENTDATA (.object "java/lang/Object") (0 : Int32) := f945.ext E957
            have f961 : Sta Z h957 "java/lang/String" "COMPACT_STRINGS" "Z" (.int w_s_COMPACT_STRINGS) := Sta.ext E957 f946
            have f962 : Sta Z h957 "java/util/ArrayList" "DEFAULTCAPACITY_EMPTY_ELEMENTDATA" "[Ljava/lang/Object;" (.ref w_s_DEFAULTCAPACITY_EMPTY_ELEMENTDATA) := Sta.ext E957 f947
            have f963 : Exa Z h957 b454 "java/lang/String" := Exa.ext E957 f948
            have f964 : Exa Z h957 b467 "java/lang/String" := Exa.ext E957 f949
            have f965 : Exa Z h957 b482 "java/lang/String" := Exa.ext E957 f950
            have f966 : Exa Z h957 b499 "java/lang/String" := Exa.ext E957 f951
            have f967 : Exa Z h957 b517 "java/util/ArrayList" := Exa.ext E957 f952
            have f968 : Fld Z h957 b517 "java/util/AbstractList" "modCount" "I" (.int ((((0 : Int32) + (1 : Int32)) + (1 : Int32)) + (1 : Int32))) := Fld.ext E957 f953
            have f969 : Fld Z h957 b517 "java/util/ArrayList" "elementData" "[Ljava/lang/Object;" (.ref b554) := Fld.ext E957 f954
            have f970 : Fld Z h957 b517 "java/util/ArrayList" "size" "I" (.int (3 : Int32)) := Fld.ext E957 f955
            have f971 : own_ArvR Z h957 b554 "java/lang/Object" (10 : Int32) [(.ref b454), (.ref b467), (.ref b482), .null, .null, .null, .null, .null, .null, .null] := f956.ext E957
            refine own_goW st957 ?_
            have hf972 : ((p5 &&& (2147483647 : Int32)) % ((1 : Int32) + (p4 &&& (3 : Int32)))) = (1 : Int32) := hc134
            rw [hf972]
            obtain ⟨_, _, ⟨T973, L973, kk973, nn973⟩, -, X973, ⟨Lc973, hQ973, l973, y973, z973⟩, st973⟩ := Jvm.LawKit.callS X957 hx (y := (⟨"com/example/scorebench/scorebench/OptionValue", "of", "(Ljava/lang/String;Ljava/util/List;ILjava/lang/String;Ljava/lang/String;)Ljava/lang/String;"⟩ : MethodName)) hown (mvT hZ (hw _ (List.mem_of_getElem? (i := 87) rfl))) (mvT hZ (hw _ (List.mem_of_getElem? (i := 88) rfl))) (mvT hZ (hw _ (List.mem_of_getElem? (i := 89) rfl))) (mvT hZ (hw _ (List.mem_of_getElem? (i := 90) rfl))) (by decide) (backOf (W := 0) (of1 l Z a0 hw [] b927 b517 b942 b957 (3 : Int32) b554 (.ref b454) b467 (.ref b482) (.null) (.null) (.null) (.null) (.null) (.null) (.null) h957 n0 Z958 (by decide : (1 : Int32) < (3 : Int32)) f970 f967 (by decide : ¬ ((1 : Int32) = (3 : Int32))) f969 f971 f964) hZ (hw _ (List.mem_of_getElem? (i := 90) rfl)) (hw _ (List.mem_of_getElem? (i := 89) rfl)) (by decide) (by decide)) (g := (mkF m 167 #[.val (.int p0), .val (.int p1), .val (.int p2), .val (.int p3), .val (.int p4), .val (.int p5), .val (.int ((1 : Int32) + (p4 &&& (3 : Int32)))), .val (.ref b454), .val (.ref b467), .val (.ref b482), .val (.ref b499), .val (.ref b517), .val (.int (1 : Int32)), .val (.ref b467), .unset] [(.ref b957), (.ref b942), (.int (1 : Int32)), (.ref b517), (.ref b927)])) rfl (by rw [hml]; rfl) (argsL := [(.ref b927), (.ref b517), (.int (1 : Int32)), (.ref b942), (.ref b957)]) (rest := []) (lenOf pd_179 rfl) rfl (by show 2 * 0 + _ ≤ _; exact Nat.le_of_eq rfl) (hb hby at_167) (fun _ _ => ⟨rfl, e957, (by decide : 16 + 0 ≤ _), (by decide : 93 + 0 ≤ _)⟩)
            dsimp only [Pt.U, Pt.locs, Pt.cells, Pt.slots] at X973 l973 y973 z973 st973 hQ973
            subst l973 y973 z973
            obtain ⟨rfl, N974, e973⟩ := hQ973
            have N976 := Fr.app N607 N974
            refine own_goW st973 ?_
            refine own_goW (S' := T973.setTop (mkF m 181 #[.val (.int p0), .val (.int p1), .val (.int p2), .val (.int p3), .val (.int p4), .val (.int p5), .val (.int ((1 : Int32) + (p4 &&& (3 : Int32)))), .val (.ref b454), .val (.ref b467), .val (.ref b482), .val (.ref b499), .val (.ref b517), .val (.int (1 : Int32)), .val (.ref b467), .val (.ref b467)] [(.ref b467), (.ref b467)])) (fun t k => ?_) ?_
            · show Steps p.tables e below (T973.setTop (mkF m 170 #[.val (.int p0), .val (.int p1), .val (.int p2), .val (.int p3), .val (.int p4), .val (.int p5), .val (.int ((1 : Int32) + (p4 &&& (3 : Int32)))), .val (.ref b454), .val (.ref b467), .val (.ref b482), .val (.ref b499), .val (.ref b517), .val (.int (1 : Int32)), .val (.ref b467), .unset] [(.ref b467)])) t
              refine XS.astore X973.here hx rfl (hb hby at_170) rfl rfl (l' := #[.val (.int p0), .val (.int p1), .val (.int p2), .val (.int p3), .val (.int p4), .val (.int p5), .val (.int ((1 : Int32) + (p4 &&& (3 : Int32)))), .val (.ref b454), .val (.ref b467), .val (.ref b482), .val (.ref b499), .val (.ref b517), .val (.int (1 : Int32)), .val (.ref b467), .val (.ref b467)]) rfl ?_
              show Steps p.tables e below (T973.setTop (mkF m 172 #[.val (.int p0), .val (.int p1), .val (.int p2), .val (.int p3), .val (.int p4), .val (.int p5), .val (.int ((1 : Int32) + (p4 &&& (3 : Int32)))), .val (.ref b454), .val (.ref b467), .val (.ref b482), .val (.ref b499), .val (.ref b517), .val (.int (1 : Int32)), .val (.ref b467), .val (.ref b467)] [])) t
              refine XS.aload X973.here hx rfl (hb hby at_172) rfl rfl ?_
              show Steps p.tables e below (T973.setTop (mkF m 174 #[.val (.int p0), .val (.int p1), .val (.int p2), .val (.int p3), .val (.int p4), .val (.int p5), .val (.int ((1 : Int32) + (p4 &&& (3 : Int32)))), .val (.ref b454), .val (.ref b467), .val (.ref b482), .val (.ref b499), .val (.ref b517), .val (.int (1 : Int32)), .val (.ref b467), .val (.ref b467)] [(.ref b467)])) t
              refine XS.ifnullNo X973.here hx rfl (hb hby at_174) rfl ?_
              show Steps p.tables e below (T973.setTop (mkF m 177 #[.val (.int p0), .val (.int p1), .val (.int p2), .val (.int p3), .val (.int p4), .val (.int p5), .val (.int ((1 : Int32) + (p4 &&& (3 : Int32)))), .val (.ref b454), .val (.ref b467), .val (.ref b482), .val (.ref b499), .val (.ref b517), .val (.int (1 : Int32)), .val (.ref b467), .val (.ref b467)] [])) t
              refine XS.aload X973.here hx rfl (hb hby at_177) rfl rfl ?_
              show Steps p.tables e below (T973.setTop (mkF m 179 #[.val (.int p0), .val (.int p1), .val (.int p2), .val (.int p3), .val (.int p4), .val (.int p5), .val (.int ((1 : Int32) + (p4 &&& (3 : Int32)))), .val (.ref b454), .val (.ref b467), .val (.ref b482), .val (.ref b499), .val (.ref b517), .val (.int (1 : Int32)), .val (.ref b467), .val (.ref b467)] [(.ref b467)])) t
              refine XS.aload X973.here hx rfl (hb hby at_179) rfl rfl ?_
              exact k
            obtain ⟨cq977, kq977, qa977, qb977, qc977⟩ := isOf hZ e973 f964
            obtain ⟨_, _, ⟨T977, L977, kk977, nn977⟩, -, X977, ⟨Lc977, hQ977, l977, y977, z977⟩, st977⟩ := X973.virtualBack hx (y := (⟨"java/lang/String", "equals", "(Ljava/lang/Object;)Z"⟩ : MethodName)) (z := (⟨"java/lang/String", "equals", "(Ljava/lang/Object;)Z"⟩ : MethodName)) hown (mvT hZ (hw _ (List.mem_of_getElem? (i := 122) rfl))) (mvT hZ (hw _ (List.mem_of_getElem? (i := 123) rfl))) (notFace_of_selects (args := #[]) (mvT hZ (hw _ (List.mem_of_getElem? (i := 125) rfl)))) (mvT hZ (hw _ (List.mem_of_getElem? (i := 125) rfl))) (mvT hZ (hw _ (List.mem_of_getElem? (i := 124) rfl))) (by decide) (backOf (W := 0) (eqSame l Z a0 hw [] b467 b467 h957 n0 Z958 (rfl : b467 = b467)) hZ (hw _ (List.mem_of_getElem? (i := 126) rfl)) (hw _ (List.mem_of_getElem? (i := 2) rfl)) (by decide) (by decide)) qa977 qc977 (g := (mkF m 181 #[.val (.int p0), .val (.int p1), .val (.int p2), .val (.int p3), .val (.int p4), .val (.int p5), .val (.int ((1 : Int32) + (p4 &&& (3 : Int32)))), .val (.ref b454), .val (.ref b467), .val (.ref b482), .val (.ref b499), .val (.ref b517), .val (.int (1 : Int32)), .val (.ref b467), .val (.ref b467)] [(.ref b467), (.ref b467)])) rfl (by rw [hml]; rfl) (Steps.refl _) (argsL := [(.ref b467)]) (rest := []) (lenOf pd_178 rfl) rfl (by show 2 * 0 + _ ≤ _; exact Nat.le_of_eq rfl) (hb hby at_181) (fun _ _ => ⟨rfl, e973, (by decide : 16 + 0 ≤ _), (by decide : 93 + 0 ≤ _)⟩)
            dsimp only [Pt.U, Pt.locs, Pt.cells, Pt.slots] at X977 l977 y977 z977 st977 hQ977
            subst l977 y977 z977
            obtain ⟨rfl, N978, e977⟩ := hQ977
            have N980 := Fr.app N976 N978
            refine own_goTW st977 ?_
            refine own_goW (S' := T977.setTop (mkF m 189 #[.val (.int p0), .val (.int p1), .val (.int p2), .val (.int p3), .val (.int p4), .val (.int p5), .val (.int ((1 : Int32) + (p4 &&& (3 : Int32)))), .val (.ref b454), .val (.ref b467), .val (.ref b482), .val (.ref b499), .val (.ref b517), .val (.int (1 : Int32)), .val (.ref b467), .val (.ref b467)] [(.ref b517)])) (fun t k => ?_) ?_
            · show Steps p.tables e below (T977.setTop (mkF m 184 #[.val (.int p0), .val (.int p1), .val (.int p2), .val (.int p3), .val (.int p4), .val (.int p5), .val (.int ((1 : Int32) + (p4 &&& (3 : Int32)))), .val (.ref b454), .val (.ref b467), .val (.ref b482), .val (.ref b499), .val (.ref b517), .val (.int (1 : Int32)), .val (.ref b467), .val (.ref b467)] [(.int (1 : Int32))])) t
              refine XS.ifNo X977.here hx rfl (hb hby at_184) rfl ((if0 _ _).trans (feq (by decide)).1) ?_
              show Steps p.tables e below (T977.setTop (mkF m 187 #[.val (.int p0), .val (.int p1), .val (.int p2), .val (.int p3), .val (.int p4), .val (.int p5), .val (.int ((1 : Int32) + (p4 &&& (3 : Int32)))), .val (.ref b454), .val (.ref b467), .val (.ref b482), .val (.ref b499), .val (.ref b517), .val (.int (1 : Int32)), .val (.ref b467), .val (.ref b467)] [])) t
              refine XS.aload X977.here hx rfl (hb hby at_187) rfl rfl ?_
              exact k
            obtain ⟨cq981, kq981, qa981, qb981, qc981⟩ := isOf hZ e977 f967
            obtain ⟨_, _, ⟨T981, L981, kk981, nn981⟩, -, X981, ⟨Lc981, hQ981, l981, y981, z981⟩, st981⟩ := X977.virtualBack hx (y := (⟨"java/util/ArrayList", "size", "()I"⟩ : MethodName)) (z := (⟨"java/util/ArrayList", "size", "()I"⟩ : MethodName)) hown (mvT hZ (hw _ (List.mem_of_getElem? (i := 127) rfl))) (mvT hZ (hw _ (List.mem_of_getElem? (i := 128) rfl))) (notFace_of_selects (args := #[]) (mvT hZ (hw _ (List.mem_of_getElem? (i := 129) rfl)))) (mvT hZ (hw _ (List.mem_of_getElem? (i := 129) rfl))) (mvT hZ (hw _ (List.mem_of_getElem? (i := 95) rfl))) (by decide) (backOf (W := 0) (alSize l Z a0 hw [] b517 (3 : Int32) h957 n0 Z958 f970) hZ (hw _ (List.mem_of_getElem? (i := 99) rfl)) (hw _ (List.mem_of_getElem? (i := 28) rfl)) (by decide) (by decide)) qa981 qc981 (g := (mkF m 189 #[.val (.int p0), .val (.int p1), .val (.int p2), .val (.int p3), .val (.int p4), .val (.int p5), .val (.int ((1 : Int32) + (p4 &&& (3 : Int32)))), .val (.ref b454), .val (.ref b467), .val (.ref b482), .val (.ref b499), .val (.ref b517), .val (.int (1 : Int32)), .val (.ref b467), .val (.ref b467)] [(.ref b517)])) rfl (by rw [hml]; rfl) (Steps.refl _) (argsL := []) (rest := []) (lenOf pd_164 rfl) rfl (by show 2 * 0 + _ ≤ _; exact Nat.le_of_eq rfl) (hb hby at_189) (fun _ _ => ⟨rfl, e977, (by decide : 16 + 0 ≤ _), (by decide : 93 + 0 ≤ _)⟩)
            dsimp only [Pt.U, Pt.locs, Pt.cells, Pt.slots] at X981 l981 y981 z981 st981 hQ981
            subst l981 y981 z981
            obtain ⟨rfl, N982, e981⟩ := hQ981
            have N984 := Fr.app N980 N982
            refine own_goTW st981 ?_
            refine own_goW (S' := T981.setTop (mkF m 194 #[.val (.int p0), .val (.int p1), .val (.int p2), .val (.int p3), .val (.int p4), .val (.int p5), .val (.int ((1 : Int32) + (p4 &&& (3 : Int32)))), .val (.ref b454), .val (.ref b467), .val (.ref b482), .val (.ref b499), .val (.ref b517), .val (.int (1 : Int32)), .val (.ref b467), .val (.ref b467)] [(.int ((1 : Int32) + (p4 &&& (3 : Int32)))), (.int (3 : Int32))])) (fun t k => ?_) ?_
            · show Steps p.tables e below (T981.setTop (mkF m 192 #[.val (.int p0), .val (.int p1), .val (.int p2), .val (.int p3), .val (.int p4), .val (.int p5), .val (.int ((1 : Int32) + (p4 &&& (3 : Int32)))), .val (.ref b454), .val (.ref b467), .val (.ref b482), .val (.ref b499), .val (.ref b517), .val (.int (1 : Int32)), .val (.ref b467), .val (.ref b467)] [(.int (3 : Int32))])) t
              refine XS.iload X981.here hx rfl (hb hby at_192) rfl ?_
              exact k
            refine own_goW (S' := T981.setTop (mkF m 202 #[.val (.int p0), .val (.int p1), .val (.int p2), .val (.int p3), .val (.int p4), .val (.int p5), .val (.int ((1 : Int32) + (p4 &&& (3 : Int32)))), .val (.ref b454), .val (.ref b467), .val (.ref b482), .val (.ref b499), .val (.ref b517), .val (.int (1 : Int32)), .val (.ref b467), .val (.ref b467)] [(.int (if (3 : Int32) = ((1 : Int32) + (p4 &&& (3 : Int32))) then (1 : Int32) else (0 : Int32)))])) (fun t k => ?_) ?_
            · show Steps p.tables e below (T981.setTop (mkF m 194 #[.val (.int p0), .val (.int p1), .val (.int p2), .val (.int p3), .val (.int p4), .val (.int p5), .val (.int ((1 : Int32) + (p4 &&& (3 : Int32)))), .val (.ref b454), .val (.ref b467), .val (.ref b482), .val (.ref b499), .val (.ref b517), .val (.int (1 : Int32)), .val (.ref b467), .val (.ref b467)] [(.int ((1 : Int32) + (p4 &&& (3 : Int32)))), (.int (3 : Int32))])) t
              by_cases hc194 : (3 : Int32) = ((1 : Int32) + (p4 &&& (3 : Int32)))
              · show Steps p.tables e below (T981.setTop (mkF m 194 #[.val (.int p0), .val (.int p1), .val (.int p2), .val (.int p3), .val (.int p4), .val (.int p5), .val (.int ((1 : Int32) + (p4 &&& (3 : Int32)))), .val (.ref b454), .val (.ref b467), .val (.ref b482), .val (.ref b499), .val (.ref b517), .val (.int (1 : Int32)), .val (.ref b467), .val (.ref b467)] [(.int ((1 : Int32) + (p4 &&& (3 : Int32)))), (.int (3 : Int32))])) t
                refine XS.icmpNo X981.here hx rfl (hb hby at_194) rfl (teq hc194).2 ?_
                show Steps p.tables e below (T981.setTop (mkF m 197 #[.val (.int p0), .val (.int p1), .val (.int p2), .val (.int p3), .val (.int p4), .val (.int p5), .val (.int ((1 : Int32) + (p4 &&& (3 : Int32)))), .val (.ref b454), .val (.ref b467), .val (.ref b482), .val (.ref b499), .val (.ref b517), .val (.int (1 : Int32)), .val (.ref b467), .val (.ref b467)] [])) t
                refine XS.iconst X981.here hx rfl (hb hby at_197) ?_
                show Steps p.tables e below (T981.setTop (mkF m 198 #[.val (.int p0), .val (.int p1), .val (.int p2), .val (.int p3), .val (.int p4), .val (.int p5), .val (.int ((1 : Int32) + (p4 &&& (3 : Int32)))), .val (.ref b454), .val (.ref b467), .val (.ref b482), .val (.ref b499), .val (.ref b517), .val (.int (1 : Int32)), .val (.ref b467), .val (.ref b467)] [(.int (1 : Int32))])) t
                refine XS.goto X981.here hx rfl (pc0 := 198) (pc' := 202) rfl (hb hby at_198) (by decide) (by decide) ?_
                first | exact k | (simp only [if_pos hc194] at k ⊢; exact k)
              · show Steps p.tables e below (T981.setTop (mkF m 194 #[.val (.int p0), .val (.int p1), .val (.int p2), .val (.int p3), .val (.int p4), .val (.int p5), .val (.int ((1 : Int32) + (p4 &&& (3 : Int32)))), .val (.ref b454), .val (.ref b467), .val (.ref b482), .val (.ref b499), .val (.ref b517), .val (.int (1 : Int32)), .val (.ref b467), .val (.ref b467)] [(.int ((1 : Int32) + (p4 &&& (3 : Int32)))), (.int (3 : Int32))])) t
                refine XS.icmpYes X981.here hx rfl (pc0 := 194) (pc' := 201) rfl (hb hby at_194) rfl (feq hc194).2 (by decide) (by decide) ?_
                show Steps p.tables e below (T981.setTop (mkF m 201 #[.val (.int p0), .val (.int p1), .val (.int p2), .val (.int p3), .val (.int p4), .val (.int p5), .val (.int ((1 : Int32) + (p4 &&& (3 : Int32)))), .val (.ref b454), .val (.ref b467), .val (.ref b482), .val (.ref b499), .val (.ref b517), .val (.int (1 : Int32)), .val (.ref b467), .val (.ref b467)] [])) t
                refine XS.iconst X981.here hx rfl (hb hby at_201) ?_
                first | exact k | (simp only [if_neg hc194] at k ⊢; exact k)
            have hfin : (if (3 : Int32) = ((1 : Int32) + (p4 &&& (3 : Int32))) then (1 : Int32) else (0 : Int32)) = (1 : Int32) := if_pos (own_sz hc86 hc100 (by decide))
            rw [hfin]
            obtain ⟨fs, hr, hrun, hended, hW, hsame⟩ := X981.leave (v := some (.int (1 : Int32))) (fun h => by rw [Bd.returns] at h; cases h)
            refine own_endW (v := some (.int (1 : Int32))) ?_ hrun hended ?_ (hS.ended hW (by show _ ≤ T981.heap.size; rw [e981]; exact hk957) hsame) (by decide) (by decide)
            · show Steps p.tables e below (T981.setTop (mkF m 202 #[.val (.int p0), .val (.int p1), .val (.int p2), .val (.int p3), .val (.int p4), .val (.int p5), .val (.int ((1 : Int32) + (p4 &&& (3 : Int32)))), .val (.ref b454), .val (.ref b467), .val (.ref b482), .val (.ref b499), .val (.ref b517), .val (.int (1 : Int32)), .val (.ref b467), .val (.ref b467)] [(.int (1 : Int32))])) _
              exact retN X981 hx (t := .boolean) Bd.returns (by simp) (hb hby at_202) hr
            · show Qrm0 Z p0 p1 p2 p3 p4 p5 w_s_COMPACT_STRINGS w_s_DEFAULTCAPACITY_EMPTY_ELEMENTDATA h0 n0 _ T981.heap _
              rw [e981]
              exact ⟨rfl, N984⟩
          · skip
            refine own_goW (S' := T599.setTop (mkF m 145 #[.val (.int p0), .val (.int p1), .val (.int p2), .val (.int p3), .val (.int p4), .val (.int p5), .val (.int ((1 : Int32) + (p4 &&& (3 : Int32)))), .val (.ref b454), .val (.ref b467), .val (.ref b482), .val (.ref b499), .val (.ref b517), .val (.int ((p5 &&& (2147483647 : Int32)) % ((1 : Int32) + (p4 &&& (3 : Int32))))), .unset, .unset] [(.int (2 : Int32)), (.int ((p5 &&& (2147483647 : Int32)) % ((1 : Int32) + (p4 &&& (3 : Int32)))))])) (fun t k => ?_) ?_
            · show Steps p.tables e below (T599.setTop (mkF m 134 #[.val (.int p0), .val (.int p1), .val (.int p2), .val (.int p3), .val (.int p4), .val (.int p5), .val (.int ((1 : Int32) + (p4 &&& (3 : Int32)))), .val (.ref b454), .val (.ref b467), .val (.ref b482), .val (.ref b499), .val (.ref b517), .val (.int ((p5 &&& (2147483647 : Int32)) % ((1 : Int32) + (p4 &&& (3 : Int32))))), .unset, .unset] [(.int (1 : Int32)), (.int ((p5 &&& (2147483647 : Int32)) % ((1 : Int32) + (p4 &&& (3 : Int32)))))])) t
              refine XS.icmpYes X599.here hx rfl (pc0 := 134) (pc' := 142) rfl (hb hby at_134) rfl (feq hc134).2 (by decide) (by decide) ?_
              show Steps p.tables e below (T599.setTop (mkF m 142 #[.val (.int p0), .val (.int p1), .val (.int p2), .val (.int p3), .val (.int p4), .val (.int p5), .val (.int ((1 : Int32) + (p4 &&& (3 : Int32)))), .val (.ref b454), .val (.ref b467), .val (.ref b482), .val (.ref b499), .val (.ref b517), .val (.int ((p5 &&& (2147483647 : Int32)) % ((1 : Int32) + (p4 &&& (3 : Int32))))), .unset, .unset] [])) t
              refine XS.iload X599.here hx rfl (hb hby at_142) rfl ?_
              show Steps p.tables e below (T599.setTop (mkF m 144 #[.val (.int p0), .val (.int p1), .val (.int p2), .val (.int p3), .val (.int p4), .val (.int p5), .val (.int ((1 : Int32) + (p4 &&& (3 : Int32)))), .val (.ref b454), .val (.ref b467), .val (.ref b482), .val (.ref b499), .val (.ref b517), .val (.int ((p5 &&& (2147483647 : Int32)) % ((1 : Int32) + (p4 &&& (3 : Int32))))), .unset, .unset] [(.int ((p5 &&& (2147483647 : Int32)) % ((1 : Int32) + (p4 &&& (3 : Int32)))))])) t
              refine XS.iconst X599.here hx rfl (hb hby at_144) ?_
              exact k
            by_cases hc145 : ((p5 &&& (2147483647 : Int32)) % ((1 : Int32) + (p4 &&& (3 : Int32)))) = (2 : Int32)
            · skip
              refine own_goW (S' := T599.setTop (mkF m 157 #[.val (.int p0), .val (.int p1), .val (.int p2), .val (.int p3), .val (.int p4), .val (.int p5), .val (.int ((1 : Int32) + (p4 &&& (3 : Int32)))), .val (.ref b454), .val (.ref b467), .val (.ref b482), .val (.ref b499), .val (.ref b517), .val (.int ((p5 &&& (2147483647 : Int32)) % ((1 : Int32) + (p4 &&& (3 : Int32))))), .val (.ref b482), .unset] [])) (fun t k => ?_) ?_
              · show Steps p.tables e below (T599.setTop (mkF m 145 #[.val (.int p0), .val (.int p1), .val (.int p2), .val (.int p3), .val (.int p4), .val (.int p5), .val (.int ((1 : Int32) + (p4 &&& (3 : Int32)))), .val (.ref b454), .val (.ref b467), .val (.ref b482), .val (.ref b499), .val (.ref b517), .val (.int ((p5 &&& (2147483647 : Int32)) % ((1 : Int32) + (p4 &&& (3 : Int32))))), .unset, .unset] [(.int (2 : Int32)), (.int ((p5 &&& (2147483647 : Int32)) % ((1 : Int32) + (p4 &&& (3 : Int32)))))])) t
                refine XS.icmpNo X599.here hx rfl (hb hby at_145) rfl (teq hc145).2 ?_
                show Steps p.tables e below (T599.setTop (mkF m 148 #[.val (.int p0), .val (.int p1), .val (.int p2), .val (.int p3), .val (.int p4), .val (.int p5), .val (.int ((1 : Int32) + (p4 &&& (3 : Int32)))), .val (.ref b454), .val (.ref b467), .val (.ref b482), .val (.ref b499), .val (.ref b517), .val (.int ((p5 &&& (2147483647 : Int32)) % ((1 : Int32) + (p4 &&& (3 : Int32))))), .unset, .unset] [])) t
                refine XS.aload X599.here hx rfl (hb hby at_148) rfl rfl ?_
                show Steps p.tables e below (T599.setTop (mkF m 150 #[.val (.int p0), .val (.int p1), .val (.int p2), .val (.int p3), .val (.int p4), .val (.int p5), .val (.int ((1 : Int32) + (p4 &&& (3 : Int32)))), .val (.ref b454), .val (.ref b467), .val (.ref b482), .val (.ref b499), .val (.ref b517), .val (.int ((p5 &&& (2147483647 : Int32)) % ((1 : Int32) + (p4 &&& (3 : Int32))))), .unset, .unset] [(.ref b482)])) t
                refine XS.goto X599.here hx rfl (pc0 := 150) (pc' := 155) rfl (hb hby at_150) (by decide) (by decide) ?_
                show Steps p.tables e below (T599.setTop (mkF m 155 #[.val (.int p0), .val (.int p1), .val (.int p2), .val (.int p3), .val (.int p4), .val (.int p5), .val (.int ((1 : Int32) + (p4 &&& (3 : Int32)))), .val (.ref b454), .val (.ref b467), .val (.ref b482), .val (.ref b499), .val (.ref b517), .val (.int ((p5 &&& (2147483647 : Int32)) % ((1 : Int32) + (p4 &&& (3 : Int32))))), .unset, .unset] [(.ref b482)])) t
                refine XS.astore X599.here hx rfl (hb hby at_155) rfl rfl (l' := #[.val (.int p0), .val (.int p1), .val (.int p2), .val (.int p3), .val (.int p4), .val (.int p5), .val (.int ((1 : Int32) + (p4 &&& (3 : Int32)))), .val (.ref b454), .val (.ref b467), .val (.ref b482), .val (.ref b499), .val (.ref b517), .val (.int ((p5 &&& (2147483647 : Int32)) % ((1 : Int32) + (p4 &&& (3 : Int32))))), .val (.ref b482), .unset]) rfl ?_
                exact k
              obtain ⟨b985, T985, h985, k985, X985, e985, E985, hS, hk985, hZ, hown, st985⟩ := ldcS (s := s) (vm0 := s.vm) X599 hx hZ hown (hw _ (List.mem_of_getElem? (i := 82) rfl)) (own_strW (hw _ (List.mem_of_getElem? (i := 2) rfl)) (hw _ (List.mem_of_getElem? (i := 10) rfl)) (hw _ (List.mem_of_getElem? (i := 14) rfl)) (hw _ (List.mem_of_getElem? (i := 23) rfl)) (hw _ (List.mem_of_getElem? (i := 25) rfl)) (hw _ (List.mem_of_getElem? (i := 83) rfl)) (hw _ (List.mem_of_getElem? (i := 84) rfl))) rfl hS hk617 (g := (mkF m 157 #[.val (.int p0), .val (.int p1), .val (.int p2), .val (.int p3), .val (.int p4), .val (.int p5), .val (.int ((1 : Int32) + (p4 &&& (3 : Int32)))), .val (.ref b454), .val (.ref b467), .val (.ref b482), .val (.ref b499), .val (.ref b517), .val (.int ((p5 &&& (2147483647 : Int32)) % ((1 : Int32) + (p4 &&& (3 : Int32))))), .val (.ref b482), .unset] [])) rfl (hb hby at_157) (n := 12) (by decide) (by decide) (by decide) (by decide)
              have Z986 : n0 ≤ h985.size := Nat.le_trans Z616 E985.1
              have hk987 := Nat.le_trans hk617 E985.1
              have f988 : own_Len Z h985 w_s_DEFAULTCAPACITY_EMPTY_ELEMENTDATA (.object "java/lang/Object") (0 : Int32) := f608.ext E985
              have f989 : Sta Z h985 "java/lang/String" "COMPACT_STRINGS" "Z" (.int w_s_COMPACT_STRINGS) := Sta.ext E985 f609
              have f990 : Sta Z h985 "java/util/ArrayList" "DEFAULTCAPACITY_EMPTY_ELEMENTDATA" "[Ljava/lang/Object;" (.ref w_s_DEFAULTCAPACITY_EMPTY_ELEMENTDATA) := Sta.ext E985 f610
              have f991 : Exa Z h985 b454 "java/lang/String" := Exa.ext E985 f611
              have f992 : Exa Z h985 b467 "java/lang/String" := Exa.ext E985 f612
              have f993 : Exa Z h985 b482 "java/lang/String" := Exa.ext E985 f613
              have f994 : Exa Z h985 b499 "java/lang/String" := Exa.ext E985 f614
              have f995 : Exa Z h985 b517 "java/util/ArrayList" := Exa.ext E985 p602
              have f996 : Fld Z h985 b517 "java/util/AbstractList" "modCount" "I" (.int ((((0 : Int32) + (1 : Int32)) + (1 : Int32)) + (1 : Int32))) := Fld.ext E985 p603
              have f997 : Fld Z h985 b517 "java/util/ArrayList" "elementData" "[Ljava/lang/Object;" (.ref b554) := Fld.ext E985 p604
              have f998 : Fld Z h985 b517 "java/util/ArrayList" "size" "I" (.int (3 : Int32)) := Fld.ext E985 p605
              have f999 : own_ArvR Z h985 b554 "java/lang/Object" (10 : Int32) [(.ref b454), (.ref b467), (.ref b482), .null, .null, .null, .null, .null, .null, .null] := p606.ext E985
              refine own_goW st985 ?_
              refine own_goW (S' := T985.setTop (mkF m 163 #[.val (.int p0), .val (.int p1), .val (.int p2), .val (.int p3), .val (.int p4), .val (.int p5), .val (.int ((1 : Int32) + (p4 &&& (3 : Int32)))), .val (.ref b454), .val (.ref b467), .val (.ref b482), .val (.ref b499), .val (.ref b517), .val (.int ((p5 &&& (2147483647 : Int32)) % ((1 : Int32) + (p4 &&& (3 : Int32))))), .val (.ref b482), .unset] [(.int ((p5 &&& (2147483647 : Int32)) % ((1 : Int32) + (p4 &&& (3 : Int32))))), (.ref b517), (.ref b985)])) (fun t k => ?_) ?_
              · show Steps p.tables e below (T985.setTop (mkF m 159 #[.val (.int p0), .val (.int p1), .val (.int p2), .val (.int p3), .val (.int p4), .val (.int p5), .val (.int ((1 : Int32) + (p4 &&& (3 : Int32)))), .val (.ref b454), .val (.ref b467), .val (.ref b482), .val (.ref b499), .val (.ref b517), .val (.int ((p5 &&& (2147483647 : Int32)) % ((1 : Int32) + (p4 &&& (3 : Int32))))), .val (.ref b482), .unset] [(.ref b985)])) t
                refine XS.aload X985.here hx rfl (hb hby at_159) rfl rfl ?_
                show Steps p.tables e below (T985.setTop (mkF m 161 #[.val (.int p0), .val (.int p1), .val (.int p2), .val (.int p3), .val (.int p4), .val (.int p5), .val (.int ((1 : Int32) + (p4 &&& (3 : Int32)))), .val (.ref b454), .val (.ref b467), .val (.ref b482), .val (.ref b499), .val (.ref b517), .val (.int ((p5 &&& (2147483647 : Int32)) % ((1 : Int32) + (p4 &&& (3 : Int32))))), .val (.ref b482), .unset] [(.ref b517), (.ref b985)])) t
                refine XS.iload X985.here hx rfl (hb hby at_161) rfl ?_
                exact k
              obtain ⟨b1000, T1000, h1000, k1000, X1000, e1000, E1000, hS, hk1000, hZ, hown, st1000⟩ := ldcS (s := s) (vm0 := T985.vm) X985 hx hZ hown (hw _ (List.mem_of_getElem? (i := 85) rfl)) (own_strW (hw _ (List.mem_of_getElem? (i := 2) rfl)) (hw _ (List.mem_of_getElem? (i := 10) rfl)) (hw _ (List.mem_of_getElem? (i := 14) rfl)) (hw _ (List.mem_of_getElem? (i := 23) rfl)) (hw _ (List.mem_of_getElem? (i := 25) rfl)) (hw _ (List.mem_of_getElem? (i := 83) rfl)) (hw _ (List.mem_of_getElem? (i := 84) rfl))) e985 hS hk985 (g := (mkF m 163 #[.val (.int p0), .val (.int p1), .val (.int p2), .val (.int p3), .val (.int p4), .val (.int p5), .val (.int ((1 : Int32) + (p4 &&& (3 : Int32)))), .val (.ref b454), .val (.ref b467), .val (.ref b482), .val (.ref b499), .val (.ref b517), .val (.int ((p5 &&& (2147483647 : Int32)) % ((1 : Int32) + (p4 &&& (3 : Int32))))), .val (.ref b482), .unset] [(.int ((p5 &&& (2147483647 : Int32)) % ((1 : Int32) + (p4 &&& (3 : Int32))))), (.ref b517), (.ref b985)])) rfl (hb hby at_163) (n := 8) (by decide) (by decide) (by decide) (by decide)
              have Z1001 : n0 ≤ h1000.size := Nat.le_trans Z986 E1000.1
              have hk1002 := Nat.le_trans hk985 E1000.1
              have f1003 : own_Len Z h1000 w_s_DEFAULTCAPACITY_EMPTY_ELEMENTDATA (.object "java/lang/Object") (0 : Int32) := f988.ext E1000
              have f1004 : Sta Z h1000 "java/lang/String" "COMPACT_STRINGS" "Z" (.int w_s_COMPACT_STRINGS) := Sta.ext E1000 f989
              have f1005 : Sta Z h1000 "java/util/ArrayList" "DEFAULTCAPACITY_EMPTY_ELEMENTDATA" "[Ljava/lang/Object;" (.ref w_s_DEFAULTCAPACITY_EMPTY_ELEMENTDATA) := Sta.ext E1000 f990
              have f1006 : Exa Z h1000 b454 "java/lang/String" := Exa.ext E1000 f991
              have f1007 : Exa Z h1000 b467 "java/lang/String" := Exa.ext E1000 f992
              have f1008 : Exa Z h1000 b482 "java/lang/String" := Exa.ext E1000 f993
              have f1009 : Exa Z h1000 b499 "java/lang/String" := Exa.ext E1000 f994
              have f1010 : Exa Z h1000 b517 "java/util/ArrayList" := Exa.ext E1000 f995
              have f1011 : Fld Z h1000 b517 "java/util/AbstractList" "modCount" "I" (.int ((((0 : Int32) + (1 : Int32)) + (1 : Int32)) + (1 : Int32))) := Fld.ext E1000 f996
              have f1012 : Fld Z h1000 b517 "java/util/ArrayList" "elementData" "[Ljava/lang/Object;" (.ref b554) := Fld.ext E1000 f997
              have f1013 : Fld Z h1000 b517 "java/util/ArrayList" "size" "I" (.int (3 : Int32)) := Fld.ext E1000 f998
              have f1014 : own_ArvR Z h1000 b554 "java/lang/Object" (10 : Int32) [(.ref b454), (.ref b467), (.ref b482), .null, .null, .null, .null, .null, .null, .null] := f999.ext E1000
              refine own_goW st1000 ?_
              obtain ⟨b1015, T1015, h1015, k1015, X1015, e1015, E1015, hS, hk1015, hZ, hown, st1015⟩ := ldcS (s := s) (vm0 := T1000.vm) X1000 hx hZ hown (hw _ (List.mem_of_getElem? (i := 86) rfl)) (own_strW (hw _ (List.mem_of_getElem? (i := 2) rfl)) (hw _ (List.mem_of_getElem? (i := 10) rfl)) (hw _ (List.mem_of_getElem? (i := 14) rfl)) (hw _ (List.mem_of_getElem? (i := 23) rfl)) (hw _ (List.mem_of_getElem? (i := 25) rfl)) (hw _ (List.mem_of_getElem? (i := 83) rfl)) (hw _ (List.mem_of_getElem? (i := 84) rfl))) e1000 hS hk1000 (g := (mkF m 165 #[.val (.int p0), .val (.int p1), .val (.int p2), .val (.int p3), .val (.int p4), .val (.int p5), .val (.int ((1 : Int32) + (p4 &&& (3 : Int32)))), .val (.ref b454), .val (.ref b467), .val (.ref b482), .val (.ref b499), .val (.ref b517), .val (.int ((p5 &&& (2147483647 : Int32)) % ((1 : Int32) + (p4 &&& (3 : Int32))))), .val (.ref b482), .unset] [(.ref b1000), (.int ((p5 &&& (2147483647 : Int32)) % ((1 : Int32) + (p4 &&& (3 : Int32))))), (.ref b517), (.ref b985)])) rfl (hb hby at_165) (n := 28) (by decide) (by decide) (by decide) (by decide)
              have Z1016 : n0 ≤ h1015.size := Nat.le_trans Z1001 E1015.1
              have hk1017 := Nat.le_trans hk1000 E1015.1
              have f1018 : own_Len Z h1015 w_s_DEFAULTCAPACITY_EMPTY_ELEMENTDATA (.object "java/lang/Object") (0 : Int32) := f1003.ext E1015
              have f1019 : Sta Z h1015 "java/lang/String" "COMPACT_STRINGS" "Z" (.int w_s_COMPACT_STRINGS) := Sta.ext E1015 f1004
              have f1020 : Sta Z h1015 "java/util/ArrayList" "DEFAULTCAPACITY_EMPTY_ELEMENTDATA" "[Ljava/lang/Object;" (.ref w_s_DEFAULTCAPACITY_EMPTY_ELEMENTDATA) := Sta.ext E1015 f1005
              have f1021 : Exa Z h1015 b454 "java/lang/String" := Exa.ext E1015 f1006
              have f1022 : Exa Z h1015 b467 "java/lang/String" := Exa.ext E1015 f1007
              have f1023 : Exa Z h1015 b482 "java/lang/String" := Exa.ext E1015 f1008
              have f1024 : Exa Z h1015 b499 "java/lang/String" := Exa.ext E1015 f1009
              have f1025 : Exa Z h1015 b517 "java/util/ArrayList" := Exa.ext E1015 f1010
              have f1026 : Fld Z h1015 b517 "java/util/AbstractList" "modCount" "I" (.int ((((0 : Int32) + (1 : Int32)) + (1 : Int32)) + (1 : Int32))) := Fld.ext E1015 f1011
              have f1027 : Fld Z h1015 b517 "java/util/ArrayList" "elementData" "[Ljava/lang/Object;" (.ref b554) := Fld.ext E1015 f1012
              have f1028 : Fld Z h1015 b517 "java/util/ArrayList" "size" "I" (.int (3 : Int32)) := Fld.ext E1015 f1013
              have f1029 : own_ArvR Z h1015 b554 "java/lang/Object" (10 : Int32) [(.ref b454), (.ref b467), (.ref b482), .null, .null, .null, .null, .null, .null, .null] := f1014.ext E1015
              refine own_goW st1015 ?_
              have hf1030 : ((p5 &&& (2147483647 : Int32)) % ((1 : Int32) + (p4 &&& (3 : Int32)))) = (2 : Int32) := hc145
              rw [hf1030]
              obtain ⟨_, _, ⟨T1031, L1031, kk1031, nn1031⟩, -, X1031, ⟨Lc1031, hQ1031, l1031, y1031, z1031⟩, st1031⟩ := Jvm.LawKit.callS X1015 hx (y := (⟨"com/example/scorebench/scorebench/OptionValue", "of", "(Ljava/lang/String;Ljava/util/List;ILjava/lang/String;Ljava/lang/String;)Ljava/lang/String;"⟩ : MethodName)) hown (mvT hZ (hw _ (List.mem_of_getElem? (i := 87) rfl))) (mvT hZ (hw _ (List.mem_of_getElem? (i := 88) rfl))) (mvT hZ (hw _ (List.mem_of_getElem? (i := 89) rfl))) (mvT hZ (hw _ (List.mem_of_getElem? (i := 90) rfl))) (by decide) (backOf (W := 0) (of2 l Z a0 hw [] b985 b517 b1000 b1015 (3 : Int32) b554 (.ref b454) (.ref b467) b482 (.null) (.null) (.null) (.null) (.null) (.null) (.null) h1015 n0 Z1016 (by decide : (2 : Int32) < (3 : Int32)) f1028 f1025 (by decide : ¬ ((2 : Int32) = (3 : Int32))) f1027 f1029 f1023) hZ (hw _ (List.mem_of_getElem? (i := 90) rfl)) (hw _ (List.mem_of_getElem? (i := 89) rfl)) (by decide) (by decide)) (g := (mkF m 167 #[.val (.int p0), .val (.int p1), .val (.int p2), .val (.int p3), .val (.int p4), .val (.int p5), .val (.int ((1 : Int32) + (p4 &&& (3 : Int32)))), .val (.ref b454), .val (.ref b467), .val (.ref b482), .val (.ref b499), .val (.ref b517), .val (.int (2 : Int32)), .val (.ref b482), .unset] [(.ref b1015), (.ref b1000), (.int (2 : Int32)), (.ref b517), (.ref b985)])) rfl (by rw [hml]; rfl) (argsL := [(.ref b985), (.ref b517), (.int (2 : Int32)), (.ref b1000), (.ref b1015)]) (rest := []) (lenOf pd_179 rfl) rfl (by show 2 * 0 + _ ≤ _; exact Nat.le_of_eq rfl) (hb hby at_167) (fun _ _ => ⟨rfl, e1015, (by decide : 16 + 0 ≤ _), (by decide : 93 + 0 ≤ _)⟩)
              dsimp only [Pt.U, Pt.locs, Pt.cells, Pt.slots] at X1031 l1031 y1031 z1031 st1031 hQ1031
              subst l1031 y1031 z1031
              obtain ⟨rfl, N1032, e1031⟩ := hQ1031
              have N1034 := Fr.app N607 N1032
              refine own_goW st1031 ?_
              refine own_goW (S' := T1031.setTop (mkF m 181 #[.val (.int p0), .val (.int p1), .val (.int p2), .val (.int p3), .val (.int p4), .val (.int p5), .val (.int ((1 : Int32) + (p4 &&& (3 : Int32)))), .val (.ref b454), .val (.ref b467), .val (.ref b482), .val (.ref b499), .val (.ref b517), .val (.int (2 : Int32)), .val (.ref b482), .val (.ref b482)] [(.ref b482), (.ref b482)])) (fun t k => ?_) ?_
              · show Steps p.tables e below (T1031.setTop (mkF m 170 #[.val (.int p0), .val (.int p1), .val (.int p2), .val (.int p3), .val (.int p4), .val (.int p5), .val (.int ((1 : Int32) + (p4 &&& (3 : Int32)))), .val (.ref b454), .val (.ref b467), .val (.ref b482), .val (.ref b499), .val (.ref b517), .val (.int (2 : Int32)), .val (.ref b482), .unset] [(.ref b482)])) t
                refine XS.astore X1031.here hx rfl (hb hby at_170) rfl rfl (l' := #[.val (.int p0), .val (.int p1), .val (.int p2), .val (.int p3), .val (.int p4), .val (.int p5), .val (.int ((1 : Int32) + (p4 &&& (3 : Int32)))), .val (.ref b454), .val (.ref b467), .val (.ref b482), .val (.ref b499), .val (.ref b517), .val (.int (2 : Int32)), .val (.ref b482), .val (.ref b482)]) rfl ?_
                show Steps p.tables e below (T1031.setTop (mkF m 172 #[.val (.int p0), .val (.int p1), .val (.int p2), .val (.int p3), .val (.int p4), .val (.int p5), .val (.int ((1 : Int32) + (p4 &&& (3 : Int32)))), .val (.ref b454), .val (.ref b467), .val (.ref b482), .val (.ref b499), .val (.ref b517), .val (.int (2 : Int32)), .val (.ref b482), .val (.ref b482)] [])) t
                refine XS.aload X1031.here hx rfl (hb hby at_172) rfl rfl ?_
                show Steps p.tables e below (T1031.setTop (mkF m 174 #[.val (.int p0), .val (.int p1), .val (.int p2), .val (.int p3), .val (.int p4), .val (.int p5), .val (.int ((1 : Int32) + (p4 &&& (3 : Int32)))), .val (.ref b454), .val (.ref b467), .val (.ref b482), .val (.ref b499), .val (.ref b517), .val (.int (2 : Int32)), .val (.ref b482), .val (.ref b482)] [(.ref b482)])) t
                refine XS.ifnullNo X1031.here hx rfl (hb hby at_174) rfl ?_
                show Steps p.tables e below (T1031.setTop (mkF m 177 #[.val (.int p0), .val (.int p1), .val (.int p2), .val (.int p3), .val (.int p4), .val (.int p5), .val (.int ((1 : Int32) + (p4 &&& (3 : Int32)))), .val (.ref b454), .val (.ref b467), .val (.ref b482), .val (.ref b499), .val (.ref b517), .val (.int (2 : Int32)), .val (.ref b482), .val (.ref b482)] [])) t
                refine XS.aload X1031.here hx rfl (hb hby at_177) rfl rfl ?_
                show Steps p.tables e below (T1031.setTop (mkF m 179 #[.val (.int p0), .val (.int p1), .val (.int p2), .val (.int p3), .val (.int p4), .val (.int p5), .val (.int ((1 : Int32) + (p4 &&& (3 : Int32)))), .val (.ref b454), .val (.ref b467), .val (.ref b482), .val (.ref b499), .val (.ref b517), .val (.int (2 : Int32)), .val (.ref b482), .val (.ref b482)] [(.ref b482)])) t
                refine XS.aload X1031.here hx rfl (hb hby at_179) rfl rfl ?_
                exact k
              obtain ⟨cq1035, kq1035, qa1035, qb1035, qc1035⟩ := isOf hZ e1031 f1023
              obtain ⟨_, _, ⟨T1035, L1035, kk1035, nn1035⟩, -, X1035, ⟨Lc1035, hQ1035, l1035, y1035, z1035⟩, st1035⟩ := X1031.virtualBack hx (y := (⟨"java/lang/String", "equals", "(Ljava/lang/Object;)Z"⟩ : MethodName)) (z := (⟨"java/lang/String", "equals", "(Ljava/lang/Object;)Z"⟩ : MethodName)) hown (mvT hZ (hw _ (List.mem_of_getElem? (i := 122) rfl))) (mvT hZ (hw _ (List.mem_of_getElem? (i := 123) rfl))) (notFace_of_selects (args := #[]) (mvT hZ (hw _ (List.mem_of_getElem? (i := 125) rfl)))) (mvT hZ (hw _ (List.mem_of_getElem? (i := 125) rfl))) (mvT hZ (hw _ (List.mem_of_getElem? (i := 124) rfl))) (by decide) (backOf (W := 0) (eqSame l Z a0 hw [] b482 b482 h1015 n0 Z1016 (rfl : b482 = b482)) hZ (hw _ (List.mem_of_getElem? (i := 126) rfl)) (hw _ (List.mem_of_getElem? (i := 2) rfl)) (by decide) (by decide)) qa1035 qc1035 (g := (mkF m 181 #[.val (.int p0), .val (.int p1), .val (.int p2), .val (.int p3), .val (.int p4), .val (.int p5), .val (.int ((1 : Int32) + (p4 &&& (3 : Int32)))), .val (.ref b454), .val (.ref b467), .val (.ref b482), .val (.ref b499), .val (.ref b517), .val (.int (2 : Int32)), .val (.ref b482), .val (.ref b482)] [(.ref b482), (.ref b482)])) rfl (by rw [hml]; rfl) (Steps.refl _) (argsL := [(.ref b482)]) (rest := []) (lenOf pd_178 rfl) rfl (by show 2 * 0 + _ ≤ _; exact Nat.le_of_eq rfl) (hb hby at_181) (fun _ _ => ⟨rfl, e1031, (by decide : 16 + 0 ≤ _), (by decide : 93 + 0 ≤ _)⟩)
              dsimp only [Pt.U, Pt.locs, Pt.cells, Pt.slots] at X1035 l1035 y1035 z1035 st1035 hQ1035
              subst l1035 y1035 z1035
              obtain ⟨rfl, N1036, e1035⟩ := hQ1035
              have N1038 := Fr.app N1034 N1036
              refine own_goTW st1035 ?_
              refine own_goW (S' := T1035.setTop (mkF m 189 #[.val (.int p0), .val (.int p1), .val (.int p2), .val (.int p3), .val (.int p4), .val (.int p5), .val (.int ((1 : Int32) + (p4 &&& (3 : Int32)))), .val (.ref b454), .val (.ref b467), .val (.ref b482), .val (.ref b499), .val (.ref b517), .val (.int (2 : Int32)), .val (.ref b482), .val (.ref b482)] [(.ref b517)])) (fun t k => ?_) ?_
              · show Steps p.tables e below (T1035.setTop (mkF m 184 #[.val (.int p0), .val (.int p1), .val (.int p2), .val (.int p3), .val (.int p4), .val (.int p5), .val (.int ((1 : Int32) + (p4 &&& (3 : Int32)))), .val (.ref b454), .val (.ref b467), .val (.ref b482), .val (.ref b499), .val (.ref b517), .val (.int (2 : Int32)), .val (.ref b482), .val (.ref b482)] [(.int (1 : Int32))])) t
                refine XS.ifNo X1035.here hx rfl (hb hby at_184) rfl ((if0 _ _).trans (feq (by decide)).1) ?_
                show Steps p.tables e below (T1035.setTop (mkF m 187 #[.val (.int p0), .val (.int p1), .val (.int p2), .val (.int p3), .val (.int p4), .val (.int p5), .val (.int ((1 : Int32) + (p4 &&& (3 : Int32)))), .val (.ref b454), .val (.ref b467), .val (.ref b482), .val (.ref b499), .val (.ref b517), .val (.int (2 : Int32)), .val (.ref b482), .val (.ref b482)] [])) t
                refine XS.aload X1035.here hx rfl (hb hby at_187) rfl rfl ?_
                exact k
              obtain ⟨cq1039, kq1039, qa1039, qb1039, qc1039⟩ := isOf hZ e1035 f1025
              obtain ⟨_, _, ⟨T1039, L1039, kk1039, nn1039⟩, -, X1039, ⟨Lc1039, hQ1039, l1039, y1039, z1039⟩, st1039⟩ := X1035.virtualBack hx (y := (⟨"java/util/ArrayList", "size", "()I"⟩ : MethodName)) (z := (⟨"java/util/ArrayList", "size", "()I"⟩ : MethodName)) hown (mvT hZ (hw _ (List.mem_of_getElem? (i := 127) rfl))) (mvT hZ (hw _ (List.mem_of_getElem? (i := 128) rfl))) (notFace_of_selects (args := #[]) (mvT hZ (hw _ (List.mem_of_getElem? (i := 129) rfl)))) (mvT hZ (hw _ (List.mem_of_getElem? (i := 129) rfl))) (mvT hZ (hw _ (List.mem_of_getElem? (i := 95) rfl))) (by decide) (backOf (W := 0) (alSize l Z a0 hw [] b517 (3 : Int32) h1015 n0 Z1016 f1028) hZ (hw _ (List.mem_of_getElem? (i := 99) rfl)) (hw _ (List.mem_of_getElem? (i := 28) rfl)) (by decide) (by decide)) qa1039 qc1039 (g := (mkF m 189 #[.val (.int p0), .val (.int p1), .val (.int p2), .val (.int p3), .val (.int p4), .val (.int p5), .val (.int ((1 : Int32) + (p4 &&& (3 : Int32)))), .val (.ref b454), .val (.ref b467), .val (.ref b482), .val (.ref b499), .val (.ref b517), .val (.int (2 : Int32)), .val (.ref b482), .val (.ref b482)] [(.ref b517)])) rfl (by rw [hml]; rfl) (Steps.refl _) (argsL := []) (rest := []) (lenOf pd_164 rfl) rfl (by show 2 * 0 + _ ≤ _; exact Nat.le_of_eq rfl) (hb hby at_189) (fun _ _ => ⟨rfl, e1035, (by decide : 16 + 0 ≤ _), (by decide : 93 + 0 ≤ _)⟩)
              dsimp only [Pt.U, Pt.locs, Pt.cells, Pt.slots] at X1039 l1039 y1039 z1039 st1039 hQ1039
              subst l1039 y1039 z1039
              obtain ⟨rfl, N1040, e1039⟩ := hQ1039
              have N1042 := Fr.app N1038 N1040
              refine own_goTW st1039 ?_
              refine own_goW (S' := T1039.setTop (mkF m 194 #[.val (.int p0), .val (.int p1), .val (.int p2), .val (.int p3), .val (.int p4), .val (.int p5), .val (.int ((1 : Int32) + (p4 &&& (3 : Int32)))), .val (.ref b454), .val (.ref b467), .val (.ref b482), .val (.ref b499), .val (.ref b517), .val (.int (2 : Int32)), .val (.ref b482), .val (.ref b482)] [(.int ((1 : Int32) + (p4 &&& (3 : Int32)))), (.int (3 : Int32))])) (fun t k => ?_) ?_
              · show Steps p.tables e below (T1039.setTop (mkF m 192 #[.val (.int p0), .val (.int p1), .val (.int p2), .val (.int p3), .val (.int p4), .val (.int p5), .val (.int ((1 : Int32) + (p4 &&& (3 : Int32)))), .val (.ref b454), .val (.ref b467), .val (.ref b482), .val (.ref b499), .val (.ref b517), .val (.int (2 : Int32)), .val (.ref b482), .val (.ref b482)] [(.int (3 : Int32))])) t
                refine XS.iload X1039.here hx rfl (hb hby at_192) rfl ?_
                exact k
              refine own_goW (S' := T1039.setTop (mkF m 202 #[.val (.int p0), .val (.int p1), .val (.int p2), .val (.int p3), .val (.int p4), .val (.int p5), .val (.int ((1 : Int32) + (p4 &&& (3 : Int32)))), .val (.ref b454), .val (.ref b467), .val (.ref b482), .val (.ref b499), .val (.ref b517), .val (.int (2 : Int32)), .val (.ref b482), .val (.ref b482)] [(.int (if (3 : Int32) = ((1 : Int32) + (p4 &&& (3 : Int32))) then (1 : Int32) else (0 : Int32)))])) (fun t k => ?_) ?_
              · show Steps p.tables e below (T1039.setTop (mkF m 194 #[.val (.int p0), .val (.int p1), .val (.int p2), .val (.int p3), .val (.int p4), .val (.int p5), .val (.int ((1 : Int32) + (p4 &&& (3 : Int32)))), .val (.ref b454), .val (.ref b467), .val (.ref b482), .val (.ref b499), .val (.ref b517), .val (.int (2 : Int32)), .val (.ref b482), .val (.ref b482)] [(.int ((1 : Int32) + (p4 &&& (3 : Int32)))), (.int (3 : Int32))])) t
                by_cases hc194 : (3 : Int32) = ((1 : Int32) + (p4 &&& (3 : Int32)))
                · show Steps p.tables e below (T1039.setTop (mkF m 194 #[.val (.int p0), .val (.int p1), .val (.int p2), .val (.int p3), .val (.int p4), .val (.int p5), .val (.int ((1 : Int32) + (p4 &&& (3 : Int32)))), .val (.ref b454), .val (.ref b467), .val (.ref b482), .val (.ref b499), .val (.ref b517), .val (.int (2 : Int32)), .val (.ref b482), .val (.ref b482)] [(.int ((1 : Int32) + (p4 &&& (3 : Int32)))), (.int (3 : Int32))])) t
                  refine XS.icmpNo X1039.here hx rfl (hb hby at_194) rfl (teq hc194).2 ?_
                  show Steps p.tables e below (T1039.setTop (mkF m 197 #[.val (.int p0), .val (.int p1), .val (.int p2), .val (.int p3), .val (.int p4), .val (.int p5), .val (.int ((1 : Int32) + (p4 &&& (3 : Int32)))), .val (.ref b454), .val (.ref b467), .val (.ref b482), .val (.ref b499), .val (.ref b517), .val (.int (2 : Int32)), .val (.ref b482), .val (.ref b482)] [])) t
                  refine XS.iconst X1039.here hx rfl (hb hby at_197) ?_
                  show Steps p.tables e below (T1039.setTop (mkF m 198 #[.val (.int p0), .val (.int p1), .val (.int p2), .val (.int p3), .val (.int p4), .val (.int p5), .val (.int ((1 : Int32) + (p4 &&& (3 : Int32)))), .val (.ref b454), .val (.ref b467), .val (.ref b482), .val (.ref b499), .val (.ref b517), .val (.int (2 : Int32)), .val (.ref b482), .val (.ref b482)] [(.int (1 : Int32))])) t
                  refine XS.goto X1039.here hx rfl (pc0 := 198) (pc' := 202) rfl (hb hby at_198) (by decide) (by decide) ?_
                  first | exact k | (simp only [if_pos hc194] at k ⊢; exact k)
                · show Steps p.tables e below (T1039.setTop (mkF m 194 #[.val (.int p0), .val (.int p1), .val (.int p2), .val (.int p3), .val (.int p4), .val (.int p5), .val (.int ((1 : Int32) + (p4 &&& (3 : Int32)))), .val (.ref b454), .val (.ref b467), .val (.ref b482), .val (.ref b499), .val (.ref b517), .val (.int (2 : Int32)), .val (.ref b482), .val (.ref b482)] [(.int ((1 : Int32) + (p4 &&& (3 : Int32)))), (.int (3 : Int32))])) t
                  refine XS.icmpYes X1039.here hx rfl (pc0 := 194) (pc' := 201) rfl (hb hby at_194) rfl (feq hc194).2 (by decide) (by decide) ?_
                  show Steps p.tables e below (T1039.setTop (mkF m 201 #[.val (.int p0), .val (.int p1), .val (.int p2), .val (.int p3), .val (.int p4), .val (.int p5), .val (.int ((1 : Int32) + (p4 &&& (3 : Int32)))), .val (.ref b454), .val (.ref b467), .val (.ref b482), .val (.ref b499), .val (.ref b517), .val (.int (2 : Int32)), .val (.ref b482), .val (.ref b482)] [])) t
                  refine XS.iconst X1039.here hx rfl (hb hby at_201) ?_
                  first | exact k | (simp only [if_neg hc194] at k ⊢; exact k)
              have hfin : (if (3 : Int32) = ((1 : Int32) + (p4 &&& (3 : Int32))) then (1 : Int32) else (0 : Int32)) = (1 : Int32) := if_pos (own_sz hc86 hc100 (by decide))
              rw [hfin]
              obtain ⟨fs, hr, hrun, hended, hW, hsame⟩ := X1039.leave (v := some (.int (1 : Int32))) (fun h => by rw [Bd.returns] at h; cases h)
              refine own_endW (v := some (.int (1 : Int32))) ?_ hrun hended ?_ (hS.ended hW (by show _ ≤ T1039.heap.size; rw [e1039]; exact hk1015) hsame) (by decide) (by decide)
              · show Steps p.tables e below (T1039.setTop (mkF m 202 #[.val (.int p0), .val (.int p1), .val (.int p2), .val (.int p3), .val (.int p4), .val (.int p5), .val (.int ((1 : Int32) + (p4 &&& (3 : Int32)))), .val (.ref b454), .val (.ref b467), .val (.ref b482), .val (.ref b499), .val (.ref b517), .val (.int (2 : Int32)), .val (.ref b482), .val (.ref b482)] [(.int (1 : Int32))])) _
                exact retN X1039 hx (t := .boolean) Bd.returns (by simp) (hb hby at_202) hr
              · show Qrm0 Z p0 p1 p2 p3 p4 p5 w_s_COMPACT_STRINGS w_s_DEFAULTCAPACITY_EMPTY_ELEMENTDATA h0 n0 _ T1039.heap _
                rw [e1039]
                exact ⟨rfl, N1042⟩
            · skip
              exfalso
              exact own_at2 hc100 hc123 hc134 hc145
    · skip
      refine own_goW (S' := T580.setTop (mkF m 100 #[.val (.int p0), .val (.int p1), .val (.int p2), .val (.int p3), .val (.int p4), .val (.int p5), .val (.int ((1 : Int32) + (p4 &&& (3 : Int32)))), .val (.ref b454), .val (.ref b467), .val (.ref b482), .val (.ref b499), .val (.ref b517), .unset, .unset, .unset] [(.int (3 : Int32)), (.int ((1 : Int32) + (p4 &&& (3 : Int32))))])) (fun t k => ?_) ?_
      · show Steps p.tables e below (T580.setTop (mkF m 86 #[.val (.int p0), .val (.int p1), .val (.int p2), .val (.int p3), .val (.int p4), .val (.int p5), .val (.int ((1 : Int32) + (p4 &&& (3 : Int32)))), .val (.ref b454), .val (.ref b467), .val (.ref b482), .val (.ref b499), .val (.ref b517), .unset, .unset, .unset] [(.int (2 : Int32)), (.int ((1 : Int32) + (p4 &&& (3 : Int32))))])) t
        refine XS.icmpYes X580.here hx rfl (pc0 := 86) (pc' := 97) rfl (hb hby at_86) rfl (flt hc86).2.2.2 (by decide) (by decide) ?_
        show Steps p.tables e below (T580.setTop (mkF m 97 #[.val (.int p0), .val (.int p1), .val (.int p2), .val (.int p3), .val (.int p4), .val (.int p5), .val (.int ((1 : Int32) + (p4 &&& (3 : Int32)))), .val (.ref b454), .val (.ref b467), .val (.ref b482), .val (.ref b499), .val (.ref b517), .unset, .unset, .unset] [])) t
        refine XS.iload X580.here hx rfl (hb hby at_97) rfl ?_
        show Steps p.tables e below (T580.setTop (mkF m 99 #[.val (.int p0), .val (.int p1), .val (.int p2), .val (.int p3), .val (.int p4), .val (.int p5), .val (.int ((1 : Int32) + (p4 &&& (3 : Int32)))), .val (.ref b454), .val (.ref b467), .val (.ref b482), .val (.ref b499), .val (.ref b517), .unset, .unset, .unset] [(.int ((1 : Int32) + (p4 &&& (3 : Int32))))])) t
        refine XS.iconst X580.here hx rfl (hb hby at_99) ?_
        exact k
      by_cases hc100 : (3 : Int32) < ((1 : Int32) + (p4 &&& (3 : Int32)))
      · skip
        exfalso
        exact own_gl hc86 hc100 (by decide)
      · skip
        refine own_goW (S' := T580.setTop (mkF m 123 #[.val (.int p0), .val (.int p1), .val (.int p2), .val (.int p3), .val (.int p4), .val (.int p5), .val (.int ((1 : Int32) + (p4 &&& (3 : Int32)))), .val (.ref b454), .val (.ref b467), .val (.ref b482), .val (.ref b499), .val (.ref b517), .val (.int ((p5 &&& (2147483647 : Int32)) % ((1 : Int32) + (p4 &&& (3 : Int32))))), .unset, .unset] [(.int ((p5 &&& (2147483647 : Int32)) % ((1 : Int32) + (p4 &&& (3 : Int32)))))])) (fun t k => ?_) ?_
        · show Steps p.tables e below (T580.setTop (mkF m 100 #[.val (.int p0), .val (.int p1), .val (.int p2), .val (.int p3), .val (.int p4), .val (.int p5), .val (.int ((1 : Int32) + (p4 &&& (3 : Int32)))), .val (.ref b454), .val (.ref b467), .val (.ref b482), .val (.ref b499), .val (.ref b517), .unset, .unset, .unset] [(.int (3 : Int32)), (.int ((1 : Int32) + (p4 &&& (3 : Int32))))])) t
          refine XS.icmpYes X580.here hx rfl (pc0 := 100) (pc' := 111) rfl (hb hby at_100) rfl (flt hc100).2.2.2 (by decide) (by decide) ?_
          show Steps p.tables e below (T580.setTop (mkF m 111 #[.val (.int p0), .val (.int p1), .val (.int p2), .val (.int p3), .val (.int p4), .val (.int p5), .val (.int ((1 : Int32) + (p4 &&& (3 : Int32)))), .val (.ref b454), .val (.ref b467), .val (.ref b482), .val (.ref b499), .val (.ref b517), .unset, .unset, .unset] [])) t
          refine XS.iload X580.here hx rfl (hb hby at_111) rfl ?_
          show Steps p.tables e below (T580.setTop (mkF m 113 #[.val (.int p0), .val (.int p1), .val (.int p2), .val (.int p3), .val (.int p4), .val (.int p5), .val (.int ((1 : Int32) + (p4 &&& (3 : Int32)))), .val (.ref b454), .val (.ref b467), .val (.ref b482), .val (.ref b499), .val (.ref b517), .unset, .unset, .unset] [(.int p5)])) t
          refine X580.ldcInt hx hown (mvT hZ (hw _ (List.mem_of_getElem? (i := 81) rfl))) (g := (mkF m 113 #[.val (.int p0), .val (.int p1), .val (.int p2), .val (.int p3), .val (.int p4), .val (.int p5), .val (.int ((1 : Int32) + (p4 &&& (3 : Int32)))), .val (.ref b454), .val (.ref b467), .val (.ref b482), .val (.ref b499), .val (.ref b517), .unset, .unset, .unset] [(.int p5)])) rfl (hb hby at_113) _ ?_
          show Steps p.tables e below (T580.setTop (mkF m 115 #[.val (.int p0), .val (.int p1), .val (.int p2), .val (.int p3), .val (.int p4), .val (.int p5), .val (.int ((1 : Int32) + (p4 &&& (3 : Int32)))), .val (.ref b454), .val (.ref b467), .val (.ref b482), .val (.ref b499), .val (.ref b517), .unset, .unset, .unset] [(.int (2147483647 : Int32)), (.int p5)])) t
          refine XS.iand X580.here hx rfl (hb hby at_115) rfl ?_
          show Steps p.tables e below (T580.setTop (mkF m 116 #[.val (.int p0), .val (.int p1), .val (.int p2), .val (.int p3), .val (.int p4), .val (.int p5), .val (.int ((1 : Int32) + (p4 &&& (3 : Int32)))), .val (.ref b454), .val (.ref b467), .val (.ref b482), .val (.ref b499), .val (.ref b517), .unset, .unset, .unset] [(.int (p5 &&& (2147483647 : Int32)))])) t
          refine XS.iload X580.here hx rfl (hb hby at_116) rfl ?_
          show Steps p.tables e below (T580.setTop (mkF m 118 #[.val (.int p0), .val (.int p1), .val (.int p2), .val (.int p3), .val (.int p4), .val (.int p5), .val (.int ((1 : Int32) + (p4 &&& (3 : Int32)))), .val (.ref b454), .val (.ref b467), .val (.ref b482), .val (.ref b499), .val (.ref b517), .unset, .unset, .unset] [(.int ((1 : Int32) + (p4 &&& (3 : Int32)))), (.int (p5 &&& (2147483647 : Int32)))])) t
          refine iremM X580 hx rfl (hb hby at_118) rfl (own_nz p4) ?_
          show Steps p.tables e below (T580.setTop (mkF m 119 #[.val (.int p0), .val (.int p1), .val (.int p2), .val (.int p3), .val (.int p4), .val (.int p5), .val (.int ((1 : Int32) + (p4 &&& (3 : Int32)))), .val (.ref b454), .val (.ref b467), .val (.ref b482), .val (.ref b499), .val (.ref b517), .unset, .unset, .unset] [(.int ((p5 &&& (2147483647 : Int32)) % ((1 : Int32) + (p4 &&& (3 : Int32)))))])) t
          refine XS.istore X580.here hx rfl (hb hby at_119) rfl (l' := #[.val (.int p0), .val (.int p1), .val (.int p2), .val (.int p3), .val (.int p4), .val (.int p5), .val (.int ((1 : Int32) + (p4 &&& (3 : Int32)))), .val (.ref b454), .val (.ref b467), .val (.ref b482), .val (.ref b499), .val (.ref b517), .val (.int ((p5 &&& (2147483647 : Int32)) % ((1 : Int32) + (p4 &&& (3 : Int32))))), .unset, .unset]) rfl ?_
          show Steps p.tables e below (T580.setTop (mkF m 121 #[.val (.int p0), .val (.int p1), .val (.int p2), .val (.int p3), .val (.int p4), .val (.int p5), .val (.int ((1 : Int32) + (p4 &&& (3 : Int32)))), .val (.ref b454), .val (.ref b467), .val (.ref b482), .val (.ref b499), .val (.ref b517), .val (.int ((p5 &&& (2147483647 : Int32)) % ((1 : Int32) + (p4 &&& (3 : Int32))))), .unset, .unset] [])) t
          refine XS.iload X580.here hx rfl (hb hby at_121) rfl ?_
          exact k
        by_cases hc123 : ((p5 &&& (2147483647 : Int32)) % ((1 : Int32) + (p4 &&& (3 : Int32)))) = (0 : Int32)
        · skip
          refine own_goW (S' := T580.setTop (mkF m 157 #[.val (.int p0), .val (.int p1), .val (.int p2), .val (.int p3), .val (.int p4), .val (.int p5), .val (.int ((1 : Int32) + (p4 &&& (3 : Int32)))), .val (.ref b454), .val (.ref b467), .val (.ref b482), .val (.ref b499), .val (.ref b517), .val (.int ((p5 &&& (2147483647 : Int32)) % ((1 : Int32) + (p4 &&& (3 : Int32))))), .val (.ref b454), .unset] [])) (fun t k => ?_) ?_
          · show Steps p.tables e below (T580.setTop (mkF m 123 #[.val (.int p0), .val (.int p1), .val (.int p2), .val (.int p3), .val (.int p4), .val (.int p5), .val (.int ((1 : Int32) + (p4 &&& (3 : Int32)))), .val (.ref b454), .val (.ref b467), .val (.ref b482), .val (.ref b499), .val (.ref b517), .val (.int ((p5 &&& (2147483647 : Int32)) % ((1 : Int32) + (p4 &&& (3 : Int32))))), .unset, .unset] [(.int ((p5 &&& (2147483647 : Int32)) % ((1 : Int32) + (p4 &&& (3 : Int32)))))])) t
            refine XS.ifNo X580.here hx rfl (hb hby at_123) rfl ((if0 _ _).trans (teq hc123).2) ?_
            show Steps p.tables e below (T580.setTop (mkF m 126 #[.val (.int p0), .val (.int p1), .val (.int p2), .val (.int p3), .val (.int p4), .val (.int p5), .val (.int ((1 : Int32) + (p4 &&& (3 : Int32)))), .val (.ref b454), .val (.ref b467), .val (.ref b482), .val (.ref b499), .val (.ref b517), .val (.int ((p5 &&& (2147483647 : Int32)) % ((1 : Int32) + (p4 &&& (3 : Int32))))), .unset, .unset] [])) t
            refine XS.aload X580.here hx rfl (hb hby at_126) rfl rfl ?_
            show Steps p.tables e below (T580.setTop (mkF m 128 #[.val (.int p0), .val (.int p1), .val (.int p2), .val (.int p3), .val (.int p4), .val (.int p5), .val (.int ((1 : Int32) + (p4 &&& (3 : Int32)))), .val (.ref b454), .val (.ref b467), .val (.ref b482), .val (.ref b499), .val (.ref b517), .val (.int ((p5 &&& (2147483647 : Int32)) % ((1 : Int32) + (p4 &&& (3 : Int32))))), .unset, .unset] [(.ref b454)])) t
            refine XS.goto X580.here hx rfl (pc0 := 128) (pc' := 155) rfl (hb hby at_128) (by decide) (by decide) ?_
            show Steps p.tables e below (T580.setTop (mkF m 155 #[.val (.int p0), .val (.int p1), .val (.int p2), .val (.int p3), .val (.int p4), .val (.int p5), .val (.int ((1 : Int32) + (p4 &&& (3 : Int32)))), .val (.ref b454), .val (.ref b467), .val (.ref b482), .val (.ref b499), .val (.ref b517), .val (.int ((p5 &&& (2147483647 : Int32)) % ((1 : Int32) + (p4 &&& (3 : Int32))))), .unset, .unset] [(.ref b454)])) t
            refine XS.astore X580.here hx rfl (hb hby at_155) rfl rfl (l' := #[.val (.int p0), .val (.int p1), .val (.int p2), .val (.int p3), .val (.int p4), .val (.int p5), .val (.int ((1 : Int32) + (p4 &&& (3 : Int32)))), .val (.ref b454), .val (.ref b467), .val (.ref b482), .val (.ref b499), .val (.ref b517), .val (.int ((p5 &&& (2147483647 : Int32)) % ((1 : Int32) + (p4 &&& (3 : Int32))))), .val (.ref b454), .unset]) rfl ?_
            exact k
          obtain ⟨b1043, T1043, h1043, k1043, X1043, e1043, E1043, hS, hk1043, hZ, hown, st1043⟩ := ldcS (s := s) (vm0 := s.vm) X580 hx hZ hown (hw _ (List.mem_of_getElem? (i := 82) rfl)) (own_strW (hw _ (List.mem_of_getElem? (i := 2) rfl)) (hw _ (List.mem_of_getElem? (i := 10) rfl)) (hw _ (List.mem_of_getElem? (i := 14) rfl)) (hw _ (List.mem_of_getElem? (i := 23) rfl)) (hw _ (List.mem_of_getElem? (i := 25) rfl)) (hw _ (List.mem_of_getElem? (i := 83) rfl)) (hw _ (List.mem_of_getElem? (i := 84) rfl))) rfl hS hk598 (g := (mkF m 157 #[.val (.int p0), .val (.int p1), .val (.int p2), .val (.int p3), .val (.int p4), .val (.int p5), .val (.int ((1 : Int32) + (p4 &&& (3 : Int32)))), .val (.ref b454), .val (.ref b467), .val (.ref b482), .val (.ref b499), .val (.ref b517), .val (.int ((p5 &&& (2147483647 : Int32)) % ((1 : Int32) + (p4 &&& (3 : Int32))))), .val (.ref b454), .unset] [])) rfl (hb hby at_157) (n := 12) (by decide) (by decide) (by decide) (by decide)
          have Z1044 : n0 ≤ h1043.size := Nat.le_trans Z597 E1043.1
          have hk1045 := Nat.le_trans hk598 E1043.1
          have f1046 : own_Len Z h1043 w_s_DEFAULTCAPACITY_EMPTY_ELEMENTDATA (.object "java/lang/Object") (0 : Int32) := f589.ext E1043
          have f1047 : Sta Z h1043 "java/lang/String" "COMPACT_STRINGS" "Z" (.int w_s_COMPACT_STRINGS) := Sta.ext E1043 f590
          have f1048 : Sta Z h1043 "java/util/ArrayList" "DEFAULTCAPACITY_EMPTY_ELEMENTDATA" "[Ljava/lang/Object;" (.ref w_s_DEFAULTCAPACITY_EMPTY_ELEMENTDATA) := Sta.ext E1043 f591
          have f1049 : Exa Z h1043 b454 "java/lang/String" := Exa.ext E1043 f592
          have f1050 : Exa Z h1043 b467 "java/lang/String" := Exa.ext E1043 f593
          have f1051 : Exa Z h1043 b482 "java/lang/String" := Exa.ext E1043 f594
          have f1052 : Exa Z h1043 b499 "java/lang/String" := Exa.ext E1043 f595
          have f1053 : Exa Z h1043 b517 "java/util/ArrayList" := Exa.ext E1043 p583
          have f1054 : Fld Z h1043 b517 "java/util/AbstractList" "modCount" "I" (.int (((0 : Int32) + (1 : Int32)) + (1 : Int32))) := Fld.ext E1043 p584
          have f1055 : Fld Z h1043 b517 "java/util/ArrayList" "elementData" "[Ljava/lang/Object;" (.ref b554) := Fld.ext E1043 p585
          have f1056 : Fld Z h1043 b517 "java/util/ArrayList" "size" "I" (.int (2 : Int32)) := Fld.ext E1043 p586
          have f1057 : own_ArvR Z h1043 b554 "java/lang/Object" (10 : Int32) [(.ref b454), (.ref b467), .null, .null, .null, .null, .null, .null, .null, .null] := p587.ext E1043
          refine own_goW st1043 ?_
          refine own_goW (S' := T1043.setTop (mkF m 163 #[.val (.int p0), .val (.int p1), .val (.int p2), .val (.int p3), .val (.int p4), .val (.int p5), .val (.int ((1 : Int32) + (p4 &&& (3 : Int32)))), .val (.ref b454), .val (.ref b467), .val (.ref b482), .val (.ref b499), .val (.ref b517), .val (.int ((p5 &&& (2147483647 : Int32)) % ((1 : Int32) + (p4 &&& (3 : Int32))))), .val (.ref b454), .unset] [(.int ((p5 &&& (2147483647 : Int32)) % ((1 : Int32) + (p4 &&& (3 : Int32))))), (.ref b517), (.ref b1043)])) (fun t k => ?_) ?_
          · show Steps p.tables e below (T1043.setTop (mkF m 159 #[.val (.int p0), .val (.int p1), .val (.int p2), .val (.int p3), .val (.int p4), .val (.int p5), .val (.int ((1 : Int32) + (p4 &&& (3 : Int32)))), .val (.ref b454), .val (.ref b467), .val (.ref b482), .val (.ref b499), .val (.ref b517), .val (.int ((p5 &&& (2147483647 : Int32)) % ((1 : Int32) + (p4 &&& (3 : Int32))))), .val (.ref b454), .unset] [(.ref b1043)])) t
            refine XS.aload X1043.here hx rfl (hb hby at_159) rfl rfl ?_
            show Steps p.tables e below (T1043.setTop (mkF m 161 #[.val (.int p0), .val (.int p1), .val (.int p2), .val (.int p3), .val (.int p4), .val (.int p5), .val (.int ((1 : Int32) + (p4 &&& (3 : Int32)))), .val (.ref b454), .val (.ref b467), .val (.ref b482), .val (.ref b499), .val (.ref b517), .val (.int ((p5 &&& (2147483647 : Int32)) % ((1 : Int32) + (p4 &&& (3 : Int32))))), .val (.ref b454), .unset] [(.ref b517), (.ref b1043)])) t
            refine XS.iload X1043.here hx rfl (hb hby at_161) rfl ?_
            exact k
          obtain ⟨b1058, T1058, h1058, k1058, X1058, e1058, E1058, hS, hk1058, hZ, hown, st1058⟩ := ldcS (s := s) (vm0 := T1043.vm) X1043 hx hZ hown (hw _ (List.mem_of_getElem? (i := 85) rfl)) (own_strW (hw _ (List.mem_of_getElem? (i := 2) rfl)) (hw _ (List.mem_of_getElem? (i := 10) rfl)) (hw _ (List.mem_of_getElem? (i := 14) rfl)) (hw _ (List.mem_of_getElem? (i := 23) rfl)) (hw _ (List.mem_of_getElem? (i := 25) rfl)) (hw _ (List.mem_of_getElem? (i := 83) rfl)) (hw _ (List.mem_of_getElem? (i := 84) rfl))) e1043 hS hk1043 (g := (mkF m 163 #[.val (.int p0), .val (.int p1), .val (.int p2), .val (.int p3), .val (.int p4), .val (.int p5), .val (.int ((1 : Int32) + (p4 &&& (3 : Int32)))), .val (.ref b454), .val (.ref b467), .val (.ref b482), .val (.ref b499), .val (.ref b517), .val (.int ((p5 &&& (2147483647 : Int32)) % ((1 : Int32) + (p4 &&& (3 : Int32))))), .val (.ref b454), .unset] [(.int ((p5 &&& (2147483647 : Int32)) % ((1 : Int32) + (p4 &&& (3 : Int32))))), (.ref b517), (.ref b1043)])) rfl (hb hby at_163) (n := 8) (by decide) (by decide) (by decide) (by decide)
          have Z1059 : n0 ≤ h1058.size := Nat.le_trans Z1044 E1058.1
          have hk1060 := Nat.le_trans hk1043 E1058.1
          have f1061 : own_Len Z h1058 w_s_DEFAULTCAPACITY_EMPTY_ELEMENTDATA (.object "java/lang/Object") (0 : Int32) := f1046.ext E1058
          have f1062 : Sta Z h1058 "java/lang/String" "COMPACT_STRINGS" "Z" (.int w_s_COMPACT_STRINGS) := Sta.ext E1058 f1047
          have f1063 : Sta Z h1058 "java/util/ArrayList" "DEFAULTCAPACITY_EMPTY_ELEMENTDATA" "[Ljava/lang/Object;" (.ref w_s_DEFAULTCAPACITY_EMPTY_ELEMENTDATA) := Sta.ext E1058 f1048
          have f1064 : Exa Z h1058 b454 "java/lang/String" := Exa.ext E1058 f1049
          have f1065 : Exa Z h1058 b467 "java/lang/String" := Exa.ext E1058 f1050
          have f1066 : Exa Z h1058 b482 "java/lang/String" := Exa.ext E1058 f1051
          have f1067 : Exa Z h1058 b499 "java/lang/String" := Exa.ext E1058 f1052
          have f1068 : Exa Z h1058 b517 "java/util/ArrayList" := Exa.ext E1058 f1053
          have f1069 : Fld Z h1058 b517 "java/util/AbstractList" "modCount" "I" (.int (((0 : Int32) + (1 : Int32)) + (1 : Int32))) := Fld.ext E1058 f1054
          have f1070 : Fld Z h1058 b517 "java/util/ArrayList" "elementData" "[Ljava/lang/Object;" (.ref b554) := Fld.ext E1058 f1055
          have f1071 : Fld Z h1058 b517 "java/util/ArrayList" "size" "I" (.int (2 : Int32)) := Fld.ext E1058 f1056
          have f1072 : own_ArvR Z h1058 b554 "java/lang/Object" (10 : Int32) [(.ref b454), (.ref b467), .null, .null, .null, .null, .null, .null, .null, .null] := f1057.ext E1058
          refine own_goW st1058 ?_
          obtain ⟨b1073, T1073, h1073, k1073, X1073, e1073, E1073, hS, hk1073, hZ, hown, st1073⟩ := ldcS (s := s) (vm0 := T1058.vm) X1058 hx hZ hown (hw _ (List.mem_of_getElem? (i := 86) rfl)) (own_strW (hw _ (List.mem_of_getElem? (i := 2) rfl)) (hw _ (List.mem_of_getElem? (i := 10) rfl)) (hw _ (List.mem_of_getElem? (i := 14) rfl)) (hw _ (List.mem_of_getElem? (i := 23) rfl)) (hw _ (List.mem_of_getElem? (i := 25) rfl)) (hw _ (List.mem_of_getElem? (i := 83) rfl)) (hw _ (List.mem_of_getElem? (i := 84) rfl))) e1058 hS hk1058 (g := (mkF m 165 #[.val (.int p0), .val (.int p1), .val (.int p2), .val (.int p3), .val (.int p4), .val (.int p5), .val (.int ((1 : Int32) + (p4 &&& (3 : Int32)))), .val (.ref b454), .val (.ref b467), .val (.ref b482), .val (.ref b499), .val (.ref b517), .val (.int ((p5 &&& (2147483647 : Int32)) % ((1 : Int32) + (p4 &&& (3 : Int32))))), .val (.ref b454), .unset] [(.ref b1058), (.int ((p5 &&& (2147483647 : Int32)) % ((1 : Int32) + (p4 &&& (3 : Int32))))), (.ref b517), (.ref b1043)])) rfl (hb hby at_165) (n := 28) (by decide) (by decide) (by decide) (by decide)
          have Z1074 : n0 ≤ h1073.size := Nat.le_trans Z1059 E1073.1
          have hk1075 := Nat.le_trans hk1058 E1073.1
          have f1076 : own_Len Z h1073 w_s_DEFAULTCAPACITY_EMPTY_ELEMENTDATA (.object "java/lang/Object") (0 : Int32) := f1061.ext E1073
          have f1077 : Sta Z h1073 "java/lang/String" "COMPACT_STRINGS" "Z" (.int w_s_COMPACT_STRINGS) := Sta.ext E1073 f1062
          have f1078 : Sta Z h1073 "java/util/ArrayList" "DEFAULTCAPACITY_EMPTY_ELEMENTDATA" "[Ljava/lang/Object;" (.ref w_s_DEFAULTCAPACITY_EMPTY_ELEMENTDATA) := Sta.ext E1073 f1063
          have f1079 : Exa Z h1073 b454 "java/lang/String" := Exa.ext E1073 f1064
          have f1080 : Exa Z h1073 b467 "java/lang/String" := Exa.ext E1073 f1065
          have f1081 : Exa Z h1073 b482 "java/lang/String" := Exa.ext E1073 f1066
          have f1082 : Exa Z h1073 b499 "java/lang/String" := Exa.ext E1073 f1067
          have f1083 : Exa Z h1073 b517 "java/util/ArrayList" := Exa.ext E1073 f1068
          have f1084 : Fld Z h1073 b517 "java/util/AbstractList" "modCount" "I" (.int (((0 : Int32) + (1 : Int32)) + (1 : Int32))) := Fld.ext E1073 f1069
          have f1085 : Fld Z h1073 b517 "java/util/ArrayList" "elementData" "[Ljava/lang/Object;" (.ref b554) := Fld.ext E1073 f1070
          have f1086 : Fld Z h1073 b517 "java/util/ArrayList" "size" "I" (.int (2 : Int32)) := Fld.ext E1073 f1071
          have f1087 : own_ArvR Z h1073 b554 "java/lang/Object" (10 : Int32) [(.ref b454), (.ref b467), .null, .null, .null, .null, .null, .null, .null, .null] := f1072.ext E1073
          refine own_goW st1073 ?_
          have hf1088 : ((p5 &&& (2147483647 : Int32)) % ((1 : Int32) + (p4 &&& (3 : Int32)))) = (0 : Int32) := hc123
          rw [hf1088]
          obtain ⟨_, _, ⟨T1089, L1089, kk1089, nn1089⟩, -, X1089, ⟨Lc1089, hQ1089, l1089, y1089, z1089⟩, st1089⟩ := Jvm.LawKit.callS X1073 hx (y := (⟨"com/example/scorebench/scorebench/OptionValue", "of", "(Ljava/lang/String;Ljava/util/List;ILjava/lang/String;Ljava/lang/String;)Ljava/lang/String;"⟩ : MethodName)) hown (mvT hZ (hw _ (List.mem_of_getElem? (i := 87) rfl))) (mvT hZ (hw _ (List.mem_of_getElem? (i := 88) rfl))) (mvT hZ (hw _ (List.mem_of_getElem? (i := 89) rfl))) (mvT hZ (hw _ (List.mem_of_getElem? (i := 90) rfl))) (by decide) (backOf (W := 0) (of0 l Z a0 hw [] b1043 b517 b1058 b1073 (2 : Int32) b554 b454 (.ref b467) (.null) (.null) (.null) (.null) (.null) (.null) (.null) (.null) h1073 n0 Z1074 (by decide : (0 : Int32) < (2 : Int32)) f1086 f1083 (by decide : ¬ ((0 : Int32) = (2 : Int32))) f1085 f1087 f1079) hZ (hw _ (List.mem_of_getElem? (i := 90) rfl)) (hw _ (List.mem_of_getElem? (i := 89) rfl)) (by decide) (by decide)) (g := (mkF m 167 #[.val (.int p0), .val (.int p1), .val (.int p2), .val (.int p3), .val (.int p4), .val (.int p5), .val (.int ((1 : Int32) + (p4 &&& (3 : Int32)))), .val (.ref b454), .val (.ref b467), .val (.ref b482), .val (.ref b499), .val (.ref b517), .val (.int (0 : Int32)), .val (.ref b454), .unset] [(.ref b1073), (.ref b1058), (.int (0 : Int32)), (.ref b517), (.ref b1043)])) rfl (by rw [hml]; rfl) (argsL := [(.ref b1043), (.ref b517), (.int (0 : Int32)), (.ref b1058), (.ref b1073)]) (rest := []) (lenOf pd_179 rfl) rfl (by show 2 * 0 + _ ≤ _; exact Nat.le_of_eq rfl) (hb hby at_167) (fun _ _ => ⟨rfl, e1073, (by decide : 16 + 0 ≤ _), (by decide : 93 + 0 ≤ _)⟩)
          dsimp only [Pt.U, Pt.locs, Pt.cells, Pt.slots] at X1089 l1089 y1089 z1089 st1089 hQ1089
          subst l1089 y1089 z1089
          obtain ⟨rfl, N1090, e1089⟩ := hQ1089
          have N1092 := Fr.app N588 N1090
          refine own_goW st1089 ?_
          refine own_goW (S' := T1089.setTop (mkF m 181 #[.val (.int p0), .val (.int p1), .val (.int p2), .val (.int p3), .val (.int p4), .val (.int p5), .val (.int ((1 : Int32) + (p4 &&& (3 : Int32)))), .val (.ref b454), .val (.ref b467), .val (.ref b482), .val (.ref b499), .val (.ref b517), .val (.int (0 : Int32)), .val (.ref b454), .val (.ref b454)] [(.ref b454), (.ref b454)])) (fun t k => ?_) ?_
          · show Steps p.tables e below (T1089.setTop (mkF m 170 #[.val (.int p0), .val (.int p1), .val (.int p2), .val (.int p3), .val (.int p4), .val (.int p5), .val (.int ((1 : Int32) + (p4 &&& (3 : Int32)))), .val (.ref b454), .val (.ref b467), .val (.ref b482), .val (.ref b499), .val (.ref b517), .val (.int (0 : Int32)), .val (.ref b454), .unset] [(.ref b454)])) t
            refine XS.astore X1089.here hx rfl (hb hby at_170) rfl rfl (l' := #[.val (.int p0), .val (.int p1), .val (.int p2), .val (.int p3), .val (.int p4), .val (.int p5), .val (.int ((1 : Int32) + (p4 &&& (3 : Int32)))), .val (.ref b454), .val (.ref b467), .val (.ref b482), .val (.ref b499), .val (.ref b517), .val (.int (0 : Int32)), .val (.ref b454), .val (.ref b454)]) rfl ?_
            show Steps p.tables e below (T1089.setTop (mkF m 172 #[.val (.int p0), .val (.int p1), .val (.int p2), .val (.int p3), .val (.int p4), .val (.int p5), .val (.int ((1 : Int32) + (p4 &&& (3 : Int32)))), .val (.ref b454), .val (.ref b467), .val (.ref b482), .val (.ref b499), .val (.ref b517), .val (.int (0 : Int32)), .val (.ref b454), .val (.ref b454)] [])) t
            refine XS.aload X1089.here hx rfl (hb hby at_172) rfl rfl ?_
            show Steps p.tables e below (T1089.setTop (mkF m 174 #[.val (.int p0), .val (.int p1), .val (.int p2), .val (.int p3), .val (.int p4), .val (.int p5), .val (.int ((1 : Int32) + (p4 &&& (3 : Int32)))), .val (.ref b454), .val (.ref b467), .val (.ref b482), .val (.ref b499), .val (.ref b517), .val (.int (0 : Int32)), .val (.ref b454), .val (.ref b454)] [(.ref b454)])) t
            refine XS.ifnullNo X1089.here hx rfl (hb hby at_174) rfl ?_
            show Steps p.tables e below (T1089.setTop (mkF m 177 #[.val (.int p0), .val (.int p1), .val (.int p2), .val (.int p3), .val (.int p4), .val (.int p5), .val (.int ((1 : Int32) + (p4 &&& (3 : Int32)))), .val (.ref b454), .val (.ref b467), .val (.ref b482), .val (.ref b499), .val (.ref b517), .val (.int (0 : Int32)), .val (.ref b454), .val (.ref b454)] [])) t
            refine XS.aload X1089.here hx rfl (hb hby at_177) rfl rfl ?_
            show Steps p.tables e below (T1089.setTop (mkF m 179 #[.val (.int p0), .val (.int p1), .val (.int p2), .val (.int p3), .val (.int p4), .val (.int p5), .val (.int ((1 : Int32) + (p4 &&& (3 : Int32)))), .val (.ref b454), .val (.ref b467), .val (.ref b482), .val (.ref b499), .val (.ref b517), .val (.int (0 : Int32)), .val (.ref b454), .val (.ref b454)] [(.ref b454)])) t
            refine XS.aload X1089.here hx rfl (hb hby at_179) rfl rfl ?_
            exact k
          obtain ⟨cq1093, kq1093, qa1093, qb1093, qc1093⟩ := isOf hZ e1089 f1079
          obtain ⟨_, _, ⟨T1093, L1093, kk1093, nn1093⟩, -, X1093, ⟨Lc1093, hQ1093, l1093, y1093, z1093⟩, st1093⟩ := X1089.virtualBack hx (y := (⟨"java/lang/String", "equals", "(Ljava/lang/Object;)Z"⟩ : MethodName)) (z := (⟨"java/lang/String", "equals", "(Ljava/lang/Object;)Z"⟩ : MethodName)) hown (mvT hZ (hw _ (List.mem_of_getElem? (i := 122) rfl))) (mvT hZ (hw _ (List.mem_of_getElem? (i := 123) rfl))) (notFace_of_selects (args := #[]) (mvT hZ (hw _ (List.mem_of_getElem? (i := 125) rfl)))) (mvT hZ (hw _ (List.mem_of_getElem? (i := 125) rfl))) (mvT hZ (hw _ (List.mem_of_getElem? (i := 124) rfl))) (by decide) (backOf (W := 0) (eqSame l Z a0 hw [] b454 b454 h1073 n0 Z1074 (rfl : b454 = b454)) hZ (hw _ (List.mem_of_getElem? (i := 126) rfl)) (hw _ (List.mem_of_getElem? (i := 2) rfl)) (by decide) (by decide)) qa1093 qc1093 (g := (mkF m 181 #[.val (.int p0), .val (.int p1), .val (.int p2), .val (.int p3), .val (.int p4), .val (.int p5), .val (.int ((1 : Int32) + (p4 &&& (3 : Int32)))), .val (.ref b454), .val (.ref b467), .val (.ref b482), .val (.ref b499), .val (.ref b517), .val (.int (0 : Int32)), .val (.ref b454), .val (.ref b454)] [(.ref b454), (.ref b454)])) rfl (by rw [hml]; rfl) (Steps.refl _) (argsL := [(.ref b454)]) (rest := []) (lenOf pd_178 rfl) rfl (by show 2 * 0 + _ ≤ _; exact Nat.le_of_eq rfl) (hb hby at_181) (fun _ _ => ⟨rfl, e1089, (by decide : 16 + 0 ≤ _), (by decide : 93 + 0 ≤ _)⟩)
          dsimp only [Pt.U, Pt.locs, Pt.cells, Pt.slots] at X1093 l1093 y1093 z1093 st1093 hQ1093
          subst l1093 y1093 z1093
          obtain ⟨rfl, N1094, e1093⟩ := hQ1093
          have N1096 := Fr.app N1092 N1094
          refine own_goTW st1093 ?_
          refine own_goW (S' := T1093.setTop (mkF m 189 #[.val (.int p0), .val (.int p1), .val (.int p2), .val (.int p3), .val (.int p4), .val (.int p5), .val (.int ((1 : Int32) + (p4 &&& (3 : Int32)))), .val (.ref b454), .val (.ref b467), .val (.ref b482), .val (.ref b499), .val (.ref b517), .val (.int (0 : Int32)), .val (.ref b454), .val (.ref b454)] [(.ref b517)])) (fun t k => ?_) ?_
          · show Steps p.tables e below (T1093.setTop (mkF m 184 #[.val (.int p0), .val (.int p1), .val (.int p2), .val (.int p3), .val (.int p4), .val (.int p5), .val (.int ((1 : Int32) + (p4 &&& (3 : Int32)))), .val (.ref b454), .val (.ref b467), .val (.ref b482), .val (.ref b499), .val (.ref b517), .val (.int (0 : Int32)), .val (.ref b454), .val (.ref b454)] [(.int (1 : Int32))])) t
            refine XS.ifNo X1093.here hx rfl (hb hby at_184) rfl ((if0 _ _).trans (feq (by decide)).1) ?_
            show Steps p.tables e below (T1093.setTop (mkF m 187 #[.val (.int p0), .val (.int p1), .val (.int p2), .val (.int p3), .val (.int p4), .val (.int p5), .val (.int ((1 : Int32) + (p4 &&& (3 : Int32)))), .val (.ref b454), .val (.ref b467), .val (.ref b482), .val (.ref b499), .val (.ref b517), .val (.int (0 : Int32)), .val (.ref b454), .val (.ref b454)] [])) t
            refine XS.aload X1093.here hx rfl (hb hby at_187) rfl rfl ?_
            exact k
          obtain ⟨cq1097, kq1097, qa1097, qb1097, qc1097⟩ := isOf hZ e1093 f1083
          obtain ⟨_, _, ⟨T1097, L1097, kk1097, nn1097⟩, -, X1097, ⟨Lc1097, hQ1097, l1097, y1097, z1097⟩, st1097⟩ := X1093.virtualBack hx (y := (⟨"java/util/ArrayList", "size", "()I"⟩ : MethodName)) (z := (⟨"java/util/ArrayList", "size", "()I"⟩ : MethodName)) hown (mvT hZ (hw _ (List.mem_of_getElem? (i := 127) rfl))) (mvT hZ (hw _ (List.mem_of_getElem? (i := 128) rfl))) (notFace_of_selects (args := #[]) (mvT hZ (hw _ (List.mem_of_getElem? (i := 129) rfl)))) (mvT hZ (hw _ (List.mem_of_getElem? (i := 129) rfl))) (mvT hZ (hw _ (List.mem_of_getElem? (i := 95) rfl))) (by decide) (backOf (W := 0) (alSize l Z a0 hw [] b517 (2 : Int32) h1073 n0 Z1074 f1086) hZ (hw _ (List.mem_of_getElem? (i := 99) rfl)) (hw _ (List.mem_of_getElem? (i := 28) rfl)) (by decide) (by decide)) qa1097 qc1097 (g := (mkF m 189 #[.val (.int p0), .val (.int p1), .val (.int p2), .val (.int p3), .val (.int p4), .val (.int p5), .val (.int ((1 : Int32) + (p4 &&& (3 : Int32)))), .val (.ref b454), .val (.ref b467), .val (.ref b482), .val (.ref b499), .val (.ref b517), .val (.int (0 : Int32)), .val (.ref b454), .val (.ref b454)] [(.ref b517)])) rfl (by rw [hml]; rfl) (Steps.refl _) (argsL := []) (rest := []) (lenOf pd_164 rfl) rfl (by show 2 * 0 + _ ≤ _; exact Nat.le_of_eq rfl) (hb hby at_189) (fun _ _ => ⟨rfl, e1093, (by decide : 16 + 0 ≤ _), (by decide : 93 + 0 ≤ _)⟩)
          dsimp only [Pt.U, Pt.locs, Pt.cells, Pt.slots] at X1097 l1097 y1097 z1097 st1097 hQ1097
          subst l1097 y1097 z1097
          obtain ⟨rfl, N1098, e1097⟩ := hQ1097
          have N1100 := Fr.app N1096 N1098
          refine own_goTW st1097 ?_
          refine own_goW (S' := T1097.setTop (mkF m 194 #[.val (.int p0), .val (.int p1), .val (.int p2), .val (.int p3), .val (.int p4), .val (.int p5), .val (.int ((1 : Int32) + (p4 &&& (3 : Int32)))), .val (.ref b454), .val (.ref b467), .val (.ref b482), .val (.ref b499), .val (.ref b517), .val (.int (0 : Int32)), .val (.ref b454), .val (.ref b454)] [(.int ((1 : Int32) + (p4 &&& (3 : Int32)))), (.int (2 : Int32))])) (fun t k => ?_) ?_
          · show Steps p.tables e below (T1097.setTop (mkF m 192 #[.val (.int p0), .val (.int p1), .val (.int p2), .val (.int p3), .val (.int p4), .val (.int p5), .val (.int ((1 : Int32) + (p4 &&& (3 : Int32)))), .val (.ref b454), .val (.ref b467), .val (.ref b482), .val (.ref b499), .val (.ref b517), .val (.int (0 : Int32)), .val (.ref b454), .val (.ref b454)] [(.int (2 : Int32))])) t
            refine XS.iload X1097.here hx rfl (hb hby at_192) rfl ?_
            exact k
          refine own_goW (S' := T1097.setTop (mkF m 202 #[.val (.int p0), .val (.int p1), .val (.int p2), .val (.int p3), .val (.int p4), .val (.int p5), .val (.int ((1 : Int32) + (p4 &&& (3 : Int32)))), .val (.ref b454), .val (.ref b467), .val (.ref b482), .val (.ref b499), .val (.ref b517), .val (.int (0 : Int32)), .val (.ref b454), .val (.ref b454)] [(.int (if (2 : Int32) = ((1 : Int32) + (p4 &&& (3 : Int32))) then (1 : Int32) else (0 : Int32)))])) (fun t k => ?_) ?_
          · show Steps p.tables e below (T1097.setTop (mkF m 194 #[.val (.int p0), .val (.int p1), .val (.int p2), .val (.int p3), .val (.int p4), .val (.int p5), .val (.int ((1 : Int32) + (p4 &&& (3 : Int32)))), .val (.ref b454), .val (.ref b467), .val (.ref b482), .val (.ref b499), .val (.ref b517), .val (.int (0 : Int32)), .val (.ref b454), .val (.ref b454)] [(.int ((1 : Int32) + (p4 &&& (3 : Int32)))), (.int (2 : Int32))])) t
            by_cases hc194 : (2 : Int32) = ((1 : Int32) + (p4 &&& (3 : Int32)))
            · show Steps p.tables e below (T1097.setTop (mkF m 194 #[.val (.int p0), .val (.int p1), .val (.int p2), .val (.int p3), .val (.int p4), .val (.int p5), .val (.int ((1 : Int32) + (p4 &&& (3 : Int32)))), .val (.ref b454), .val (.ref b467), .val (.ref b482), .val (.ref b499), .val (.ref b517), .val (.int (0 : Int32)), .val (.ref b454), .val (.ref b454)] [(.int ((1 : Int32) + (p4 &&& (3 : Int32)))), (.int (2 : Int32))])) t
              refine XS.icmpNo X1097.here hx rfl (hb hby at_194) rfl (teq hc194).2 ?_
              show Steps p.tables e below (T1097.setTop (mkF m 197 #[.val (.int p0), .val (.int p1), .val (.int p2), .val (.int p3), .val (.int p4), .val (.int p5), .val (.int ((1 : Int32) + (p4 &&& (3 : Int32)))), .val (.ref b454), .val (.ref b467), .val (.ref b482), .val (.ref b499), .val (.ref b517), .val (.int (0 : Int32)), .val (.ref b454), .val (.ref b454)] [])) t
              refine XS.iconst X1097.here hx rfl (hb hby at_197) ?_
              show Steps p.tables e below (T1097.setTop (mkF m 198 #[.val (.int p0), .val (.int p1), .val (.int p2), .val (.int p3), .val (.int p4), .val (.int p5), .val (.int ((1 : Int32) + (p4 &&& (3 : Int32)))), .val (.ref b454), .val (.ref b467), .val (.ref b482), .val (.ref b499), .val (.ref b517), .val (.int (0 : Int32)), .val (.ref b454), .val (.ref b454)] [(.int (1 : Int32))])) t
              refine XS.goto X1097.here hx rfl (pc0 := 198) (pc' := 202) rfl (hb hby at_198) (by decide) (by decide) ?_
              first | exact k | (simp only [if_pos hc194] at k ⊢; exact k)
            · show Steps p.tables e below (T1097.setTop (mkF m 194 #[.val (.int p0), .val (.int p1), .val (.int p2), .val (.int p3), .val (.int p4), .val (.int p5), .val (.int ((1 : Int32) + (p4 &&& (3 : Int32)))), .val (.ref b454), .val (.ref b467), .val (.ref b482), .val (.ref b499), .val (.ref b517), .val (.int (0 : Int32)), .val (.ref b454), .val (.ref b454)] [(.int ((1 : Int32) + (p4 &&& (3 : Int32)))), (.int (2 : Int32))])) t
              refine XS.icmpYes X1097.here hx rfl (pc0 := 194) (pc' := 201) rfl (hb hby at_194) rfl (feq hc194).2 (by decide) (by decide) ?_
              show Steps p.tables e below (T1097.setTop (mkF m 201 #[.val (.int p0), .val (.int p1), .val (.int p2), .val (.int p3), .val (.int p4), .val (.int p5), .val (.int ((1 : Int32) + (p4 &&& (3 : Int32)))), .val (.ref b454), .val (.ref b467), .val (.ref b482), .val (.ref b499), .val (.ref b517), .val (.int (0 : Int32)), .val (.ref b454), .val (.ref b454)] [])) t
              refine XS.iconst X1097.here hx rfl (hb hby at_201) ?_
              first | exact k | (simp only [if_neg hc194] at k ⊢; exact k)
          have hfin : (if (2 : Int32) = ((1 : Int32) + (p4 &&& (3 : Int32))) then (1 : Int32) else (0 : Int32)) = (1 : Int32) := if_pos (own_sz hc72 hc86 (by decide))
          rw [hfin]
          obtain ⟨fs, hr, hrun, hended, hW, hsame⟩ := X1097.leave (v := some (.int (1 : Int32))) (fun h => by rw [Bd.returns] at h; cases h)
          refine own_endW (v := some (.int (1 : Int32))) ?_ hrun hended ?_ (hS.ended hW (by show _ ≤ T1097.heap.size; rw [e1097]; exact hk1073) hsame) (by decide) (by decide)
          · show Steps p.tables e below (T1097.setTop (mkF m 202 #[.val (.int p0), .val (.int p1), .val (.int p2), .val (.int p3), .val (.int p4), .val (.int p5), .val (.int ((1 : Int32) + (p4 &&& (3 : Int32)))), .val (.ref b454), .val (.ref b467), .val (.ref b482), .val (.ref b499), .val (.ref b517), .val (.int (0 : Int32)), .val (.ref b454), .val (.ref b454)] [(.int (1 : Int32))])) _
            exact retN X1097 hx (t := .boolean) Bd.returns (by simp) (hb hby at_202) hr
          · show Qrm0 Z p0 p1 p2 p3 p4 p5 w_s_COMPACT_STRINGS w_s_DEFAULTCAPACITY_EMPTY_ELEMENTDATA h0 n0 _ T1097.heap _
            rw [e1097]
            exact ⟨rfl, N1100⟩
        · skip
          refine own_goW (S' := T580.setTop (mkF m 134 #[.val (.int p0), .val (.int p1), .val (.int p2), .val (.int p3), .val (.int p4), .val (.int p5), .val (.int ((1 : Int32) + (p4 &&& (3 : Int32)))), .val (.ref b454), .val (.ref b467), .val (.ref b482), .val (.ref b499), .val (.ref b517), .val (.int ((p5 &&& (2147483647 : Int32)) % ((1 : Int32) + (p4 &&& (3 : Int32))))), .unset, .unset] [(.int (1 : Int32)), (.int ((p5 &&& (2147483647 : Int32)) % ((1 : Int32) + (p4 &&& (3 : Int32)))))])) (fun t k => ?_) ?_
          · show Steps p.tables e below (T580.setTop (mkF m 123 #[.val (.int p0), .val (.int p1), .val (.int p2), .val (.int p3), .val (.int p4), .val (.int p5), .val (.int ((1 : Int32) + (p4 &&& (3 : Int32)))), .val (.ref b454), .val (.ref b467), .val (.ref b482), .val (.ref b499), .val (.ref b517), .val (.int ((p5 &&& (2147483647 : Int32)) % ((1 : Int32) + (p4 &&& (3 : Int32))))), .unset, .unset] [(.int ((p5 &&& (2147483647 : Int32)) % ((1 : Int32) + (p4 &&& (3 : Int32)))))])) t
            refine XS.ifYes X580.here hx rfl (pc0 := 123) (pc' := 131) rfl (hb hby at_123) rfl ((if0 _ _).trans (feq hc123).2) (by decide) (by decide) ?_
            show Steps p.tables e below (T580.setTop (mkF m 131 #[.val (.int p0), .val (.int p1), .val (.int p2), .val (.int p3), .val (.int p4), .val (.int p5), .val (.int ((1 : Int32) + (p4 &&& (3 : Int32)))), .val (.ref b454), .val (.ref b467), .val (.ref b482), .val (.ref b499), .val (.ref b517), .val (.int ((p5 &&& (2147483647 : Int32)) % ((1 : Int32) + (p4 &&& (3 : Int32))))), .unset, .unset] [])) t
            refine XS.iload X580.here hx rfl (hb hby at_131) rfl ?_
            show Steps p.tables e below (T580.setTop (mkF m 133 #[.val (.int p0), .val (.int p1), .val (.int p2), .val (.int p3), .val (.int p4), .val (.int p5), .val (.int ((1 : Int32) + (p4 &&& (3 : Int32)))), .val (.ref b454), .val (.ref b467), .val (.ref b482), .val (.ref b499), .val (.ref b517), .val (.int ((p5 &&& (2147483647 : Int32)) % ((1 : Int32) + (p4 &&& (3 : Int32))))), .unset, .unset] [(.int ((p5 &&& (2147483647 : Int32)) % ((1 : Int32) + (p4 &&& (3 : Int32)))))])) t
            refine XS.iconst X580.here hx rfl (hb hby at_133) ?_
            exact k
          by_cases hc134 : ((p5 &&& (2147483647 : Int32)) % ((1 : Int32) + (p4 &&& (3 : Int32)))) = (1 : Int32)
          · skip
            refine own_goW (S' := T580.setTop (mkF m 157 #[.val (.int p0), .val (.int p1), .val (.int p2), .val (.int p3), .val (.int p4), .val (.int p5), .val (.int ((1 : Int32) + (p4 &&& (3 : Int32)))), .val (.ref b454), .val (.ref b467), .val (.ref b482), .val (.ref b499), .val (.ref b517), .val (.int ((p5 &&& (2147483647 : Int32)) % ((1 : Int32) + (p4 &&& (3 : Int32))))), .val (.ref b467), .unset] [])) (fun t k => ?_) ?_
            · show Steps p.tables e below (T580.setTop (mkF m 134 #[.val (.int p0), .val (.int p1), .val (.int p2), .val (.int p3), .val (.int p4), .val (.int p5), .val (.int ((1 : Int32) + (p4 &&& (3 : Int32)))), .val (.ref b454), .val (.ref b467), .val (.ref b482), .val (.ref b499), .val (.ref b517), .val (.int ((p5 &&& (2147483647 : Int32)) % ((1 : Int32) + (p4 &&& (3 : Int32))))), .unset, .unset] [(.int (1 : Int32)), (.int ((p5 &&& (2147483647 : Int32)) % ((1 : Int32) + (p4 &&& (3 : Int32)))))])) t
              refine XS.icmpNo X580.here hx rfl (hb hby at_134) rfl (teq hc134).2 ?_
              show Steps p.tables e below (T580.setTop (mkF m 137 #[.val (.int p0), .val (.int p1), .val (.int p2), .val (.int p3), .val (.int p4), .val (.int p5), .val (.int ((1 : Int32) + (p4 &&& (3 : Int32)))), .val (.ref b454), .val (.ref b467), .val (.ref b482), .val (.ref b499), .val (.ref b517), .val (.int ((p5 &&& (2147483647 : Int32)) % ((1 : Int32) + (p4 &&& (3 : Int32))))), .unset, .unset] [])) t
              refine XS.aload X580.here hx rfl (hb hby at_137) rfl rfl ?_
              show Steps p.tables e below (T580.setTop (mkF m 139 #[.val (.int p0), .val (.int p1), .val (.int p2), .val (.int p3), .val (.int p4), .val (.int p5), .val (.int ((1 : Int32) + (p4 &&& (3 : Int32)))), .val (.ref b454), .val (.ref b467), .val (.ref b482), .val (.ref b499), .val (.ref b517), .val (.int ((p5 &&& (2147483647 : Int32)) % ((1 : Int32) + (p4 &&& (3 : Int32))))), .unset, .unset] [(.ref b467)])) t
              refine XS.goto X580.here hx rfl (pc0 := 139) (pc' := 155) rfl (hb hby at_139) (by decide) (by decide) ?_
              show Steps p.tables e below (T580.setTop (mkF m 155 #[.val (.int p0), .val (.int p1), .val (.int p2), .val (.int p3), .val (.int p4), .val (.int p5), .val (.int ((1 : Int32) + (p4 &&& (3 : Int32)))), .val (.ref b454), .val (.ref b467), .val (.ref b482), .val (.ref b499), .val (.ref b517), .val (.int ((p5 &&& (2147483647 : Int32)) % ((1 : Int32) + (p4 &&& (3 : Int32))))), .unset, .unset] [(.ref b467)])) t
              refine XS.astore X580.here hx rfl (hb hby at_155) rfl rfl (l' := #[.val (.int p0), .val (.int p1), .val (.int p2), .val (.int p3), .val (.int p4), .val (.int p5), .val (.int ((1 : Int32) + (p4 &&& (3 : Int32)))), .val (.ref b454), .val (.ref b467), .val (.ref b482), .val (.ref b499), .val (.ref b517), .val (.int ((p5 &&& (2147483647 : Int32)) % ((1 : Int32) + (p4 &&& (3 : Int32))))), .val (.ref b467), .unset]) rfl ?_
              exact k
            obtain ⟨b1101, T1101, h1101, k1101, X1101, e1101, E1101, hS, hk1101, hZ, hown, st1101⟩ := ldcS (s := s) (vm0 := s.vm) X580 hx hZ hown (hw _ (List.mem_of_getElem? (i := 82) rfl)) (own_strW (hw _ (List.mem_of_getElem? (i := 2) rfl)) (hw _ (List.mem_of_getElem? (i := 10) rfl)) (hw _ (List.mem_of_getElem? (i := 14) rfl)) (hw _ (List.mem_of_getElem? (i := 23) rfl)) (hw _ (List.mem_of_getElem? (i := 25) rfl)) (hw _ (List.mem_of_getElem? (i := 83) rfl)) (hw _ (List.mem_of_getElem? (i := 84) rfl))) rfl hS hk598 (g := (mkF m 157 #[.val (.int p0), .val (.int p1), .val (.int p2), .val (.int p3), .val (.int p4), .val (.int p5), .val (.int ((1 : Int32) + (p4 &&& (3 : Int32)))), .val (.ref b454), .val (.ref b467), .val (.ref b482), .val (.ref b499), .val (.ref b517), .val (.int ((p5 &&& (2147483647 : Int32)) % ((1 : Int32) + (p4 &&& (3 : Int32))))), .val (.ref b467), .unset] [])) rfl (hb hby at_157) (n := 12) (by decide) (by decide) (by decide) (by decide)
            have Z1102 : n0 ≤ h1101.size := Nat.le_trans Z597 E1101.1
            have hk1103 := Nat.le_trans hk598 E1101.1
            have f1104 : own_Len Z h1101 w_s_DEFAULTCAPACITY_EMPTY_ELEMENTDATA (.object "java/lang/Object") (0 : Int32) := f589.ext E1101
            have f1105 : Sta Z h1101 "java/lang/String" "COMPACT_STRINGS" "Z" (.int w_s_COMPACT_STRINGS) := Sta.ext E1101 f590
            have f1106 : Sta Z h1101 "java/util/ArrayList" "DEFAULTCAPACITY_EMPTY_ELEMENTDATA" "[Ljava/lang/Object;" (.ref w_s_DEFAULTCAPACITY_EMPTY_ELEMENTDATA) := Sta.ext E1101 f591
            have f1107 : Exa Z h1101 b454 "java/lang/String" := Exa.ext E1101 f592
            have f1108 : Exa Z h1101 b467 "java/lang/String" := Exa.ext E1101 f593
            have f1109 : Exa Z h1101 b482 "java/lang/String" := Exa.ext E1101 f594
            have f1110 : Exa Z h1101 b499 "java/lang/String" := Exa.ext E1101 f595
            have f1111 : Exa Z h1101 b517 "java/util/ArrayList" := Exa.ext E1101 p583
            have f1112 : Fld Z h1101 b517 "java/util/AbstractList" "modCount" "I" (.int (((0 : Int32) + (1 : Int32)) + (1 : Int32))) := Fld.ext E1101 p584
            have f1113 : Fld Z h1101 b517 "java/util/ArrayList" "elementData" "[Ljava/lang/Object;" (.ref b554) := Fld.ext E1101 p585
            have f1114 : Fld Z h1101 b517 "java/util/ArrayList" "size" "I" (.int (2 : Int32)) := Fld.ext E1101 p586
            have f1115 : own_ArvR Z h1101 b554 "java/lang/Object" (10 : Int32) [(.ref b454), (.ref b467), .null, .null, .null, .null, .null, .null, .null, .null] := p587.ext E1101
            refine own_goW st1101 ?_
            refine own_goW (S' := T1101.setTop (mkF m 163 #[.val (.int p0), .val (.int p1), .val (.int p2), .val (.int p3), .val (.int p4), .val (.int p5), .val (.int ((1 : Int32) + (p4 &&& (3 : Int32)))), .val (.ref b454), .val (.ref b467), .val (.ref b482), .val (.ref b499), .val (.ref b517), .val (.int ((p5 &&& (2147483647 : Int32)) % ((1 : Int32) + (p4 &&& (3 : Int32))))), .val (.ref b467), .unset] [(.int ((p5 &&& (2147483647 : Int32)) % ((1 : Int32) + (p4 &&& (3 : Int32))))), (.ref b517), (.ref b1101)])) (fun t k => ?_) ?_
            · show Steps p.tables e below (T1101.setTop (mkF m 159 #[.val (.int p0), .val (.int p1), .val (.int p2), .val (.int p3), .val (.int p4), .val (.int p5), .val (.int ((1 : Int32) + (p4 &&& (3 : Int32)))), .val (.ref b454), .val (.ref b467), .val (.ref b482), .val (.ref b499), .val (.ref b517), .val (.int ((p5 &&& (2147483647 : Int32)) % ((1 : Int32) + (p4 &&& (3 : Int32))))), .val (.ref b467), .unset] [(.ref b1101)])) t
              refine XS.aload X1101.here hx rfl (hb hby at_159) rfl rfl ?_
              show Steps p.tables e below (T1101.setTop (mkF m 161 #[.val (.int p0), .val (.int p1), .val (.int p2), .val (.int p3), .val (.int p4), .val (.int p5), .val (.int ((1 : Int32) + (p4 &&& (3 : Int32)))), .val (.ref b454), .val (.ref b467), .val (.ref b482), .val (.ref b499), .val (.ref b517), .val (.int ((p5 &&& (2147483647 : Int32)) % ((1 : Int32) + (p4 &&& (3 : Int32))))), .val (.ref b467), .unset] [(.ref b517), (.ref b1101)])) t
              refine XS.iload X1101.here hx rfl (hb hby at_161) rfl ?_
              exact k
            obtain ⟨b1116, T1116, h1116, k1116, X1116, e1116, E1116, hS, hk1116, hZ, hown, st1116⟩ := ldcS (s := s) (vm0 := T1101.vm) X1101 hx hZ hown (hw _ (List.mem_of_getElem? (i := 85) rfl)) (own_strW (hw _ (List.mem_of_getElem? (i := 2) rfl)) (hw _ (List.mem_of_getElem? (i := 10) rfl)) (hw _ (List.mem_of_getElem? (i := 14) rfl)) (hw _ (List.mem_of_getElem? (i := 23) rfl)) (hw _ (List.mem_of_getElem? (i := 25) rfl)) (hw _ (List.mem_of_getElem? (i := 83) rfl)) (hw _ (List.mem_of_getElem? (i := 84) rfl))) e1101 hS hk1101 (g := (mkF m 163 #[.val (.int p0), .val (.int p1), .val (.int p2), .val (.int p3), .val (.int p4), .val (.int p5), .val (.int ((1 : Int32) + (p4 &&& (3 : Int32)))), .val (.ref b454), .val (.ref b467), .val (.ref b482), .val (.ref b499), .val (.ref b517), .val (.int ((p5 &&& (2147483647 : Int32)) % ((1 : Int32) + (p4 &&& (3 : Int32))))), .val (.ref b467), .unset] [(.int ((p5 &&& (2147483647 : Int32)) % ((1 : Int32) + (p4 &&& (3 : Int32))))), (.ref b517), (.ref b1101)])) rfl (hb hby at_163) (n := 8) (by decide) (by decide) (by decide) (by decide)
            have Z1117 : n0 ≤ h1116.size := Nat.le_trans Z1102 E1116.1
            have hk1118 := Nat.le_trans hk1101 E1116.1
            have f1119 : own_Len Z h1116 w_s_DEFAULTCAPACITY_EMPTY_ELEMENTDATA (.object "java/lang/Object") (0 : Int32) := f1104.ext E1116
            have f1120 : Sta Z h1116 "java/lang/String" "COMPACT_STRINGS" "Z" (.int w_s_COMPACT_STRINGS) := Sta.ext E1116 f1105
            have f1121 : Sta Z h1116 "java/util/ArrayList" "DEFAULTCAPACITY_EMPTY_ELEMENTDATA" "[Ljava/lang/Object;" (.ref w_s_DEFAULTCAPACITY_EMPTY_ELEMENTDATA) := Sta.ext E1116 f1106
            have f1122 : Exa Z h1116 b454 "java/lang/String" := Exa.ext E1116 f1107
            have f1123 : Exa Z h1116 b467 "java/lang/String" := Exa.ext E1116 f1108
            have f1124 : Exa Z h1116 b482 "java/lang/String" := Exa.ext E1116 f1109
            have f1125 : Exa Z h1116 b499 "java/lang/String" := Exa.ext E1116 f1110
            have f1126 : Exa Z h1116 b517 "java/util/ArrayList" := Exa.ext E1116 f1111
            have f1127 : Fld Z h1116 b517 "java/util/AbstractList" "modCount" "I" (.int (((0 : Int32) + (1 : Int32)) + (1 : Int32))) := Fld.ext E1116 f1112
            have f1128 : Fld Z h1116 b517 "java/util/ArrayList" "elementData" "[Ljava/lang/Object;" (.ref b554) := Fld.ext E1116 f1113
            have f1129 : Fld Z h1116 b517 "java/util/ArrayList" "size" "I" (.int (2 : Int32)) := Fld.ext E1116 f1114
            have f1130 : own_ArvR Z h1116 b554 "java/lang/Object" (10 : Int32) [(.ref b454), (.ref b467), .null, .null, .null, .null, .null, .null, .null, .null] := f1115.ext E1116
            refine own_goW st1116 ?_
            obtain ⟨b1131, T1131, h1131, k1131, X1131, e1131, E1131, hS, hk1131, hZ, hown, st1131⟩ := ldcS (s := s) (vm0 := T1116.vm) X1116 hx hZ hown (hw _ (List.mem_of_getElem? (i := 86) rfl)) (own_strW (hw _ (List.mem_of_getElem? (i := 2) rfl)) (hw _ (List.mem_of_getElem? (i := 10) rfl)) (hw _ (List.mem_of_getElem? (i := 14) rfl)) (hw _ (List.mem_of_getElem? (i := 23) rfl)) (hw _ (List.mem_of_getElem? (i := 25) rfl)) (hw _ (List.mem_of_getElem? (i := 83) rfl)) (hw _ (List.mem_of_getElem? (i := 84) rfl))) e1116 hS hk1116 (g := (mkF m 165 #[.val (.int p0), .val (.int p1), .val (.int p2), .val (.int p3), .val (.int p4), .val (.int p5), .val (.int ((1 : Int32) + (p4 &&& (3 : Int32)))), .val (.ref b454), .val (.ref b467), .val (.ref b482), .val (.ref b499), .val (.ref b517), .val (.int ((p5 &&& (2147483647 : Int32)) % ((1 : Int32) + (p4 &&& (3 : Int32))))), .val (.ref b467), .unset] [(.ref b1116), (.int ((p5 &&& (2147483647 : Int32)) % ((1 : Int32) + (p4 &&& (3 : Int32))))), (.ref b517), (.ref b1101)])) rfl (hb hby at_165) (n := 28) (by decide) (by decide) (by decide) (by decide)
            have Z1132 : n0 ≤ h1131.size := Nat.le_trans Z1117 E1131.1
            have hk1133 := Nat.le_trans hk1116 E1131.1
            have f1134 : own_Len Z h1131 w_s_DEFAULTCAPACITY_EMPTY_ELEMENTDATA (.object "java/lang/Object") (0 : Int32) := f1119.ext E1131
            have f1135 : Sta Z h1131 "java/lang/String" "COMPACT_STRINGS" "Z" (.int w_s_COMPACT_STRINGS) := Sta.ext E1131 f1120
            have f1136 : Sta Z h1131 "java/util/ArrayList" "DEFAULTCAPACITY_EMPTY_ELEMENTDATA" "[Ljava/lang/Object;" (.ref w_s_DEFAULTCAPACITY_EMPTY_ELEMENTDATA) := Sta.ext E1131 f1121
            have f1137 : Exa Z h1131 b454 "java/lang/String" := Exa.ext E1131 f1122
            have f1138 : Exa Z h1131 b467 "java/lang/String" := Exa.ext E1131 f1123
            have f1139 : Exa Z h1131 b482 "java/lang/String" := Exa.ext E1131 f1124
            have f1140 : Exa Z h1131 b499 "java/lang/String" := Exa.ext E1131 f1125
            have f1141 : Exa Z h1131 b517 "java/util/ArrayList" := Exa.ext E1131 f1126
            have f1142 : Fld Z h1131 b517 "java/util/AbstractList" "modCount" "I" (.int (((0 : Int32) + (1 : Int32)) + (1 : Int32))) := Fld.ext E1131 f1127
            have f1143 : Fld Z h1131 b517 "java/util/ArrayList" "elementData" "[Ljava/lang/Object;" (.ref b554) := Fld.ext E1131 f1128
            have f1144 : Fld Z h1131 b517 "java/util/ArrayList" "size" "I" (.int (2 : Int32)) := Fld.ext E1131 f1129
            have f1145 : own_ArvR Z h1131 b554 "java/lang/Object" (10 : Int32) [(.ref b454), (.ref b467), .null, .null, .null, .null, .null, .null, .null, .null] := f1130.ext E1131
            refine own_goW st1131 ?_
            have hf1146 : ((p5 &&& (2147483647 : Int32)) % ((1 : Int32) + (p4 &&& (3 : Int32)))) = (1 : Int32) := hc134
            rw [hf1146]
            obtain ⟨_, _, ⟨T1147, L1147, kk1147, nn1147⟩, -, X1147, ⟨Lc1147, hQ1147, l1147, y1147, z1147⟩, st1147⟩ := Jvm.LawKit.callS X1131 hx (y := (⟨"com/example/scorebench/scorebench/OptionValue", "of", "(Ljava/lang/String;Ljava/util/List;ILjava/lang/String;Ljava/lang/String;)Ljava/lang/String;"⟩ : MethodName)) hown (mvT hZ (hw _ (List.mem_of_getElem? (i := 87) rfl))) (mvT hZ (hw _ (List.mem_of_getElem? (i := 88) rfl))) (mvT hZ (hw _ (List.mem_of_getElem? (i := 89) rfl))) (mvT hZ (hw _ (List.mem_of_getElem? (i := 90) rfl))) (by decide) (backOf (W := 0) (of1 l Z a0 hw [] b1101 b517 b1116 b1131 (2 : Int32) b554 (.ref b454) b467 (.null) (.null) (.null) (.null) (.null) (.null) (.null) (.null) h1131 n0 Z1132 (by decide : (1 : Int32) < (2 : Int32)) f1144 f1141 (by decide : ¬ ((1 : Int32) = (2 : Int32))) f1143 f1145 f1138) hZ (hw _ (List.mem_of_getElem? (i := 90) rfl)) (hw _ (List.mem_of_getElem? (i := 89) rfl)) (by decide) (by decide)) (g := (mkF m 167 #[.val (.int p0), .val (.int p1), .val (.int p2), .val (.int p3), .val (.int p4), .val (.int p5), .val (.int ((1 : Int32) + (p4 &&& (3 : Int32)))), .val (.ref b454), .val (.ref b467), .val (.ref b482), .val (.ref b499), .val (.ref b517), .val (.int (1 : Int32)), .val (.ref b467), .unset] [(.ref b1131), (.ref b1116), (.int (1 : Int32)), (.ref b517), (.ref b1101)])) rfl (by rw [hml]; rfl) (argsL := [(.ref b1101), (.ref b517), (.int (1 : Int32)), (.ref b1116), (.ref b1131)]) (rest := []) (lenOf pd_179 rfl) rfl (by show 2 * 0 + _ ≤ _; exact Nat.le_of_eq rfl) (hb hby at_167) (fun _ _ => ⟨rfl, e1131, (by decide : 16 + 0 ≤ _), (by decide : 93 + 0 ≤ _)⟩)
            dsimp only [Pt.U, Pt.locs, Pt.cells, Pt.slots] at X1147 l1147 y1147 z1147 st1147 hQ1147
            subst l1147 y1147 z1147
            obtain ⟨rfl, N1148, e1147⟩ := hQ1147
            have N1150 := Fr.app N588 N1148
            refine own_goW st1147 ?_
            refine own_goW (S' := T1147.setTop (mkF m 181 #[.val (.int p0), .val (.int p1), .val (.int p2), .val (.int p3), .val (.int p4), .val (.int p5), .val (.int ((1 : Int32) + (p4 &&& (3 : Int32)))), .val (.ref b454), .val (.ref b467), .val (.ref b482), .val (.ref b499), .val (.ref b517), .val (.int (1 : Int32)), .val (.ref b467), .val (.ref b467)] [(.ref b467), (.ref b467)])) (fun t k => ?_) ?_
            · show Steps p.tables e below (T1147.setTop (mkF m 170 #[.val (.int p0), .val (.int p1), .val (.int p2), .val (.int p3), .val (.int p4), .val (.int p5), .val (.int ((1 : Int32) + (p4 &&& (3 : Int32)))), .val (.ref b454), .val (.ref b467), .val (.ref b482), .val (.ref b499), .val (.ref b517), .val (.int (1 : Int32)), .val (.ref b467), .unset] [(.ref b467)])) t
              refine XS.astore X1147.here hx rfl (hb hby at_170) rfl rfl (l' := #[.val (.int p0), .val (.int p1), .val (.int p2), .val (.int p3), .val (.int p4), .val (.int p5), .val (.int ((1 : Int32) + (p4 &&& (3 : Int32)))), .val (.ref b454), .val (.ref b467), .val (.ref b482), .val (.ref b499), .val (.ref b517), .val (.int (1 : Int32)), .val (.ref b467), .val (.ref b467)]) rfl ?_
              show Steps p.tables e below (T1147.setTop (mkF m 172 #[.val (.int p0), .val (.int p1), .val (.int p2), .val (.int p3), .val (.int p4), .val (.int p5), .val (.int ((1 : Int32) + (p4 &&& (3 : Int32)))), .val (.ref b454), .val (.ref b467), .val (.ref b482), .val (.ref b499), .val (.ref b517), .val (.int (1 : Int32)), .val (.ref b467), .val (.ref b467)] [])) t
              refine XS.aload X1147.here hx rfl (hb hby at_172) rfl rfl ?_
              show Steps p.tables e below (T1147.setTop (mkF m 174 #[.val (.int p0), .val (.int p1), .val (.int p2), .val (.int p3), .val (.int p4), .val (.int p5), .val (.int ((1 : Int32) + (p4 &&& (3 : Int32)))), .val (.ref b454), .val (.ref b467), .val (.ref b482), .val (.ref b499), .val (.ref b517), .val (.int (1 : Int32)), .val (.ref b467), .val (.ref b467)] [(.ref b467)])) t
              refine XS.ifnullNo X1147.here hx rfl (hb hby at_174) rfl ?_
              show Steps p.tables e below (T1147.setTop (mkF m 177 #[.val (.int p0), .val (.int p1), .val (.int p2), .val (.int p3), .val (.int p4), .val (.int p5), .val (.int ((1 : Int32) + (p4 &&& (3 : Int32)))), .val (.ref b454), .val (.ref b467), .val (.ref b482), .val (.ref b499), .val (.ref b517), .val (.int (1 : Int32)), .val (.ref b467), .val (.ref b467)] [])) t
              refine XS.aload X1147.here hx rfl (hb hby at_177) rfl rfl ?_
              show Steps p.tables e below (T1147.setTop (mkF m 179 #[.val (.int p0), .val (.int p1), .val (.int p2), .val (.int p3), .val (.int p4), .val (.int p5), .val (.int ((1 : Int32) + (p4 &&& (3 : Int32)))), .val (.ref b454), .val (.ref b467), .val (.ref b482), .val (.ref b499), .val (.ref b517), .val (.int (1 : Int32)), .val (.ref b467), .val (.ref b467)] [(.ref b467)])) t
              refine XS.aload X1147.here hx rfl (hb hby at_179) rfl rfl ?_
              exact k
            obtain ⟨cq1151, kq1151, qa1151, qb1151, qc1151⟩ := isOf hZ e1147 f1138
            obtain ⟨_, _, ⟨T1151, L1151, kk1151, nn1151⟩, -, X1151, ⟨Lc1151, hQ1151, l1151, y1151, z1151⟩, st1151⟩ := X1147.virtualBack hx (y := (⟨"java/lang/String", "equals", "(Ljava/lang/Object;)Z"⟩ : MethodName)) (z := (⟨"java/lang/String", "equals", "(Ljava/lang/Object;)Z"⟩ : MethodName)) hown (mvT hZ (hw _ (List.mem_of_getElem? (i := 122) rfl))) (mvT hZ (hw _ (List.mem_of_getElem? (i := 123) rfl))) (notFace_of_selects (args := #[]) (mvT hZ (hw _ (List.mem_of_getElem? (i := 125) rfl)))) (mvT hZ (hw _ (List.mem_of_getElem? (i := 125) rfl))) (mvT hZ (hw _ (List.mem_of_getElem? (i := 124) rfl))) (by decide) (backOf (W := 0) (eqSame l Z a0 hw [] b467 b467 h1131 n0 Z1132 (rfl : b467 = b467)) hZ (hw _ (List.mem_of_getElem? (i := 126) rfl)) (hw _ (List.mem_of_getElem? (i := 2) rfl)) (by decide) (by decide)) qa1151 qc1151 (g := (mkF m 181 #[.val (.int p0), .val (.int p1), .val (.int p2), .val (.int p3), .val (.int p4), .val (.int p5), .val (.int ((1 : Int32) + (p4 &&& (3 : Int32)))), .val (.ref b454), .val (.ref b467), .val (.ref b482), .val (.ref b499), .val (.ref b517), .val (.int (1 : Int32)), .val (.ref b467), .val (.ref b467)] [(.ref b467), (.ref b467)])) rfl (by rw [hml]; rfl) (Steps.refl _) (argsL := [(.ref b467)]) (rest := []) (lenOf pd_178 rfl) rfl (by show 2 * 0 + _ ≤ _; exact Nat.le_of_eq rfl) (hb hby at_181) (fun _ _ => ⟨rfl, e1147, (by decide : 16 + 0 ≤ _), (by decide : 93 + 0 ≤ _)⟩)
            dsimp only [Pt.U, Pt.locs, Pt.cells, Pt.slots] at X1151 l1151 y1151 z1151 st1151 hQ1151
            subst l1151 y1151 z1151
            obtain ⟨rfl, N1152, e1151⟩ := hQ1151
            have N1154 := Fr.app N1150 N1152
            refine own_goTW st1151 ?_
            refine own_goW (S' := T1151.setTop (mkF m 189 #[.val (.int p0), .val (.int p1), .val (.int p2), .val (.int p3), .val (.int p4), .val (.int p5), .val (.int ((1 : Int32) + (p4 &&& (3 : Int32)))), .val (.ref b454), .val (.ref b467), .val (.ref b482), .val (.ref b499), .val (.ref b517), .val (.int (1 : Int32)), .val (.ref b467), .val (.ref b467)] [(.ref b517)])) (fun t k => ?_) ?_
            · show Steps p.tables e below (T1151.setTop (mkF m 184 #[.val (.int p0), .val (.int p1), .val (.int p2), .val (.int p3), .val (.int p4), .val (.int p5), .val (.int ((1 : Int32) + (p4 &&& (3 : Int32)))), .val (.ref b454), .val (.ref b467), .val (.ref b482), .val (.ref b499), .val (.ref b517), .val (.int (1 : Int32)), .val (.ref b467), .val (.ref b467)] [(.int (1 : Int32))])) t
              refine XS.ifNo X1151.here hx rfl (hb hby at_184) rfl ((if0 _ _).trans (feq (by decide)).1) ?_
              show Steps p.tables e below (T1151.setTop (mkF m 187 #[.val (.int p0), .val (.int p1), .val (.int p2), .val (.int p3), .val (.int p4), .val (.int p5), .val (.int ((1 : Int32) + (p4 &&& (3 : Int32)))), .val (.ref b454), .val (.ref b467), .val (.ref b482), .val (.ref b499), .val (.ref b517), .val (.int (1 : Int32)), .val (.ref b467), .val (.ref b467)] [])) t
              refine XS.aload X1151.here hx rfl (hb hby at_187) rfl rfl ?_
              exact k
            obtain ⟨cq1155, kq1155, qa1155, qb1155, qc1155⟩ := isOf hZ e1151 f1141
            obtain ⟨_, _, ⟨T1155, L1155, kk1155, nn1155⟩, -, X1155, ⟨Lc1155, hQ1155, l1155, y1155, z1155⟩, st1155⟩ := X1151.virtualBack hx (y := (⟨"java/util/ArrayList", "size", "()I"⟩ : MethodName)) (z := (⟨"java/util/ArrayList", "size", "()I"⟩ : MethodName)) hown (mvT hZ (hw _ (List.mem_of_getElem? (i := 127) rfl))) (mvT hZ (hw _ (List.mem_of_getElem? (i := 128) rfl))) (notFace_of_selects (args := #[]) (mvT hZ (hw _ (List.mem_of_getElem? (i := 129) rfl)))) (mvT hZ (hw _ (List.mem_of_getElem? (i := 129) rfl))) (mvT hZ (hw _ (List.mem_of_getElem? (i := 95) rfl))) (by decide) (backOf (W := 0) (alSize l Z a0 hw [] b517 (2 : Int32) h1131 n0 Z1132 f1144) hZ (hw _ (List.mem_of_getElem? (i := 99) rfl)) (hw _ (List.mem_of_getElem? (i := 28) rfl)) (by decide) (by decide)) qa1155 qc1155 (g := (mkF m 189 #[.val (.int p0), .val (.int p1), .val (.int p2), .val (.int p3), .val (.int p4), .val (.int p5), .val (.int ((1 : Int32) + (p4 &&& (3 : Int32)))), .val (.ref b454), .val (.ref b467), .val (.ref b482), .val (.ref b499), .val (.ref b517), .val (.int (1 : Int32)), .val (.ref b467), .val (.ref b467)] [(.ref b517)])) rfl (by rw [hml]; rfl) (Steps.refl _) (argsL := []) (rest := []) (lenOf pd_164 rfl) rfl (by show 2 * 0 + _ ≤ _; exact Nat.le_of_eq rfl) (hb hby at_189) (fun _ _ => ⟨rfl, e1151, (by decide : 16 + 0 ≤ _), (by decide : 93 + 0 ≤ _)⟩)
            dsimp only [Pt.U, Pt.locs, Pt.cells, Pt.slots] at X1155 l1155 y1155 z1155 st1155 hQ1155
            subst l1155 y1155 z1155
            obtain ⟨rfl, N1156, e1155⟩ := hQ1155
            have N1158 := Fr.app N1154 N1156
            refine own_goTW st1155 ?_
            refine own_goW (S' := T1155.setTop (mkF m 194 #[.val (.int p0), .val (.int p1), .val (.int p2), .val (.int p3), .val (.int p4), .val (.int p5), .val (.int ((1 : Int32) + (p4 &&& (3 : Int32)))), .val (.ref b454), .val (.ref b467), .val (.ref b482), .val (.ref b499), .val (.ref b517), .val (.int (1 : Int32)), .val (.ref b467), .val (.ref b467)] [(.int ((1 : Int32) + (p4 &&& (3 : Int32)))), (.int (2 : Int32))])) (fun t k => ?_) ?_
            · show Steps p.tables e below (T1155.setTop (mkF m 192 #[.val (.int p0), .val (.int p1), .val (.int p2), .val (.int p3), .val (.int p4), .val (.int p5), .val (.int ((1 : Int32) + (p4 &&& (3 : Int32)))), .val (.ref b454), .val (.ref b467), .val (.ref b482), .val (.ref b499), .val (.ref b517), .val (.int (1 : Int32)), .val (.ref b467), .val (.ref b467)] [(.int (2 : Int32))])) t
              refine XS.iload X1155.here hx rfl (hb hby at_192) rfl ?_
              exact k
            refine own_goW (S' := T1155.setTop (mkF m 202 #[.val (.int p0), .val (.int p1), .val (.int p2), .val (.int p3), .val (.int p4), .val (.int p5), .val (.int ((1 : Int32) + (p4 &&& (3 : Int32)))), .val (.ref b454), .val (.ref b467), .val (.ref b482), .val (.ref b499), .val (.ref b517), .val (.int (1 : Int32)), .val (.ref b467), .val (.ref b467)] [(.int (if (2 : Int32) = ((1 : Int32) + (p4 &&& (3 : Int32))) then (1 : Int32) else (0 : Int32)))])) (fun t k => ?_) ?_
            · show Steps p.tables e below (T1155.setTop (mkF m 194 #[.val (.int p0), .val (.int p1), .val (.int p2), .val (.int p3), .val (.int p4), .val (.int p5), .val (.int ((1 : Int32) + (p4 &&& (3 : Int32)))), .val (.ref b454), .val (.ref b467), .val (.ref b482), .val (.ref b499), .val (.ref b517), .val (.int (1 : Int32)), .val (.ref b467), .val (.ref b467)] [(.int ((1 : Int32) + (p4 &&& (3 : Int32)))), (.int (2 : Int32))])) t
              by_cases hc194 : (2 : Int32) = ((1 : Int32) + (p4 &&& (3 : Int32)))
              · show Steps p.tables e below (T1155.setTop (mkF m 194 #[.val (.int p0), .val (.int p1), .val (.int p2), .val (.int p3), .val (.int p4), .val (.int p5), .val (.int ((1 : Int32) + (p4 &&& (3 : Int32)))), .val (.ref b454), .val (.ref b467), .val (.ref b482), .val (.ref b499), .val (.ref b517), .val (.int (1 : Int32)), .val (.ref b467), .val (.ref b467)] [(.int ((1 : Int32) + (p4 &&& (3 : Int32)))), (.int (2 : Int32))])) t
                refine XS.icmpNo X1155.here hx rfl (hb hby at_194) rfl (teq hc194).2 ?_
                show Steps p.tables e below (T1155.setTop (mkF m 197 #[.val (.int p0), .val (.int p1), .val (.int p2), .val (.int p3), .val (.int p4), .val (.int p5), .val (.int ((1 : Int32) + (p4 &&& (3 : Int32)))), .val (.ref b454), .val (.ref b467), .val (.ref b482), .val (.ref b499), .val (.ref b517), .val (.int (1 : Int32)), .val (.ref b467), .val (.ref b467)] [])) t
                refine XS.iconst X1155.here hx rfl (hb hby at_197) ?_
                show Steps p.tables e below (T1155.setTop (mkF m 198 #[.val (.int p0), .val (.int p1), .val (.int p2), .val (.int p3), .val (.int p4), .val (.int p5), .val (.int ((1 : Int32) + (p4 &&& (3 : Int32)))), .val (.ref b454), .val (.ref b467), .val (.ref b482), .val (.ref b499), .val (.ref b517), .val (.int (1 : Int32)), .val (.ref b467), .val (.ref b467)] [(.int (1 : Int32))])) t
                refine XS.goto X1155.here hx rfl (pc0 := 198) (pc' := 202) rfl (hb hby at_198) (by decide) (by decide) ?_
                first | exact k | (simp only [if_pos hc194] at k ⊢; exact k)
              · show Steps p.tables e below (T1155.setTop (mkF m 194 #[.val (.int p0), .val (.int p1), .val (.int p2), .val (.int p3), .val (.int p4), .val (.int p5), .val (.int ((1 : Int32) + (p4 &&& (3 : Int32)))), .val (.ref b454), .val (.ref b467), .val (.ref b482), .val (.ref b499), .val (.ref b517), .val (.int (1 : Int32)), .val (.ref b467), .val (.ref b467)] [(.int ((1 : Int32) + (p4 &&& (3 : Int32)))), (.int (2 : Int32))])) t
                refine XS.icmpYes X1155.here hx rfl (pc0 := 194) (pc' := 201) rfl (hb hby at_194) rfl (feq hc194).2 (by decide) (by decide) ?_
                show Steps p.tables e below (T1155.setTop (mkF m 201 #[.val (.int p0), .val (.int p1), .val (.int p2), .val (.int p3), .val (.int p4), .val (.int p5), .val (.int ((1 : Int32) + (p4 &&& (3 : Int32)))), .val (.ref b454), .val (.ref b467), .val (.ref b482), .val (.ref b499), .val (.ref b517), .val (.int (1 : Int32)), .val (.ref b467), .val (.ref b467)] [])) t
                refine XS.iconst X1155.here hx rfl (hb hby at_201) ?_
                first | exact k | (simp only [if_neg hc194] at k ⊢; exact k)
            have hfin : (if (2 : Int32) = ((1 : Int32) + (p4 &&& (3 : Int32))) then (1 : Int32) else (0 : Int32)) = (1 : Int32) := if_pos (own_sz hc72 hc86 (by decide))
            rw [hfin]
            obtain ⟨fs, hr, hrun, hended, hW, hsame⟩ := X1155.leave (v := some (.int (1 : Int32))) (fun h => by rw [Bd.returns] at h; cases h)
            refine own_endW (v := some (.int (1 : Int32))) ?_ hrun hended ?_ (hS.ended hW (by show _ ≤ T1155.heap.size; rw [e1155]; exact hk1131) hsame) (by decide) (by decide)
            · show Steps p.tables e below (T1155.setTop (mkF m 202 #[.val (.int p0), .val (.int p1), .val (.int p2), .val (.int p3), .val (.int p4), .val (.int p5), .val (.int ((1 : Int32) + (p4 &&& (3 : Int32)))), .val (.ref b454), .val (.ref b467), .val (.ref b482), .val (.ref b499), .val (.ref b517), .val (.int (1 : Int32)), .val (.ref b467), .val (.ref b467)] [(.int (1 : Int32))])) _
              exact retN X1155 hx (t := .boolean) Bd.returns (by simp) (hb hby at_202) hr
            · show Qrm0 Z p0 p1 p2 p3 p4 p5 w_s_COMPACT_STRINGS w_s_DEFAULTCAPACITY_EMPTY_ELEMENTDATA h0 n0 _ T1155.heap _
              rw [e1155]
              exact ⟨rfl, N1158⟩
          · skip
            exfalso
            exact own_at1 hc86 hc123 hc134
  · skip
    refine own_goW (S' := T553.setTop (mkF m 86 #[.val (.int p0), .val (.int p1), .val (.int p2), .val (.int p3), .val (.int p4), .val (.int p5), .val (.int ((1 : Int32) + (p4 &&& (3 : Int32)))), .val (.ref b454), .val (.ref b467), .val (.ref b482), .val (.ref b499), .val (.ref b517), .unset, .unset, .unset] [(.int (2 : Int32)), (.int ((1 : Int32) + (p4 &&& (3 : Int32))))])) (fun t k => ?_) ?_
    · show Steps p.tables e below (T553.setTop (mkF m 72 #[.val (.int p0), .val (.int p1), .val (.int p2), .val (.int p3), .val (.int p4), .val (.int p5), .val (.int ((1 : Int32) + (p4 &&& (3 : Int32)))), .val (.ref b454), .val (.ref b467), .val (.ref b482), .val (.ref b499), .val (.ref b517), .unset, .unset, .unset] [(.int (1 : Int32)), (.int ((1 : Int32) + (p4 &&& (3 : Int32))))])) t
      refine XS.icmpYes X553.here hx rfl (pc0 := 72) (pc' := 83) rfl (hb hby at_72) rfl (flt hc72).2.2.2 (by decide) (by decide) ?_
      show Steps p.tables e below (T553.setTop (mkF m 83 #[.val (.int p0), .val (.int p1), .val (.int p2), .val (.int p3), .val (.int p4), .val (.int p5), .val (.int ((1 : Int32) + (p4 &&& (3 : Int32)))), .val (.ref b454), .val (.ref b467), .val (.ref b482), .val (.ref b499), .val (.ref b517), .unset, .unset, .unset] [])) t
      refine XS.iload X553.here hx rfl (hb hby at_83) rfl ?_
      show Steps p.tables e below (T553.setTop (mkF m 85 #[.val (.int p0), .val (.int p1), .val (.int p2), .val (.int p3), .val (.int p4), .val (.int p5), .val (.int ((1 : Int32) + (p4 &&& (3 : Int32)))), .val (.ref b454), .val (.ref b467), .val (.ref b482), .val (.ref b499), .val (.ref b517), .unset, .unset, .unset] [(.int ((1 : Int32) + (p4 &&& (3 : Int32))))])) t
      refine XS.iconst X553.here hx rfl (hb hby at_85) ?_
      exact k
    by_cases hc86 : (2 : Int32) < ((1 : Int32) + (p4 &&& (3 : Int32)))
    · skip
      exfalso
      exact own_gl hc72 hc86 (by decide)
    · skip
      refine own_goW (S' := T553.setTop (mkF m 100 #[.val (.int p0), .val (.int p1), .val (.int p2), .val (.int p3), .val (.int p4), .val (.int p5), .val (.int ((1 : Int32) + (p4 &&& (3 : Int32)))), .val (.ref b454), .val (.ref b467), .val (.ref b482), .val (.ref b499), .val (.ref b517), .unset, .unset, .unset] [(.int (3 : Int32)), (.int ((1 : Int32) + (p4 &&& (3 : Int32))))])) (fun t k => ?_) ?_
      · show Steps p.tables e below (T553.setTop (mkF m 86 #[.val (.int p0), .val (.int p1), .val (.int p2), .val (.int p3), .val (.int p4), .val (.int p5), .val (.int ((1 : Int32) + (p4 &&& (3 : Int32)))), .val (.ref b454), .val (.ref b467), .val (.ref b482), .val (.ref b499), .val (.ref b517), .unset, .unset, .unset] [(.int (2 : Int32)), (.int ((1 : Int32) + (p4 &&& (3 : Int32))))])) t
        refine XS.icmpYes X553.here hx rfl (pc0 := 86) (pc' := 97) rfl (hb hby at_86) rfl (flt hc86).2.2.2 (by decide) (by decide) ?_
        show Steps p.tables e below (T553.setTop (mkF m 97 #[.val (.int p0), .val (.int p1), .val (.int p2), .val (.int p3), .val (.int p4), .val (.int p5), .val (.int ((1 : Int32) + (p4 &&& (3 : Int32)))), .val (.ref b454), .val (.ref b467), .val (.ref b482), .val (.ref b499), .val (.ref b517), .unset, .unset, .unset] [])) t
        refine XS.iload X553.here hx rfl (hb hby at_97) rfl ?_
        show Steps p.tables e below (T553.setTop (mkF m 99 #[.val (.int p0), .val (.int p1), .val (.int p2), .val (.int p3), .val (.int p4), .val (.int p5), .val (.int ((1 : Int32) + (p4 &&& (3 : Int32)))), .val (.ref b454), .val (.ref b467), .val (.ref b482), .val (.ref b499), .val (.ref b517), .unset, .unset, .unset] [(.int ((1 : Int32) + (p4 &&& (3 : Int32))))])) t
        refine XS.iconst X553.here hx rfl (hb hby at_99) ?_
        exact k
      by_cases hc100 : (3 : Int32) < ((1 : Int32) + (p4 &&& (3 : Int32)))
      · skip
        exfalso
        exact own_gl hc86 hc100 (by decide)
      · skip
        refine own_goW (S' := T553.setTop (mkF m 123 #[.val (.int p0), .val (.int p1), .val (.int p2), .val (.int p3), .val (.int p4), .val (.int p5), .val (.int ((1 : Int32) + (p4 &&& (3 : Int32)))), .val (.ref b454), .val (.ref b467), .val (.ref b482), .val (.ref b499), .val (.ref b517), .val (.int ((p5 &&& (2147483647 : Int32)) % ((1 : Int32) + (p4 &&& (3 : Int32))))), .unset, .unset] [(.int ((p5 &&& (2147483647 : Int32)) % ((1 : Int32) + (p4 &&& (3 : Int32)))))])) (fun t k => ?_) ?_
        · show Steps p.tables e below (T553.setTop (mkF m 100 #[.val (.int p0), .val (.int p1), .val (.int p2), .val (.int p3), .val (.int p4), .val (.int p5), .val (.int ((1 : Int32) + (p4 &&& (3 : Int32)))), .val (.ref b454), .val (.ref b467), .val (.ref b482), .val (.ref b499), .val (.ref b517), .unset, .unset, .unset] [(.int (3 : Int32)), (.int ((1 : Int32) + (p4 &&& (3 : Int32))))])) t
          refine XS.icmpYes X553.here hx rfl (pc0 := 100) (pc' := 111) rfl (hb hby at_100) rfl (flt hc100).2.2.2 (by decide) (by decide) ?_
          show Steps p.tables e below (T553.setTop (mkF m 111 #[.val (.int p0), .val (.int p1), .val (.int p2), .val (.int p3), .val (.int p4), .val (.int p5), .val (.int ((1 : Int32) + (p4 &&& (3 : Int32)))), .val (.ref b454), .val (.ref b467), .val (.ref b482), .val (.ref b499), .val (.ref b517), .unset, .unset, .unset] [])) t
          refine XS.iload X553.here hx rfl (hb hby at_111) rfl ?_
          show Steps p.tables e below (T553.setTop (mkF m 113 #[.val (.int p0), .val (.int p1), .val (.int p2), .val (.int p3), .val (.int p4), .val (.int p5), .val (.int ((1 : Int32) + (p4 &&& (3 : Int32)))), .val (.ref b454), .val (.ref b467), .val (.ref b482), .val (.ref b499), .val (.ref b517), .unset, .unset, .unset] [(.int p5)])) t
          refine X553.ldcInt hx hown (mvT hZ (hw _ (List.mem_of_getElem? (i := 81) rfl))) (g := (mkF m 113 #[.val (.int p0), .val (.int p1), .val (.int p2), .val (.int p3), .val (.int p4), .val (.int p5), .val (.int ((1 : Int32) + (p4 &&& (3 : Int32)))), .val (.ref b454), .val (.ref b467), .val (.ref b482), .val (.ref b499), .val (.ref b517), .unset, .unset, .unset] [(.int p5)])) rfl (hb hby at_113) _ ?_
          show Steps p.tables e below (T553.setTop (mkF m 115 #[.val (.int p0), .val (.int p1), .val (.int p2), .val (.int p3), .val (.int p4), .val (.int p5), .val (.int ((1 : Int32) + (p4 &&& (3 : Int32)))), .val (.ref b454), .val (.ref b467), .val (.ref b482), .val (.ref b499), .val (.ref b517), .unset, .unset, .unset] [(.int (2147483647 : Int32)), (.int p5)])) t
          refine XS.iand X553.here hx rfl (hb hby at_115) rfl ?_
          show Steps p.tables e below (T553.setTop (mkF m 116 #[.val (.int p0), .val (.int p1), .val (.int p2), .val (.int p3), .val (.int p4), .val (.int p5), .val (.int ((1 : Int32) + (p4 &&& (3 : Int32)))), .val (.ref b454), .val (.ref b467), .val (.ref b482), .val (.ref b499), .val (.ref b517), .unset, .unset, .unset] [(.int (p5 &&& (2147483647 : Int32)))])) t
          refine XS.iload X553.here hx rfl (hb hby at_116) rfl ?_
          show Steps p.tables e below (T553.setTop (mkF m 118 #[.val (.int p0), .val (.int p1), .val (.int p2), .val (.int p3), .val (.int p4), .val (.int p5), .val (.int ((1 : Int32) + (p4 &&& (3 : Int32)))), .val (.ref b454), .val (.ref b467), .val (.ref b482), .val (.ref b499), .val (.ref b517), .unset, .unset, .unset] [(.int ((1 : Int32) + (p4 &&& (3 : Int32)))), (.int (p5 &&& (2147483647 : Int32)))])) t
          refine iremM X553 hx rfl (hb hby at_118) rfl (own_nz p4) ?_
          show Steps p.tables e below (T553.setTop (mkF m 119 #[.val (.int p0), .val (.int p1), .val (.int p2), .val (.int p3), .val (.int p4), .val (.int p5), .val (.int ((1 : Int32) + (p4 &&& (3 : Int32)))), .val (.ref b454), .val (.ref b467), .val (.ref b482), .val (.ref b499), .val (.ref b517), .unset, .unset, .unset] [(.int ((p5 &&& (2147483647 : Int32)) % ((1 : Int32) + (p4 &&& (3 : Int32)))))])) t
          refine XS.istore X553.here hx rfl (hb hby at_119) rfl (l' := #[.val (.int p0), .val (.int p1), .val (.int p2), .val (.int p3), .val (.int p4), .val (.int p5), .val (.int ((1 : Int32) + (p4 &&& (3 : Int32)))), .val (.ref b454), .val (.ref b467), .val (.ref b482), .val (.ref b499), .val (.ref b517), .val (.int ((p5 &&& (2147483647 : Int32)) % ((1 : Int32) + (p4 &&& (3 : Int32))))), .unset, .unset]) rfl ?_
          show Steps p.tables e below (T553.setTop (mkF m 121 #[.val (.int p0), .val (.int p1), .val (.int p2), .val (.int p3), .val (.int p4), .val (.int p5), .val (.int ((1 : Int32) + (p4 &&& (3 : Int32)))), .val (.ref b454), .val (.ref b467), .val (.ref b482), .val (.ref b499), .val (.ref b517), .val (.int ((p5 &&& (2147483647 : Int32)) % ((1 : Int32) + (p4 &&& (3 : Int32))))), .unset, .unset] [])) t
          refine XS.iload X553.here hx rfl (hb hby at_121) rfl ?_
          exact k
        by_cases hc123 : ((p5 &&& (2147483647 : Int32)) % ((1 : Int32) + (p4 &&& (3 : Int32)))) = (0 : Int32)
        · skip
          refine own_goW (S' := T553.setTop (mkF m 157 #[.val (.int p0), .val (.int p1), .val (.int p2), .val (.int p3), .val (.int p4), .val (.int p5), .val (.int ((1 : Int32) + (p4 &&& (3 : Int32)))), .val (.ref b454), .val (.ref b467), .val (.ref b482), .val (.ref b499), .val (.ref b517), .val (.int ((p5 &&& (2147483647 : Int32)) % ((1 : Int32) + (p4 &&& (3 : Int32))))), .val (.ref b454), .unset] [])) (fun t k => ?_) ?_
          · show Steps p.tables e below (T553.setTop (mkF m 123 #[.val (.int p0), .val (.int p1), .val (.int p2), .val (.int p3), .val (.int p4), .val (.int p5), .val (.int ((1 : Int32) + (p4 &&& (3 : Int32)))), .val (.ref b454), .val (.ref b467), .val (.ref b482), .val (.ref b499), .val (.ref b517), .val (.int ((p5 &&& (2147483647 : Int32)) % ((1 : Int32) + (p4 &&& (3 : Int32))))), .unset, .unset] [(.int ((p5 &&& (2147483647 : Int32)) % ((1 : Int32) + (p4 &&& (3 : Int32)))))])) t
            refine XS.ifNo X553.here hx rfl (hb hby at_123) rfl ((if0 _ _).trans (teq hc123).2) ?_
            show Steps p.tables e below (T553.setTop (mkF m 126 #[.val (.int p0), .val (.int p1), .val (.int p2), .val (.int p3), .val (.int p4), .val (.int p5), .val (.int ((1 : Int32) + (p4 &&& (3 : Int32)))), .val (.ref b454), .val (.ref b467), .val (.ref b482), .val (.ref b499), .val (.ref b517), .val (.int ((p5 &&& (2147483647 : Int32)) % ((1 : Int32) + (p4 &&& (3 : Int32))))), .unset, .unset] [])) t
            refine XS.aload X553.here hx rfl (hb hby at_126) rfl rfl ?_
            show Steps p.tables e below (T553.setTop (mkF m 128 #[.val (.int p0), .val (.int p1), .val (.int p2), .val (.int p3), .val (.int p4), .val (.int p5), .val (.int ((1 : Int32) + (p4 &&& (3 : Int32)))), .val (.ref b454), .val (.ref b467), .val (.ref b482), .val (.ref b499), .val (.ref b517), .val (.int ((p5 &&& (2147483647 : Int32)) % ((1 : Int32) + (p4 &&& (3 : Int32))))), .unset, .unset] [(.ref b454)])) t
            refine XS.goto X553.here hx rfl (pc0 := 128) (pc' := 155) rfl (hb hby at_128) (by decide) (by decide) ?_
            show Steps p.tables e below (T553.setTop (mkF m 155 #[.val (.int p0), .val (.int p1), .val (.int p2), .val (.int p3), .val (.int p4), .val (.int p5), .val (.int ((1 : Int32) + (p4 &&& (3 : Int32)))), .val (.ref b454), .val (.ref b467), .val (.ref b482), .val (.ref b499), .val (.ref b517), .val (.int ((p5 &&& (2147483647 : Int32)) % ((1 : Int32) + (p4 &&& (3 : Int32))))), .unset, .unset] [(.ref b454)])) t
            refine XS.astore X553.here hx rfl (hb hby at_155) rfl rfl (l' := #[.val (.int p0), .val (.int p1), .val (.int p2), .val (.int p3), .val (.int p4), .val (.int p5), .val (.int ((1 : Int32) + (p4 &&& (3 : Int32)))), .val (.ref b454), .val (.ref b467), .val (.ref b482), .val (.ref b499), .val (.ref b517), .val (.int ((p5 &&& (2147483647 : Int32)) % ((1 : Int32) + (p4 &&& (3 : Int32))))), .val (.ref b454), .unset]) rfl ?_
            exact k
          obtain ⟨b1159, T1159, h1159, k1159, X1159, e1159, E1159, hS, hk1159, hZ, hown, st1159⟩ := ldcS (s := s) (vm0 := s.vm) X553 hx hZ hown (hw _ (List.mem_of_getElem? (i := 82) rfl)) (own_strW (hw _ (List.mem_of_getElem? (i := 2) rfl)) (hw _ (List.mem_of_getElem? (i := 10) rfl)) (hw _ (List.mem_of_getElem? (i := 14) rfl)) (hw _ (List.mem_of_getElem? (i := 23) rfl)) (hw _ (List.mem_of_getElem? (i := 25) rfl)) (hw _ (List.mem_of_getElem? (i := 83) rfl)) (hw _ (List.mem_of_getElem? (i := 84) rfl))) rfl hS hk579 (g := (mkF m 157 #[.val (.int p0), .val (.int p1), .val (.int p2), .val (.int p3), .val (.int p4), .val (.int p5), .val (.int ((1 : Int32) + (p4 &&& (3 : Int32)))), .val (.ref b454), .val (.ref b467), .val (.ref b482), .val (.ref b499), .val (.ref b517), .val (.int ((p5 &&& (2147483647 : Int32)) % ((1 : Int32) + (p4 &&& (3 : Int32))))), .val (.ref b454), .unset] [])) rfl (hb hby at_157) (n := 12) (by decide) (by decide) (by decide) (by decide)
          have Z1160 : n0 ≤ h1159.size := Nat.le_trans Z578 E1159.1
          have hk1161 := Nat.le_trans hk579 E1159.1
          have f1162 : own_Len Z h1159 w_s_DEFAULTCAPACITY_EMPTY_ELEMENTDATA (.object "java/lang/Object") (0 : Int32) := f570.ext E1159
          have f1163 : Sta Z h1159 "java/lang/String" "COMPACT_STRINGS" "Z" (.int w_s_COMPACT_STRINGS) := Sta.ext E1159 f571
          have f1164 : Sta Z h1159 "java/util/ArrayList" "DEFAULTCAPACITY_EMPTY_ELEMENTDATA" "[Ljava/lang/Object;" (.ref w_s_DEFAULTCAPACITY_EMPTY_ELEMENTDATA) := Sta.ext E1159 f572
          have f1165 : Exa Z h1159 b454 "java/lang/String" := Exa.ext E1159 f573
          have f1166 : Exa Z h1159 b467 "java/lang/String" := Exa.ext E1159 f574
          have f1167 : Exa Z h1159 b482 "java/lang/String" := Exa.ext E1159 f575
          have f1168 : Exa Z h1159 b499 "java/lang/String" := Exa.ext E1159 f576
          have f1169 : Exa Z h1159 b517 "java/util/ArrayList" := Exa.ext E1159 p558
          have f1170 : Fld Z h1159 b517 "java/util/AbstractList" "modCount" "I" (.int ((0 : Int32) + (1 : Int32))) := Fld.ext E1159 p559
          have f1171 : Fld Z h1159 b517 "java/util/ArrayList" "elementData" "[Ljava/lang/Object;" (.ref b554) := Fld.ext E1159 p560
          have f1172 : Fld Z h1159 b517 "java/util/ArrayList" "size" "I" (.int (1 : Int32)) := Fld.ext E1159 p561
          have f1173 : own_ArvR Z h1159 b554 "java/lang/Object" (10 : Int32) [(.ref b454), .null, .null, .null, .null, .null, .null, .null, .null, .null] := p562.ext E1159
          refine own_goW st1159 ?_
          refine own_goW (S' := T1159.setTop (mkF m 163 #[.val (.int p0), .val (.int p1), .val (.int p2), .val (.int p3), .val (.int p4), .val (.int p5), .val (.int ((1 : Int32) + (p4 &&& (3 : Int32)))), .val (.ref b454), .val (.ref b467), .val (.ref b482), .val (.ref b499), .val (.ref b517), .val (.int ((p5 &&& (2147483647 : Int32)) % ((1 : Int32) + (p4 &&& (3 : Int32))))), .val (.ref b454), .unset] [(.int ((p5 &&& (2147483647 : Int32)) % ((1 : Int32) + (p4 &&& (3 : Int32))))), (.ref b517), (.ref b1159)])) (fun t k => ?_) ?_
          · show Steps p.tables e below (T1159.setTop (mkF m 159 #[.val (.int p0), .val (.int p1), .val (.int p2), .val (.int p3), .val (.int p4), .val (.int p5), .val (.int ((1 : Int32) + (p4 &&& (3 : Int32)))), .val (.ref b454), .val (.ref b467), .val (.ref b482), .val (.ref b499), .val (.ref b517), .val (.int ((p5 &&& (2147483647 : Int32)) % ((1 : Int32) + (p4 &&& (3 : Int32))))), .val (.ref b454), .unset] [(.ref b1159)])) t
            refine XS.aload X1159.here hx rfl (hb hby at_159) rfl rfl ?_
            show Steps p.tables e below (T1159.setTop (mkF m 161 #[.val (.int p0), .val (.int p1), .val (.int p2), .val (.int p3), .val (.int p4), .val (.int p5), .val (.int ((1 : Int32) + (p4 &&& (3 : Int32)))), .val (.ref b454), .val (.ref b467), .val (.ref b482), .val (.ref b499), .val (.ref b517), .val (.int ((p5 &&& (2147483647 : Int32)) % ((1 : Int32) + (p4 &&& (3 : Int32))))), .val (.ref b454), .unset] [(.ref b517), (.ref b1159)])) t
            refine XS.iload X1159.here hx rfl (hb hby at_161) rfl ?_
            exact k
          obtain ⟨b1174, T1174, h1174, k1174, X1174, e1174, E1174, hS, hk1174, hZ, hown, st1174⟩ := ldcS (s := s) (vm0 := T1159.vm) X1159 hx hZ hown (hw _ (List.mem_of_getElem? (i := 85) rfl)) (own_strW (hw _ (List.mem_of_getElem? (i := 2) rfl)) (hw _ (List.mem_of_getElem? (i := 10) rfl)) (hw _ (List.mem_of_getElem? (i := 14) rfl)) (hw _ (List.mem_of_getElem? (i := 23) rfl)) (hw _ (List.mem_of_getElem? (i := 25) rfl)) (hw _ (List.mem_of_getElem? (i := 83) rfl)) (hw _ (List.mem_of_getElem? (i := 84) rfl))) e1159 hS hk1159 (g := (mkF m 163 #[.val (.int p0), .val (.int p1), .val (.int p2), .val (.int p3), .val (.int p4), .val (.int p5), .val (.int ((1 : Int32) + (p4 &&& (3 : Int32)))), .val (.ref b454), .val (.ref b467), .val (.ref b482), .val (.ref b499), .val (.ref b517), .val (.int ((p5 &&& (2147483647 : Int32)) % ((1 : Int32) + (p4 &&& (3 : Int32))))), .val (.ref b454), .unset] [(.int ((p5 &&& (2147483647 : Int32)) % ((1 : Int32) + (p4 &&& (3 : Int32))))), (.ref b517), (.ref b1159)])) rfl (hb hby at_163) (n := 8) (by decide) (by decide) (by decide) (by decide)
          have Z1175 : n0 ≤ h1174.size := Nat.le_trans Z1160 E1174.1
          have hk1176 := Nat.le_trans hk1159 E1174.1
          have f1177 : own_Len Z h1174 w_s_DEFAULTCAPACITY_EMPTY_ELEMENTDATA (.object "java/lang/Object") (0 : Int32) := f1162.ext E1174
          have f1178 : Sta Z h1174 "java/lang/String" "COMPACT_STRINGS" "Z" (.int w_s_COMPACT_STRINGS) := Sta.ext E1174 f1163
          have f1179 : Sta Z h1174 "java/util/ArrayList" "DEFAULTCAPACITY_EMPTY_ELEMENTDATA" "[Ljava/lang/Object;" (.ref w_s_DEFAULTCAPACITY_EMPTY_ELEMENTDATA) := Sta.ext E1174 f1164
          have f1180 : Exa Z h1174 b454 "java/lang/String" := Exa.ext E1174 f1165
          have f1181 : Exa Z h1174 b467 "java/lang/String" := Exa.ext E1174 f1166
          have f1182 : Exa Z h1174 b482 "java/lang/String" := Exa.ext E1174 f1167
          have f1183 : Exa Z h1174 b499 "java/lang/String" := Exa.ext E1174 f1168
          have f1184 : Exa Z h1174 b517 "java/util/ArrayList" := Exa.ext E1174 f1169
          have f1185 : Fld Z h1174 b517 "java/util/AbstractList" "modCount" "I" (.int ((0 : Int32) + (1 : Int32))) := Fld.ext E1174 f1170
          have f1186 : Fld Z h1174 b517 "java/util/ArrayList" "elementData" "[Ljava/lang/Object;" (.ref b554) := Fld.ext E1174 f1171
          have f1187 : Fld Z h1174 b517 "java/util/ArrayList" "size" "I" (.int (1 : Int32)) := Fld.ext E1174 f1172
          have f1188 : own_ArvR Z h1174 b554 "java/lang/Object" (10 : Int32) [(.ref b454), .null, .null, .null, .null, .null, .null, .null, .null, .null] := f1173.ext E1174
          refine own_goW st1174 ?_
          obtain ⟨b1189, T1189, h1189, k1189, X1189, e1189, E1189, hS, hk1189, hZ, hown, st1189⟩ := ldcS (s := s) (vm0 := T1174.vm) X1174 hx hZ hown (hw _ (List.mem_of_getElem? (i := 86) rfl)) (own_strW (hw _ (List.mem_of_getElem? (i := 2) rfl)) (hw _ (List.mem_of_getElem? (i := 10) rfl)) (hw _ (List.mem_of_getElem? (i := 14) rfl)) (hw _ (List.mem_of_getElem? (i := 23) rfl)) (hw _ (List.mem_of_getElem? (i := 25) rfl)) (hw _ (List.mem_of_getElem? (i := 83) rfl)) (hw _ (List.mem_of_getElem? (i := 84) rfl))) e1174 hS hk1174 (g := (mkF m 165 #[.val (.int p0), .val (.int p1), .val (.int p2), .val (.int p3), .val (.int p4), .val (.int p5), .val (.int ((1 : Int32) + (p4 &&& (3 : Int32)))), .val (.ref b454), .val (.ref b467), .val (.ref b482), .val (.ref b499), .val (.ref b517), .val (.int ((p5 &&& (2147483647 : Int32)) % ((1 : Int32) + (p4 &&& (3 : Int32))))), .val (.ref b454), .unset] [(.ref b1174), (.int ((p5 &&& (2147483647 : Int32)) % ((1 : Int32) + (p4 &&& (3 : Int32))))), (.ref b517), (.ref b1159)])) rfl (hb hby at_165) (n := 28) (by decide) (by decide) (by decide) (by decide)
          have Z1190 : n0 ≤ h1189.size := Nat.le_trans Z1175 E1189.1
          have hk1191 := Nat.le_trans hk1174 E1189.1
          have f1192 : own_Len Z h1189 w_s_DEFAULTCAPACITY_EMPTY_ELEMENTDATA (.object "java/lang/Object") (0 : Int32) := f1177.ext E1189
          have f1193 : Sta Z h1189 "java/lang/String" "COMPACT_STRINGS" "Z" (.int w_s_COMPACT_STRINGS) := Sta.ext E1189 f1178
          have f1194 : Sta Z h1189 "java/util/ArrayList" "DEFAULTCAPACITY_EMPTY_ELEMENTDATA" "[Ljava/lang/Object;" (.ref w_s_DEFAULTCAPACITY_EMPTY_ELEMENTDATA) := Sta.ext E1189 f1179
          have f1195 : Exa Z h1189 b454 "java/lang/String" := Exa.ext E1189 f1180
          have f1196 : Exa Z h1189 b467 "java/lang/String" := Exa.ext E1189 f1181
          have f1197 : Exa Z h1189 b482 "java/lang/String" := Exa.ext E1189 f1182
          have f1198 : Exa Z h1189 b499 "java/lang/String" := Exa.ext E1189 f1183
          have f1199 : Exa Z h1189 b517 "java/util/ArrayList" := Exa.ext E1189 f1184
          have f1200 : Fld Z h1189 b517 "java/util/AbstractList" "modCount" "I" (.int ((0 : Int32) + (1 : Int32))) := Fld.ext E1189 f1185
          have f1201 : Fld Z h1189 b517 "java/util/ArrayList" "elementData" "[Ljava/lang/Object;" (.ref b554) := Fld.ext E1189 f1186
          have f1202 : Fld Z h1189 b517 "java/util/ArrayList" "size" "I" (.int (1 : Int32)) := Fld.ext E1189 f1187
          have f1203 : own_ArvR Z h1189 b554 "java/lang/Object" (10 : Int32) [(.ref b454), .null, .null, .null, .null, .null, .null, .null, .null, .null] := f1188.ext E1189
          refine own_goW st1189 ?_
          have hf1204 : ((p5 &&& (2147483647 : Int32)) % ((1 : Int32) + (p4 &&& (3 : Int32)))) = (0 : Int32) := hc123
          rw [hf1204]
          obtain ⟨_, _, ⟨T1205, L1205, kk1205, nn1205⟩, -, X1205, ⟨Lc1205, hQ1205, l1205, y1205, z1205⟩, st1205⟩ := Jvm.LawKit.callS X1189 hx (y := (⟨"com/example/scorebench/scorebench/OptionValue", "of", "(Ljava/lang/String;Ljava/util/List;ILjava/lang/String;Ljava/lang/String;)Ljava/lang/String;"⟩ : MethodName)) hown (mvT hZ (hw _ (List.mem_of_getElem? (i := 87) rfl))) (mvT hZ (hw _ (List.mem_of_getElem? (i := 88) rfl))) (mvT hZ (hw _ (List.mem_of_getElem? (i := 89) rfl))) (mvT hZ (hw _ (List.mem_of_getElem? (i := 90) rfl))) (by decide) (backOf (W := 0) (of0 l Z a0 hw [] b1159 b517 b1174 b1189 (1 : Int32) b554 b454 (.null) (.null) (.null) (.null) (.null) (.null) (.null) (.null) (.null) h1189 n0 Z1190 (by decide : (0 : Int32) < (1 : Int32)) f1202 f1199 (by decide : ¬ ((0 : Int32) = (1 : Int32))) f1201 f1203 f1195) hZ (hw _ (List.mem_of_getElem? (i := 90) rfl)) (hw _ (List.mem_of_getElem? (i := 89) rfl)) (by decide) (by decide)) (g := (mkF m 167 #[.val (.int p0), .val (.int p1), .val (.int p2), .val (.int p3), .val (.int p4), .val (.int p5), .val (.int ((1 : Int32) + (p4 &&& (3 : Int32)))), .val (.ref b454), .val (.ref b467), .val (.ref b482), .val (.ref b499), .val (.ref b517), .val (.int (0 : Int32)), .val (.ref b454), .unset] [(.ref b1189), (.ref b1174), (.int (0 : Int32)), (.ref b517), (.ref b1159)])) rfl (by rw [hml]; rfl) (argsL := [(.ref b1159), (.ref b517), (.int (0 : Int32)), (.ref b1174), (.ref b1189)]) (rest := []) (lenOf pd_179 rfl) rfl (by show 2 * 0 + _ ≤ _; exact Nat.le_of_eq rfl) (hb hby at_167) (fun _ _ => ⟨rfl, e1189, (by decide : 16 + 0 ≤ _), (by decide : 93 + 0 ≤ _)⟩)
          dsimp only [Pt.U, Pt.locs, Pt.cells, Pt.slots] at X1205 l1205 y1205 z1205 st1205 hQ1205
          subst l1205 y1205 z1205
          obtain ⟨rfl, N1206, e1205⟩ := hQ1205
          have N1208 := Fr.app N563 N1206
          refine own_goW st1205 ?_
          refine own_goW (S' := T1205.setTop (mkF m 181 #[.val (.int p0), .val (.int p1), .val (.int p2), .val (.int p3), .val (.int p4), .val (.int p5), .val (.int ((1 : Int32) + (p4 &&& (3 : Int32)))), .val (.ref b454), .val (.ref b467), .val (.ref b482), .val (.ref b499), .val (.ref b517), .val (.int (0 : Int32)), .val (.ref b454), .val (.ref b454)] [(.ref b454), (.ref b454)])) (fun t k => ?_) ?_
          · show Steps p.tables e below (T1205.setTop (mkF m 170 #[.val (.int p0), .val (.int p1), .val (.int p2), .val (.int p3), .val (.int p4), .val (.int p5), .val (.int ((1 : Int32) + (p4 &&& (3 : Int32)))), .val (.ref b454), .val (.ref b467), .val (.ref b482), .val (.ref b499), .val (.ref b517), .val (.int (0 : Int32)), .val (.ref b454), .unset] [(.ref b454)])) t
            refine XS.astore X1205.here hx rfl (hb hby at_170) rfl rfl (l' := #[.val (.int p0), .val (.int p1), .val (.int p2), .val (.int p3), .val (.int p4), .val (.int p5), .val (.int ((1 : Int32) + (p4 &&& (3 : Int32)))), .val (.ref b454), .val (.ref b467), .val (.ref b482), .val (.ref b499), .val (.ref b517), .val (.int (0 : Int32)), .val (.ref b454), .val (.ref b454)]) rfl ?_
            show Steps p.tables e below (T1205.setTop (mkF m 172 #[.val (.int p0), .val (.int p1), .val (.int p2), .val (.int p3), .val (.int p4), .val (.int p5), .val (.int ((1 : Int32) + (p4 &&& (3 : Int32)))), .val (.ref b454), .val (.ref b467), .val (.ref b482), .val (.ref b499), .val (.ref b517), .val (.int (0 : Int32)), .val (.ref b454), .val (.ref b454)] [])) t
            refine XS.aload X1205.here hx rfl (hb hby at_172) rfl rfl ?_
            show Steps p.tables e below (T1205.setTop (mkF m 174 #[.val (.int p0), .val (.int p1), .val (.int p2), .val (.int p3), .val (.int p4), .val (.int p5), .val (.int ((1 : Int32) + (p4 &&& (3 : Int32)))), .val (.ref b454), .val (.ref b467), .val (.ref b482), .val (.ref b499), .val (.ref b517), .val (.int (0 : Int32)), .val (.ref b454), .val (.ref b454)] [(.ref b454)])) t
            refine XS.ifnullNo X1205.here hx rfl (hb hby at_174) rfl ?_
            show Steps p.tables e below (T1205.setTop (mkF m 177 #[.val (.int p0), .val (.int p1), .val (.int p2), .val (.int p3), .val (.int p4), .val (.int p5), .val (.int ((1 : Int32) + (p4 &&& (3 : Int32)))), .val (.ref b454), .val (.ref b467), .val (.ref b482), .val (.ref b499), .val (.ref b517), .val (.int (0 : Int32)), .val (.ref b454), .val (.ref b454)] [])) t
            refine XS.aload X1205.here hx rfl (hb hby at_177) rfl rfl ?_
            show Steps p.tables e below (T1205.setTop (mkF m 179 #[.val (.int p0), .val (.int p1), .val (.int p2), .val (.int p3), .val (.int p4), .val (.int p5), .val (.int ((1 : Int32) + (p4 &&& (3 : Int32)))), .val (.ref b454), .val (.ref b467), .val (.ref b482), .val (.ref b499), .val (.ref b517), .val (.int (0 : Int32)), .val (.ref b454), .val (.ref b454)] [(.ref b454)])) t
            refine XS.aload X1205.here hx rfl (hb hby at_179) rfl rfl ?_
            exact k
          obtain ⟨cq1209, kq1209, qa1209, qb1209, qc1209⟩ := isOf hZ e1205 f1195
          obtain ⟨_, _, ⟨T1209, L1209, kk1209, nn1209⟩, -, X1209, ⟨Lc1209, hQ1209, l1209, y1209, z1209⟩, st1209⟩ := X1205.virtualBack hx (y := (⟨"java/lang/String", "equals", "(Ljava/lang/Object;)Z"⟩ : MethodName)) (z := (⟨"java/lang/String", "equals", "(Ljava/lang/Object;)Z"⟩ : MethodName)) hown (mvT hZ (hw _ (List.mem_of_getElem? (i := 122) rfl))) (mvT hZ (hw _ (List.mem_of_getElem? (i := 123) rfl))) (notFace_of_selects (args := #[]) (mvT hZ (hw _ (List.mem_of_getElem? (i := 125) rfl)))) (mvT hZ (hw _ (List.mem_of_getElem? (i := 125) rfl))) (mvT hZ (hw _ (List.mem_of_getElem? (i := 124) rfl))) (by decide) (backOf (W := 0) (eqSame l Z a0 hw [] b454 b454 h1189 n0 Z1190 (rfl : b454 = b454)) hZ (hw _ (List.mem_of_getElem? (i := 126) rfl)) (hw _ (List.mem_of_getElem? (i := 2) rfl)) (by decide) (by decide)) qa1209 qc1209 (g := (mkF m 181 #[.val (.int p0), .val (.int p1), .val (.int p2), .val (.int p3), .val (.int p4), .val (.int p5), .val (.int ((1 : Int32) + (p4 &&& (3 : Int32)))), .val (.ref b454), .val (.ref b467), .val (.ref b482), .val (.ref b499), .val (.ref b517), .val (.int (0 : Int32)), .val (.ref b454), .val (.ref b454)] [(.ref b454), (.ref b454)])) rfl (by rw [hml]; rfl) (Steps.refl _) (argsL := [(.ref b454)]) (rest := []) (lenOf pd_178 rfl) rfl (by show 2 * 0 + _ ≤ _; exact Nat.le_of_eq rfl) (hb hby at_181) (fun _ _ => ⟨rfl, e1205, (by decide : 16 + 0 ≤ _), (by decide : 93 + 0 ≤ _)⟩)
          dsimp only [Pt.U, Pt.locs, Pt.cells, Pt.slots] at X1209 l1209 y1209 z1209 st1209 hQ1209
          subst l1209 y1209 z1209
          obtain ⟨rfl, N1210, e1209⟩ := hQ1209
          have N1212 := Fr.app N1208 N1210
          refine own_goTW st1209 ?_
          refine own_goW (S' := T1209.setTop (mkF m 189 #[.val (.int p0), .val (.int p1), .val (.int p2), .val (.int p3), .val (.int p4), .val (.int p5), .val (.int ((1 : Int32) + (p4 &&& (3 : Int32)))), .val (.ref b454), .val (.ref b467), .val (.ref b482), .val (.ref b499), .val (.ref b517), .val (.int (0 : Int32)), .val (.ref b454), .val (.ref b454)] [(.ref b517)])) (fun t k => ?_) ?_
          · show Steps p.tables e below (T1209.setTop (mkF m 184 #[.val (.int p0), .val (.int p1), .val (.int p2), .val (.int p3), .val (.int p4), .val (.int p5), .val (.int ((1 : Int32) + (p4 &&& (3 : Int32)))), .val (.ref b454), .val (.ref b467), .val (.ref b482), .val (.ref b499), .val (.ref b517), .val (.int (0 : Int32)), .val (.ref b454), .val (.ref b454)] [(.int (1 : Int32))])) t
            refine XS.ifNo X1209.here hx rfl (hb hby at_184) rfl ((if0 _ _).trans (feq (by decide)).1) ?_
            show Steps p.tables e below (T1209.setTop (mkF m 187 #[.val (.int p0), .val (.int p1), .val (.int p2), .val (.int p3), .val (.int p4), .val (.int p5), .val (.int ((1 : Int32) + (p4 &&& (3 : Int32)))), .val (.ref b454), .val (.ref b467), .val (.ref b482), .val (.ref b499), .val (.ref b517), .val (.int (0 : Int32)), .val (.ref b454), .val (.ref b454)] [])) t
            refine XS.aload X1209.here hx rfl (hb hby at_187) rfl rfl ?_
            exact k
          obtain ⟨cq1213, kq1213, qa1213, qb1213, qc1213⟩ := isOf hZ e1209 f1199
          obtain ⟨_, _, ⟨T1213, L1213, kk1213, nn1213⟩, -, X1213, ⟨Lc1213, hQ1213, l1213, y1213, z1213⟩, st1213⟩ := X1209.virtualBack hx (y := (⟨"java/util/ArrayList", "size", "()I"⟩ : MethodName)) (z := (⟨"java/util/ArrayList", "size", "()I"⟩ : MethodName)) hown (mvT hZ (hw _ (List.mem_of_getElem? (i := 127) rfl))) (mvT hZ (hw _ (List.mem_of_getElem? (i := 128) rfl))) (notFace_of_selects (args := #[]) (mvT hZ (hw _ (List.mem_of_getElem? (i := 129) rfl)))) (mvT hZ (hw _ (List.mem_of_getElem? (i := 129) rfl))) (mvT hZ (hw _ (List.mem_of_getElem? (i := 95) rfl))) (by decide) (backOf (W := 0) (alSize l Z a0 hw [] b517 (1 : Int32) h1189 n0 Z1190 f1202) hZ (hw _ (List.mem_of_getElem? (i := 99) rfl)) (hw _ (List.mem_of_getElem? (i := 28) rfl)) (by decide) (by decide)) qa1213 qc1213 (g := (mkF m 189 #[.val (.int p0), .val (.int p1), .val (.int p2), .val (.int p3), .val (.int p4), .val (.int p5), .val (.int ((1 : Int32) + (p4 &&& (3 : Int32)))), .val (.ref b454), .val (.ref b467), .val (.ref b482), .val (.ref b499), .val (.ref b517), .val (.int (0 : Int32)), .val (.ref b454), .val (.ref b454)] [(.ref b517)])) rfl (by rw [hml]; rfl) (Steps.refl _) (argsL := []) (rest := []) (lenOf pd_164 rfl) rfl (by show 2 * 0 + _ ≤ _; exact Nat.le_of_eq rfl) (hb hby at_189) (fun _ _ => ⟨rfl, e1209, (by decide : 16 + 0 ≤ _), (by decide : 93 + 0 ≤ _)⟩)
          dsimp only [Pt.U, Pt.locs, Pt.cells, Pt.slots] at X1213 l1213 y1213 z1213 st1213 hQ1213
          subst l1213 y1213 z1213
          obtain ⟨rfl, N1214, e1213⟩ := hQ1213
          have N1216 := Fr.app N1212 N1214
          refine own_goTW st1213 ?_
          refine own_goW (S' := T1213.setTop (mkF m 194 #[.val (.int p0), .val (.int p1), .val (.int p2), .val (.int p3), .val (.int p4), .val (.int p5), .val (.int ((1 : Int32) + (p4 &&& (3 : Int32)))), .val (.ref b454), .val (.ref b467), .val (.ref b482), .val (.ref b499), .val (.ref b517), .val (.int (0 : Int32)), .val (.ref b454), .val (.ref b454)] [(.int ((1 : Int32) + (p4 &&& (3 : Int32)))), (.int (1 : Int32))])) (fun t k => ?_) ?_
          · show Steps p.tables e below (T1213.setTop (mkF m 192 #[.val (.int p0), .val (.int p1), .val (.int p2), .val (.int p3), .val (.int p4), .val (.int p5), .val (.int ((1 : Int32) + (p4 &&& (3 : Int32)))), .val (.ref b454), .val (.ref b467), .val (.ref b482), .val (.ref b499), .val (.ref b517), .val (.int (0 : Int32)), .val (.ref b454), .val (.ref b454)] [(.int (1 : Int32))])) t
            refine XS.iload X1213.here hx rfl (hb hby at_192) rfl ?_
            exact k
          refine own_goW (S' := T1213.setTop (mkF m 202 #[.val (.int p0), .val (.int p1), .val (.int p2), .val (.int p3), .val (.int p4), .val (.int p5), .val (.int ((1 : Int32) + (p4 &&& (3 : Int32)))), .val (.ref b454), .val (.ref b467), .val (.ref b482), .val (.ref b499), .val (.ref b517), .val (.int (0 : Int32)), .val (.ref b454), .val (.ref b454)] [(.int (if (1 : Int32) = ((1 : Int32) + (p4 &&& (3 : Int32))) then (1 : Int32) else (0 : Int32)))])) (fun t k => ?_) ?_
          · show Steps p.tables e below (T1213.setTop (mkF m 194 #[.val (.int p0), .val (.int p1), .val (.int p2), .val (.int p3), .val (.int p4), .val (.int p5), .val (.int ((1 : Int32) + (p4 &&& (3 : Int32)))), .val (.ref b454), .val (.ref b467), .val (.ref b482), .val (.ref b499), .val (.ref b517), .val (.int (0 : Int32)), .val (.ref b454), .val (.ref b454)] [(.int ((1 : Int32) + (p4 &&& (3 : Int32)))), (.int (1 : Int32))])) t
            by_cases hc194 : (1 : Int32) = ((1 : Int32) + (p4 &&& (3 : Int32)))
            · show Steps p.tables e below (T1213.setTop (mkF m 194 #[.val (.int p0), .val (.int p1), .val (.int p2), .val (.int p3), .val (.int p4), .val (.int p5), .val (.int ((1 : Int32) + (p4 &&& (3 : Int32)))), .val (.ref b454), .val (.ref b467), .val (.ref b482), .val (.ref b499), .val (.ref b517), .val (.int (0 : Int32)), .val (.ref b454), .val (.ref b454)] [(.int ((1 : Int32) + (p4 &&& (3 : Int32)))), (.int (1 : Int32))])) t
              refine XS.icmpNo X1213.here hx rfl (hb hby at_194) rfl (teq hc194).2 ?_
              show Steps p.tables e below (T1213.setTop (mkF m 197 #[.val (.int p0), .val (.int p1), .val (.int p2), .val (.int p3), .val (.int p4), .val (.int p5), .val (.int ((1 : Int32) + (p4 &&& (3 : Int32)))), .val (.ref b454), .val (.ref b467), .val (.ref b482), .val (.ref b499), .val (.ref b517), .val (.int (0 : Int32)), .val (.ref b454), .val (.ref b454)] [])) t
              refine XS.iconst X1213.here hx rfl (hb hby at_197) ?_
              show Steps p.tables e below (T1213.setTop (mkF m 198 #[.val (.int p0), .val (.int p1), .val (.int p2), .val (.int p3), .val (.int p4), .val (.int p5), .val (.int ((1 : Int32) + (p4 &&& (3 : Int32)))), .val (.ref b454), .val (.ref b467), .val (.ref b482), .val (.ref b499), .val (.ref b517), .val (.int (0 : Int32)), .val (.ref b454), .val (.ref b454)] [(.int (1 : Int32))])) t
              refine XS.goto X1213.here hx rfl (pc0 := 198) (pc' := 202) rfl (hb hby at_198) (by decide) (by decide) ?_
              first | exact k | (simp only [if_pos hc194] at k ⊢; exact k)
            · show Steps p.tables e below (T1213.setTop (mkF m 194 #[.val (.int p0), .val (.int p1), .val (.int p2), .val (.int p3), .val (.int p4), .val (.int p5), .val (.int ((1 : Int32) + (p4 &&& (3 : Int32)))), .val (.ref b454), .val (.ref b467), .val (.ref b482), .val (.ref b499), .val (.ref b517), .val (.int (0 : Int32)), .val (.ref b454), .val (.ref b454)] [(.int ((1 : Int32) + (p4 &&& (3 : Int32)))), (.int (1 : Int32))])) t
              refine XS.icmpYes X1213.here hx rfl (pc0 := 194) (pc' := 201) rfl (hb hby at_194) rfl (feq hc194).2 (by decide) (by decide) ?_
              show Steps p.tables e below (T1213.setTop (mkF m 201 #[.val (.int p0), .val (.int p1), .val (.int p2), .val (.int p3), .val (.int p4), .val (.int p5), .val (.int ((1 : Int32) + (p4 &&& (3 : Int32)))), .val (.ref b454), .val (.ref b467), .val (.ref b482), .val (.ref b499), .val (.ref b517), .val (.int (0 : Int32)), .val (.ref b454), .val (.ref b454)] [])) t
              refine XS.iconst X1213.here hx rfl (hb hby at_201) ?_
              first | exact k | (simp only [if_neg hc194] at k ⊢; exact k)
          have hfin : (if (1 : Int32) = ((1 : Int32) + (p4 &&& (3 : Int32))) then (1 : Int32) else (0 : Int32)) = (1 : Int32) := if_pos (own_sz (own_lo p4) hc72 (by decide))
          rw [hfin]
          obtain ⟨fs, hr, hrun, hended, hW, hsame⟩ := X1213.leave (v := some (.int (1 : Int32))) (fun h => by rw [Bd.returns] at h; cases h)
          refine own_endW (v := some (.int (1 : Int32))) ?_ hrun hended ?_ (hS.ended hW (by show _ ≤ T1213.heap.size; rw [e1213]; exact hk1189) hsame) (by decide) (by decide)
          · show Steps p.tables e below (T1213.setTop (mkF m 202 #[.val (.int p0), .val (.int p1), .val (.int p2), .val (.int p3), .val (.int p4), .val (.int p5), .val (.int ((1 : Int32) + (p4 &&& (3 : Int32)))), .val (.ref b454), .val (.ref b467), .val (.ref b482), .val (.ref b499), .val (.ref b517), .val (.int (0 : Int32)), .val (.ref b454), .val (.ref b454)] [(.int (1 : Int32))])) _
            exact retN X1213 hx (t := .boolean) Bd.returns (by simp) (hb hby at_202) hr
          · show Qrm0 Z p0 p1 p2 p3 p4 p5 w_s_COMPACT_STRINGS w_s_DEFAULTCAPACITY_EMPTY_ELEMENTDATA h0 n0 _ T1213.heap _
            rw [e1213]
            exact ⟨rfl, N1216⟩
        · skip
          exfalso
          exact own_at0 hc72 hc123
theorem own_len0 {args : Array Value} {s : State} {t : Term} {ty : FieldType} {a : Addr} (ev : t.eval args s none [] s = some (.ref a)) (h1 : (Jvm.Cond.arrayOf t ty).value args s none s [] = some true) (h2 : (Jvm.Cond.eq (.length t) (.int (0 : Int32))).value args s none s [] = some true) : own_Len s s.heap a ty (0 : Int32) := by
  obtain ⟨c, A⟩ := Arr.start ev h1
  obtain ⟨x, y, e1, e2, -, -⟩ := cmp_v (Or.inl h2)
  obtain ⟨a', cell, q1, q2, rfl⟩ := Term.length_spec e1
  cases ev.symm.trans q1
  have hA := A.fin (Vm.Alike.refl _)
  cases hA.symm.trans q2
  have e3 : y = .int (0 : Int32) := (Option.some.inj e2).symm
  subst e3
  have hl : c.slots.size < 2 ^ 31 := by
    by_cases hb : c.slots.size < 2147483648
    · exact hb
    · simp [Term.eval, ev, hA, hb] at e1
  have h3 := gotT (Cond.eq_ints e1 e2) h2
  refine ⟨c, A, ?_, by decide⟩
  have h4 := congrArg Int32.toInt h3
  rw [len_toInt hl] at h4
  have z : (0 : Int32).toInt = 0 := rfl
  have z2 : (0 : Int32).toNatClampNeg = 0 := rfl
  omega
set_option maxRecDepth 65536 in
set_option maxHeartbeats 40000000 in
theorem comes_1 {Post : Tables → Env → Array Value → State → Outcome → State → Prop} (hpost : ∀ tb e args s v u, (limb_1_1.after args s (.returned v) u = true ∧ limb_1_2.after args s (.returned v) u = true ∧ True) → ReturnedEndW s (.returned v) u (Jvm.fieldLocs frame_1_writes args s ++ Jvm.arrayLocs frame_1_arrays args s ++ Jvm.staticLocs frame_1_statics s) 40 3264 → Post tb e args s (.returned v) u) :
    ArmFor flags0 classFile x code maxLocals ret World_1 tables_1 room_1 Calls_1 rest_1 Pre_1 Post := by
  intro l hfl _ _ p e ha hc hk s m args below hf hA hF happ hP
  obtain ⟨hcalls, hrest, hpre⟩ := hP
  obtain ⟨-, -, -, hnamed, -, -, -, hat⟩ := (Spec.applies_iff hf).mp happ
  obtain ⟨hg, hn⟩ := and_e (Cond.before_iff.mp (show (Jvm.Cond.and given_1 narrow_1).before args s = true from hpre))
  obtain ⟨g1217, g1218⟩ := and_e hg
  obtain ⟨g1219, g1220⟩ := and_e g1218
  obtain ⟨g1221, g1222⟩ := and_e g1220
  obtain ⟨g1223, g1224⟩ := and_e g1222
  obtain ⟨g1225, g1226⟩ := and_e g1224
  obtain ⟨g1227, g1228⟩ := and_e g1226
  obtain ⟨w0, w1, w2, w3, w4, w5, rfl⟩ : ∃ w0 w1 w2 w3 w4 w5 : Value, args = #[w0, w1, w2, w3, w4, w5] := by
    have hs : args.size = 6 := by simpa [Cond.value, given_1] using g1217
    obtain ⟨L⟩ := args
    match L, hs with
    | [w0, w1, w2, w3, w4, w5], _ => exact ⟨w0, w1, w2, w3, w4, w5, rfl⟩
  have hw := fun d (hd : d ∈ tables_1) => atoms_spec (ws := Jvm.Cond.code x code maxLocals ret :: tables_1) hat d (List.mem_cons_of_mem _ hd)
  have hfit : Fit s := fun {y c} hc i hi => by
    obtain ⟨ha, rfl⟩ := Array.getElem?_eq_some_iff.mp hc
    have q := List.all_eq_true.mp ((Array.all_eq_true_iff_forall_mem.mp hF) _ (Array.getElem_mem ha)) i (List.mem_range.mpr hi)
    simpa [Array.getElem?_eq_getElem hi] using q
  obtain ⟨hsets, hown0⟩ := atoms_of _ (rest_1_c_eq ▸ (show rest_1_c.before _ s = true from hrest))
  have hr0 := Cond.before_iff.mp hown0
  obtain ⟨i0, ei0⟩ := is_v g1219
  obtain rfl : w0 = (.int i0) := Option.some.inj ei0
  obtain ⟨i1, ei1⟩ := is_v g1221
  obtain rfl : w1 = (.int i1) := Option.some.inj ei1
  obtain ⟨i2, ei2⟩ := is_v g1223
  obtain rfl : w2 = (.int i2) := Option.some.inj ei2
  obtain ⟨i3, ei3⟩ := is_v g1225
  obtain rfl : w3 = (.int i3) := Option.some.inj ei3
  obtain ⟨i4, ei4⟩ := is_v g1227
  obtain rfl : w4 = (.int i4) := Option.some.inj ei4
  obtain ⟨i5, ei5⟩ := is_v g1228
  obtain rfl : w5 = (.int i5) := Option.some.inj ei5
  obtain ⟨i_cs, e_cs⟩ := is_v (Cond.before_iff.mp (hsets _ (List.mem_of_getElem? (i := 1) rfl)))
  have S_cs : Sta s s.heap "java/lang/String" "COMPACT_STRINGS" "Z" (.int i_cs) := Sta.start e_cs (Or.inl (hsets _ (List.mem_of_getElem? (i := 0) rfl)))
  have c_cs : ¬ (i_cs = (0 : Int32)) := gotF (Cond.eq_ints e_cs (Term.int_eval (0))) (not_v (Cond.before_iff.mp (hsets _ (List.mem_of_getElem? (i := 2) rfl))))
  obtain ⟨a_D, ev_D⟩ := arr_v (Cond.before_iff.mp (hsets _ (List.mem_of_getElem? (i := 15) rfl)))
  have S_D : Sta s s.heap "java/util/ArrayList" "DEFAULTCAPACITY_EMPTY_ELEMENTDATA" "[Ljava/lang/Object;" (.ref a_D) := Sta.start ev_D (Or.inr ⟨(hw _ (List.mem_of_getElem? (i := 28) rfl)), (hsets _ (List.mem_of_getElem? (i := 11) rfl))⟩)
  have L_D := own_len0 ev_D (Cond.before_iff.mp (hsets _ (List.mem_of_getElem? (i := 15) rfl))) (Cond.before_iff.mp (hsets _ (List.mem_of_getElem? (i := 17) rfl)))
  obtain ⟨n, o, h1, h2, h3, _, L, rfl, ⟨rfl, N⟩, hq⟩ := rm0 l s _ hw tables_1 i0 i1 i2 i3 i4 i5 i_cs a_D s.heap s.heap.size (Nat.le_refl _) c_cs L_D S_cs S_D p e ha hc hk s m _ below hf ((Spec.applies_iff_loose hf).mp happ).1 ⟨rfl, State.Warmed39.refl s, rfl⟩ trivial
  refine ⟨n, _, h1, h2, h3, hpost _ _ _ _ _ _ ⟨Cond.after_iff.mpr rfl, Cond.after_iff.mpr (eq_i res_at (Term.int_eval (1)) rfl), trivial⟩ ⟨hq.1, hq.2.1, hq.2.2.1, (hq.2.2.2.sift fun y hy => Or.inr (N y hy)).mono (by decide) (by decide)⟩⟩
theorem main_1_1 : Claimed_1_1 := comes_1 fun _ _ _ _ _ _ h hF => ⟨h.1, hF⟩
theorem main_1_2 : Claimed_1_2 := comes_1 fun _ _ _ _ _ _ h hF => ⟨h.2.1, hF⟩
end Jvm.Pilot.@@N@@
namespace Jvm.Pilot.@@N@@
open Jvm Jvm.ClassFile Sem Op Lib Jvm.Free Jvm.Stand Jvm.Pilot.@@N@@.Jvm.D
/-! MADE BY PROGRAM (witnessworld.py) out of the Statement's table words and the real class files: 28 classes; the members and pool entries that the words name. The judged class is class 1, her method 1. -/
namespace start1
open Jvm.ClassFile
def u (s : String) : CpInfo := .utf8 (stringToUtf16 s)
/-- a pool by its gaps: so many unusable entries, then the entry; so many at the end -/
def gap : Nat → List CpInfo → List CpInfo
  | 0, r => r
  | n + 1, r => .unusable :: gap n r
def poolList (es : List (Nat × CpInfo)) (last : Nat) : List CpInfo := es.foldr (fun e r => gap e.1 (e.2 :: r)) (gap last [])
def pool (es : List (Nat × CpInfo)) (last : Nat) : Array CpInfo := ⟨poolList es last⟩
def fileOf (pool : Array CpInfo) (this : Nat) (attrs : Array Attribute := #[]) (ms : Array MethodInfo := #[]) (fl : Nat := 33) (sup : Nat := 0) (ifs : Array Nat := #[]) (fds : Array FieldInfo := #[]) : ClassFile where
  minorVersion := 0
  majorVersion := 65
  constantPool := pool
  accessFlags := fl
  thisClass := this
  superClass := sup
  interfaces := ifs
  fields := fds
  methods := ms
  attributes := attrs
def plain (name : String) (sup : Option ClassId) : Class where
  name := name
  kind := .ordinary
  loader := none
  accessFlags := 33
  super := sup
  interfaces := #[]
  cf := none
  fields := #[]
  methods := #[]
  instanceTypes := #[]
  staticTypes := #[]
  resolved := #[]
  callSites := []
  init := .initialized
  statics := none
  mirror := none

def pool0 : Array CpInfo := pool [(5, u "<init>"), (0, u "()V"), (1, .class_ 10), (1, u "java/lang/Object")] 113

def k0c0 : Code := { maxStack := 0, maxLocals := 1, code := object_method_1_code, exceptionTable := #[], attributes := #[] }
def k0m0 : Method := { name := "<init>", desc := "()V", sig := { parameters := [], returnType := none }, accessFlags := 1, code := some k0c0 }
/-- java/lang/Object -/
def k0 : Class := { plain "java/lang/Object" none with
  accessFlags := 33
  interfaces := #[]
  cf := some (fileOf pool0 8 #[] #[{ accessFlags := 1, nameIndex := 5, descriptorIndex := 6, attributes := #[] }] 33 0 #[] #[])
  fields := #[]
  methods := #[k0m0]
  instanceTypes := #[]
  staticTypes := #[]
  resolved := Array.replicate 124 none
  statics := none }

def pool1 : Array CpInfo := pool [(2, .class_ 4), (0, .nameAndType 5 6), (0, u "java/lang/Object"), (0, u "<init>"), (0, u "()V"), (0, .methodref 8 9), (0, .class_ 10), (0, .nameAndType 11 12), (0, u "java/lang/String"), (0, u "valueOf"), (0, u "(C)Ljava/lang/String;"), (0, .class_ 14), (0, u "java/util/ArrayList"), (0, .methodref 13 3), (0, .methodref 13 17), (0, .nameAndType 18 19), (0, u "add"), (0, u "(Ljava/lang/Object;)Z"), (0, .integer 2147483647), (0, .string 22), (0, u "cmd"), (0, .string 24), (0, u "-o"), (0, .string 26), (0, u "a value"), (0, .methodref 28 29), (0, .class_ 30), (0, .nameAndType 31 32), (0, u "com/example/scorebench/scorebench/OptionValue"), (0, u "of"), (0, u "(Ljava/lang/String;Ljava/util/List;ILjava/lang/String;Ljava/lang/String;)Ljava/lang/String;"), (0, .methodref 8 34), (0, .nameAndType 35 19), (0, u "equals"), (0, .methodref 13 37), (0, .nameAndType 38 39), (0, u "size"), (0, u "()I"), (0, .class_ 41), (0, u "com/example/scorebench/scorebench/OptionValueOfPinLaw"), (2, u "law"), (0, u "(IIIIII)Z")] 6

def k1m0 : Method := { name := "<init>", desc := "()V", sig := { parameters := [], returnType := none }, accessFlags := 1, code := none }
def k1c1 : Code := { maxStack := 5, maxLocals := 15, code := code, exceptionTable := #[], attributes := #[] }
def k1m1 : Method := { name := "law", desc := "(IIIIII)Z", sig := { parameters := [.int, .int, .int, .int, .int, .int], returnType := some .boolean }, accessFlags := 9, code := some k1c1 }
/-- com/example/scorebench/scorebench/OptionValueOfPinLaw -/
def k1 : Class := { plain "com/example/scorebench/scorebench/OptionValueOfPinLaw" (some 0) with
  accessFlags := 49
  interfaces := #[]
  cf := some (fileOf pool1 40 #[] #[{ accessFlags := 1, nameIndex := 5, descriptorIndex := 6, attributes := #[] }, { accessFlags := 9, nameIndex := 44, descriptorIndex := 45, attributes := #[] }] 49 2 #[] #[])
  fields := #[]
  methods := #[k1m0, k1m1]
  instanceTypes := #[]
  staticTypes := #[]
  resolved := Array.replicate 52 none
  statics := none }

def pool2 : Array CpInfo := pool [(1, .class_ 2), (0, u "java/io/Serializable"), (0, .class_ 4), (0, u "java/lang/Object")] 2

/-- java/io/Serializable -/
def k2 : Class := { plain "java/io/Serializable" (some 0) with
  accessFlags := 1537
  interfaces := #[]
  cf := some (fileOf pool2 1 #[] #[] 1537 3 #[] #[])
  fields := #[]
  methods := #[]
  instanceTypes := #[]
  staticTypes := #[]
  resolved := Array.replicate 7 none
  statics := none }

def pool3 : Array CpInfo := pool [(1, .class_ 2), (0, u "java/lang/Comparable"), (0, .class_ 4), (0, u "java/lang/Object")] 7

/-- java/lang/Comparable -/
def k3 : Class := { plain "java/lang/Comparable" (some 0) with
  accessFlags := 1537
  interfaces := #[]
  cf := some (fileOf pool3 1 #[] #[] 1537 3 #[] #[])
  fields := #[]
  methods := #[]
  instanceTypes := #[]
  staticTypes := #[]
  resolved := Array.replicate 12 none
  statics := none }

def pool4 : Array CpInfo := pool [(2, .class_ 4), (1, u "java/lang/CharSequence"), (42, .class_ 48), (0, u "java/lang/CharSequence$1CodePointIterator"), (10, .class_ 60), (0, u "java/lang/CharSequence$1CharIterator"), (5, .class_ 67), (0, u "java/lang/Object")] 63

/-- java/lang/CharSequence -/
def k4 : Class := { plain "java/lang/CharSequence" (some 0) with
  accessFlags := 1537
  interfaces := #[]
  cf := some (fileOf pool4 2 #[.nestMembers #[47, 59]] #[] 1537 66 #[] #[])
  fields := #[]
  methods := #[]
  instanceTypes := #[]
  staticTypes := #[]
  resolved := Array.replicate 131 none
  statics := none }

def pool5 : Array CpInfo := pool [(1, .class_ 2), (0, u "java/lang/constant/Constable"), (0, .class_ 4), (0, u "java/lang/Object")] 6

/-- java/lang/constant/Constable -/
def k5 : Class := { plain "java/lang/constant/Constable" (some 0) with
  accessFlags := 1537
  interfaces := #[]
  cf := some (fileOf pool5 1 #[] #[] 1537 3 #[] #[])
  fields := #[]
  methods := #[]
  instanceTypes := #[]
  staticTypes := #[]
  resolved := Array.replicate 11 none
  statics := none }

def pool6 : Array CpInfo := pool [(1, .class_ 2), (0, u "java/lang/constant/ConstantDesc"), (0, .class_ 4), (0, u "java/lang/Object")] 32

/-- java/lang/constant/ConstantDesc -/
def k6 : Class := { plain "java/lang/constant/ConstantDesc" (some 0) with
  accessFlags := 1537
  interfaces := #[]
  cf := some (fileOf pool6 1 #[] #[] 1537 3 #[] #[])
  fields := #[]
  methods := #[]
  instanceTypes := #[]
  staticTypes := #[]
  resolved := Array.replicate 37 none
  statics := none }

def pool7 : Array CpInfo := pool [(1, .methodref 2 3), (0, .class_ 4), (0, .nameAndType 5 6), (0, u "java/lang/Object"), (0, u "<init>"), (0, u "()V"), (2, .fieldref 10 11), (0, .class_ 12), (0, .nameAndType 13 14), (0, u "java/lang/String"), (0, u "value"), (0, u "[B"), (0, .fieldref 10 16), (0, .nameAndType 17 18), (0, u "coder"), (0, u "B"), (2, u "hash"), (0, u "I"), (2, u "hashIsZero"), (0, u "Z"), (11, .fieldref 10 39), (0, .nameAndType 40 26), (0, u "COMPACT_STRINGS"), (12, u "toBytes"), (53, .class_ 109), (1, u "java/lang/StringLatin1"), (99, .methodref 10 210), (0, .nameAndType 5 211), (0, u "([BB)V"), (157, u "(C)Z"), (173, u "equals"), (29, u "(Ljava/lang/Object;)Z"), (1, .class_ 576), (0, u "java/lang/CharSequence"), (22, u "CASE_INSENSITIVE_ORDER"), (0, u "Ljava/util/Comparator;"), (181, u "valueOf"), (0, u "(C)Ljava/lang/String;"), (231, .methodref 107 1016), (0, .nameAndType 1017 369), (0, u "canEncode"), (0, .methodref 107 1019), (0, .nameAndType 53 1020), (0, u "(C)[B"), (80, u "serialPersistentFields"), (0, u "[Ljava/io/ObjectStreamField;"), (0, .class_ 1104), (0, u "java/lang/String$CaseInsensitiveComparator"), (1, .class_ 1107), (0, u "java/io/Serializable"), (0, .class_ 1109), (0, u "java/lang/Comparable"), (0, .class_ 1111), (0, u "java/lang/constant/Constable"), (0, .class_ 1113), (0, u "java/lang/constant/ConstantDesc"), (2, u "serialVersionUID"), (0, u "J"), (3, u "REPL"), (0, u "C"), (2, u "LATIN1"), (1, u "UTF16")] 323

def k7m0 : Method := { name := "<init>", desc := "()V", sig := { parameters := [], returnType := none }, accessFlags := 1, code := none }
def k7c1 : Code := { maxStack := 2, maxLocals := 3, code := jdk_42_method_66_code, exceptionTable := #[], attributes := #[] }
def k7m1 : Method := { name := "equals", desc := "(Ljava/lang/Object;)Z", sig := { parameters := [(.object "java/lang/Object")], returnType := some .boolean }, accessFlags := 1, code := some k7c1 }
def k7c2 : Code := { maxStack := 4, maxLocals := 1, code := jdk_42_method_139_code, exceptionTable := #[], attributes := #[] }
def k7m2 : Method := { name := "valueOf", desc := "(C)Ljava/lang/String;", sig := { parameters := [.char], returnType := some (.object "java/lang/String") }, accessFlags := 9, code := some k7c2 }
def k7c3 : Code := { maxStack := 2, maxLocals := 3, code := jdk_42_method_151_code, exceptionTable := #[], attributes := #[] }
def k7m3 : Method := { name := "<init>", desc := "([BB)V", sig := { parameters := [(.array .byte), .byte], returnType := none }, accessFlags := 0, code := some k7c3 }
/-- java/lang/String -/
def k7 : Class := { plain "java/lang/String" (some 0) with
  accessFlags := 49
  interfaces := #[2, 3, 4, 5, 6]
  cf := some (fileOf pool7 10 #[.nestMembers #[1103]] #[{ accessFlags := 1, nameIndex := 5, descriptorIndex := 6, attributes := #[] }, { accessFlags := 1, nameIndex := 543, descriptorIndex := 573, attributes := #[] }, { accessFlags := 9, nameIndex := 782, descriptorIndex := 783, attributes := #[] }, { accessFlags := 0, nameIndex := 5, descriptorIndex := 211, attributes := #[] }] 49 2 #[1106, 1108, 575, 1110, 1112] #[{ accessFlags := 18, nameIndex := 13, descriptorIndex := 14, attributes := #[] }, { accessFlags := 18, nameIndex := 17, descriptorIndex := 18, attributes := #[] }, { accessFlags := 2, nameIndex := 21, descriptorIndex := 22, attributes := #[] }, { accessFlags := 2, nameIndex := 25, descriptorIndex := 26, attributes := #[] }, { accessFlags := 26, nameIndex := 1116, descriptorIndex := 1117, attributes := #[] }, { accessFlags := 24, nameIndex := 40, descriptorIndex := 26, attributes := #[] }, { accessFlags := 26, nameIndex := 1101, descriptorIndex := 1102, attributes := #[] }, { accessFlags := 26, nameIndex := 1121, descriptorIndex := 1122, attributes := #[] }, { accessFlags := 25, nameIndex := 599, descriptorIndex := 600, attributes := #[] }, { accessFlags := 24, nameIndex := 1125, descriptorIndex := 18, attributes := #[] }, { accessFlags := 24, nameIndex := 1127, descriptorIndex := 18, attributes := #[] }])
  fields := #[{ name := "value", type := (.array .byte), accessFlags := 18, slot := 0, constantValue := 0 }, { name := "coder", type := .byte, accessFlags := 18, slot := 1, constantValue := 0 }, { name := "hash", type := .int, accessFlags := 2, slot := 2, constantValue := 0 }, { name := "hashIsZero", type := .boolean, accessFlags := 2, slot := 3, constantValue := 0 }, { name := "serialVersionUID", type := .long, accessFlags := 26, slot := 0, constantValue := 0 }, { name := "COMPACT_STRINGS", type := .boolean, accessFlags := 24, slot := 1, constantValue := 0 }, { name := "serialPersistentFields", type := (.array (.object "java/io/ObjectStreamField")), accessFlags := 26, slot := 2, constantValue := 0 }, { name := "REPL", type := .char, accessFlags := 26, slot := 3, constantValue := 0 }, { name := "CASE_INSENSITIVE_ORDER", type := (.object "java/util/Comparator"), accessFlags := 25, slot := 4, constantValue := 0 }, { name := "LATIN1", type := .byte, accessFlags := 24, slot := 5, constantValue := 0 }, { name := "UTF16", type := .byte, accessFlags := 24, slot := 6, constantValue := 0 }]
  methods := #[k7m0, k7m1, k7m2, k7m3]
  instanceTypes := #[(.array .byte), .byte, .int, .boolean]
  staticTypes := #[.long, .boolean, (.array (.object "java/io/ObjectStreamField")), .char, (.object "java/util/Comparator"), .byte, .byte]
  resolved := Array.replicate 1451 none
  statics := some 0 }

def pool8 : Array CpInfo := pool [(4, .class_ 6), (1, u "java/lang/Object"), (0, u "<init>"), (0, u "()V"), (5, .class_ 16), (1, u "java/lang/StringLatin1"), (73, u "canEncode"), (14, u "(C)Z"), (15, u "$assertionsDisabled"), (0, u "Z"), (98, .class_ 223), (1, u "java/lang/StringLatin1$LinesSpliterator"), (156, u "toBytes"), (1, u "(C)[B"), (7, .class_ 391), (0, u "java/lang/StringLatin1$CharsSpliterator")] 3

def k8m0 : Method := { name := "<init>", desc := "()V", sig := { parameters := [], returnType := none }, accessFlags := 0, code := none }
def k8c1 : Code := { maxStack := 2, maxLocals := 1, code := jdk_43_method_3_code, exceptionTable := #[], attributes := #[] }
def k8m1 : Method := { name := "canEncode", desc := "(C)Z", sig := { parameters := [.char], returnType := some .boolean }, accessFlags := 9, code := some k8c1 }
def k8c2 : Code := { maxStack := 4, maxLocals := 1, code := jdk_43_method_46_code, exceptionTable := #[], attributes := #[] }
def k8m2 : Method := { name := "toBytes", desc := "(C)[B", sig := { parameters := [.char], returnType := some (.array .byte) }, accessFlags := 9, code := some k8c2 }
/-- java/lang/StringLatin1 -/
def k8 : Class := { plain "java/lang/StringLatin1" (some 0) with
  accessFlags := 48
  interfaces := #[]
  cf := some (fileOf pool8 14 #[.nestMembers #[390, 221]] #[{ accessFlags := 0, nameIndex := 7, descriptorIndex := 8, attributes := #[] }, { accessFlags := 9, nameIndex := 90, descriptorIndex := 105, attributes := #[] }, { accessFlags := 9, nameIndex := 380, descriptorIndex := 382, attributes := #[] }] 48 4 #[] #[{ accessFlags := 4120, nameIndex := 121, descriptorIndex := 122, attributes := #[] }])
  fields := #[{ name := "$assertionsDisabled", type := .boolean, accessFlags := 4120, slot := 0, constantValue := 0 }]
  methods := #[k8m0, k8m1, k8m2]
  instanceTypes := #[]
  staticTypes := #[.boolean]
  resolved := Array.replicate 395 none
  statics := none }

def pool9 : Array CpInfo := pool [(8, .class_ 10), (1, u "java/lang/Iterable"), (24, .class_ 36), (0, u "java/lang/Object")] 25

/-- java/lang/Iterable -/
def k9 : Class := { plain "java/lang/Iterable" (some 0) with
  accessFlags := 1537
  interfaces := #[]
  cf := some (fileOf pool9 8 #[] #[] 1537 35 #[] #[])
  fields := #[]
  methods := #[]
  instanceTypes := #[]
  staticTypes := #[]
  resolved := Array.replicate 62 none
  statics := none }

def pool10 : Array CpInfo := pool [(10, .class_ 12), (1, u "java/util/Collection"), (47, .class_ 61), (0, u "java/lang/Object"), (0, .class_ 63), (0, u "java/lang/Iterable")] 51

/-- java/util/Collection -/
def k10 : Class := { plain "java/util/Collection" (some 0) with
  accessFlags := 1537
  interfaces := #[9]
  cf := some (fileOf pool10 10 #[] #[] 1537 60 #[62] #[])
  fields := #[]
  methods := #[]
  instanceTypes := #[]
  staticTypes := #[]
  resolved := Array.replicate 115 none
  statics := none }

def pool11 : Array CpInfo := pool [(1, .methodref 2 3), (0, .class_ 4), (0, .nameAndType 5 6), (0, u "java/lang/Object"), (0, u "<init>"), (0, u "()V"), (1, .class_ 10), (1, u "java/util/AbstractCollection"), (66, .class_ 78), (0, u "java/util/Collection")] 81

def k11c0 : Code := { maxStack := 1, maxLocals := 1, code := jdk_22_method_1_code, exceptionTable := #[], attributes := #[] }
def k11m0 : Method := { name := "<init>", desc := "()V", sig := { parameters := [], returnType := none }, accessFlags := 4, code := some k11c0 }
/-- java/util/AbstractCollection -/
def k11 : Class := { plain "java/util/AbstractCollection" (some 0) with
  accessFlags := 1057
  interfaces := #[10]
  cf := some (fileOf pool11 8 #[] #[{ accessFlags := 4, nameIndex := 5, descriptorIndex := 6, attributes := #[] }] 1057 2 #[77] #[])
  fields := #[]
  methods := #[k11m0]
  instanceTypes := #[]
  staticTypes := #[]
  resolved := Array.replicate 160 none
  statics := none }

def pool12 : Array CpInfo := pool [(8, .class_ 10), (1, u "java/util/SequencedCollection"), (15, .class_ 27), (0, u "java/lang/Object"), (0, .class_ 29), (0, u "java/util/Collection")] 27

/-- java/util/SequencedCollection -/
def k12 : Class := { plain "java/util/SequencedCollection" (some 0) with
  accessFlags := 1537
  interfaces := #[10]
  cf := some (fileOf pool12 8 #[] #[] 1537 26 #[28] #[])
  fields := #[]
  methods := #[]
  instanceTypes := #[]
  staticTypes := #[]
  resolved := Array.replicate 57 none
  statics := none }

def pool13 : Array CpInfo := pool [(8, .class_ 10), (1, u "java/util/List"), (64, u "get"), (0, u "(I)Ljava/lang/Object;"), (2, u "size"), (0, u "()I"), (22, .class_ 104), (0, u "java/lang/Object"), (15, .class_ 121), (0, u "java/util/SequencedCollection")] 129

def k13m0 : Method := { name := "size", desc := "()I", sig := { parameters := [], returnType := some .int }, accessFlags := 1025, code := none }
def k13m1 : Method := { name := "get", desc := "(I)Ljava/lang/Object;", sig := { parameters := [.int], returnType := some (.object "java/lang/Object") }, accessFlags := 1025, code := none }
/-- java/util/List -/
def k13 : Class := { plain "java/util/List" (some 0) with
  accessFlags := 1537
  interfaces := #[12]
  cf := some (fileOf pool13 8 #[] #[{ accessFlags := 1025, nameIndex := 79, descriptorIndex := 80, attributes := #[] }, { accessFlags := 1025, nameIndex := 75, descriptorIndex := 76, attributes := #[] }] 1537 103 #[120] #[])
  fields := #[]
  methods := #[k13m0, k13m1]
  instanceTypes := #[]
  staticTypes := #[]
  resolved := Array.replicate 251 none
  statics := none }

def pool14 : Array CpInfo := pool [(1, .methodref 2 3), (0, .class_ 4), (0, .nameAndType 5 6), (0, u "java/util/AbstractCollection"), (0, u "<init>"), (0, u "()V"), (0, .fieldref 8 9), (0, .class_ 10), (0, .nameAndType 11 12), (0, u "java/util/AbstractList"), (0, u "modCount"), (0, u "I"), (64, .class_ 78), (0, u "java/util/AbstractList$Itr"), (3, .class_ 83), (0, u "java/util/AbstractList$ListItr"), (9, .class_ 94), (0, u "java/util/AbstractList$RandomAccessSubList"), (3, .class_ 99), (0, u "java/util/AbstractList$SubList"), (33, .class_ 134), (0, u "java/util/List"), (73, .class_ 209), (0, u "java/util/AbstractList$SubList$1"), (0, .class_ 211), (0, u "java/util/AbstractList$RandomAccessSpliterator")] 6

def k14c0 : Code := { maxStack := 2, maxLocals := 1, code := jdk_39_method_1_code, exceptionTable := #[], attributes := #[] }
def k14m0 : Method := { name := "<init>", desc := "()V", sig := { parameters := [], returnType := none }, accessFlags := 4, code := some k14c0 }
/-- java/util/AbstractList -/
def k14 : Class := { plain "java/util/AbstractList" (some 11) with
  accessFlags := 1057
  interfaces := #[13]
  cf := some (fileOf pool14 8 #[.nestMembers #[93, 98, 208, 210, 82, 77]] #[{ accessFlags := 4, nameIndex := 5, descriptorIndex := 6, attributes := #[] }] 1057 2 #[133] #[{ accessFlags := 132, nameIndex := 11, descriptorIndex := 12, attributes := #[] }])
  fields := #[{ name := "modCount", type := .int, accessFlags := 132, slot := 0, constantValue := 0 }]
  methods := #[k14m0]
  instanceTypes := #[.int]
  staticTypes := #[]
  resolved := Array.replicate 218 none
  statics := none }

def pool15 : Array CpInfo := pool [(1, .class_ 2), (0, u "java/util/RandomAccess"), (0, .class_ 4), (0, u "java/lang/Object")] 2

/-- java/util/RandomAccess -/
def k15 : Class := { plain "java/util/RandomAccess" (some 0) with
  accessFlags := 1537
  interfaces := #[]
  cf := some (fileOf pool15 1 #[] #[] 1537 3 #[] #[])
  fields := #[]
  methods := #[]
  instanceTypes := #[]
  staticTypes := #[]
  resolved := Array.replicate 7 none
  statics := none }

def pool16 : Array CpInfo := pool [(1, .class_ 2), (0, u "java/lang/Cloneable"), (0, .class_ 4), (0, u "java/lang/Object")] 2

/-- java/lang/Cloneable -/
def k16 : Class := { plain "java/lang/Cloneable" (some 0) with
  accessFlags := 1537
  interfaces := #[]
  cf := some (fileOf pool16 1 #[] #[] 1537 3 #[] #[])
  fields := #[]
  methods := #[]
  instanceTypes := #[]
  staticTypes := #[]
  resolved := Array.replicate 7 none
  statics := none }

def pool17 : Array CpInfo := pool [(1, .methodref 2 3), (0, .class_ 4), (0, .nameAndType 5 6), (0, u "java/util/AbstractList"), (0, u "<init>"), (0, u "()V"), (0, .class_ 8), (0, u "java/lang/Object"), (0, .fieldref 10 11), (0, .class_ 12), (0, .nameAndType 13 14), (0, u "java/util/ArrayList"), (0, u "elementData"), (0, u "[Ljava/lang/Object;"), (2, u "EMPTY_ELEMENTDATA"), (21, .fieldref 10 40), (0, .nameAndType 41 14), (0, u "DEFAULTCAPACITY_EMPTY_ELEMENTDATA"), (5, u "()[Ljava/lang/Object;"), (0, .fieldref 10 49), (0, .nameAndType 50 51), (0, u "size"), (0, u "I"), (11, .fieldref 10 64), (0, .nameAndType 65 51), (0, u "modCount"), (3, .methodref 10 70), (0, .nameAndType 71 72), (0, u "grow"), (0, u "(I)[Ljava/lang/Object;"), (6, .methodref 80 81), (0, .class_ 82), (0, .nameAndType 83 84), (0, u "java/lang/Math"), (0, u "max"), (0, u "(II)I"), (11, u "(Ljava/lang/Object;)Z"), (21, .methodref 119 120), (0, .class_ 121), (0, .nameAndType 122 84), (0, u "java/util/Objects"), (0, u "checkIndex"), (0, .methodref 10 124), (0, .nameAndType 13 125), (0, u "(I)Ljava/lang/Object;"), (3, .methodref 10 130), (0, .nameAndType 71 47), (0, .methodref 10 132), (0, .nameAndType 133 134), (0, u "add"), (0, u "(Ljava/lang/Object;[Ljava/lang/Object;I)V"), (13, .class_ 149), (0, u "java/util/List"), (36, u "()I"), (75, .class_ 263), (0, u "java/util/ArrayList$ListItr"), (3, .class_ 268), (0, u "java/util/ArrayList$Itr"), (7, .class_ 277), (0, u "java/util/ArrayList$SubList"), (12, .class_ 291), (0, u "java/util/ArrayList$ArrayListSpliterator"), (37, .class_ 330), (0, u "java/util/RandomAccess"), (0, .class_ 332), (0, u "java/lang/Cloneable"), (0, .class_ 334), (0, u "java/io/Serializable"), (0, u "serialVersionUID"), (0, u "J"), (3, u "DEFAULT_CAPACITY"), (40, u "get"), (118, .class_ 501), (0, u "java/util/ArrayList$SubList$2"), (0, .class_ 503), (0, u "java/util/ArrayList$SubList$1")] 5

def k17c0 : Code := { maxStack := 2, maxLocals := 1, code := jdk_38_method_2_code, exceptionTable := #[], attributes := #[] }
def k17m0 : Method := { name := "<init>", desc := "()V", sig := { parameters := [], returnType := none }, accessFlags := 1, code := some k17c0 }
def k17c1 : Code := { maxStack := 4, maxLocals := 4, code := jdk_38_method_6_code, exceptionTable := #[], attributes := #[] }
def k17m1 : Method := { name := "grow", desc := "(I)[Ljava/lang/Object;", sig := { parameters := [.int], returnType := some (.array (.object "java/lang/Object")) }, accessFlags := 2, code := some k17c1 }
def k17c2 : Code := { maxStack := 3, maxLocals := 1, code := jdk_38_method_7_code, exceptionTable := #[], attributes := #[] }
def k17m2 : Method := { name := "grow", desc := "()[Ljava/lang/Object;", sig := { parameters := [], returnType := some (.array (.object "java/lang/Object")) }, accessFlags := 2, code := some k17c2 }
def k17c3 : Code := { maxStack := 1, maxLocals := 1, code := jdk_38_method_8_code, exceptionTable := #[], attributes := #[] }
def k17m3 : Method := { name := "size", desc := "()I", sig := { parameters := [], returnType := some .int }, accessFlags := 1, code := some k17c3 }
def k17c4 : Code := { maxStack := 2, maxLocals := 2, code := jdk_38_method_18_code, exceptionTable := #[], attributes := #[] }
def k17m4 : Method := { name := "elementData", desc := "(I)Ljava/lang/Object;", sig := { parameters := [.int], returnType := some (.object "java/lang/Object") }, accessFlags := 0, code := some k17c4 }
def k17c5 : Code := { maxStack := 2, maxLocals := 2, code := jdk_38_method_20_code, exceptionTable := #[], attributes := #[] }
def k17m5 : Method := { name := "get", desc := "(I)Ljava/lang/Object;", sig := { parameters := [.int], returnType := some (.object "java/lang/Object") }, accessFlags := 1, code := some k17c5 }
def k17c6 : Code := { maxStack := 3, maxLocals := 4, code := jdk_38_method_24_code, exceptionTable := #[], attributes := #[] }
def k17m6 : Method := { name := "add", desc := "(Ljava/lang/Object;[Ljava/lang/Object;I)V", sig := { parameters := [(.object "java/lang/Object"), (.array (.object "java/lang/Object")), .int], returnType := none }, accessFlags := 2, code := some k17c6 }
def k17c7 : Code := { maxStack := 4, maxLocals := 2, code := jdk_38_method_25_code, exceptionTable := #[], attributes := #[] }
def k17m7 : Method := { name := "add", desc := "(Ljava/lang/Object;)Z", sig := { parameters := [(.object "java/lang/Object")], returnType := some .boolean }, accessFlags := 1, code := some k17c7 }
/-- java/util/ArrayList -/
def k17 : Class := { plain "java/util/ArrayList" (some 14) with
  accessFlags := 33
  interfaces := #[13, 15, 16, 2]
  cf := some (fileOf pool17 10 #[.nestMembers #[290, 276, 500, 502, 262, 267]] #[{ accessFlags := 1, nameIndex := 5, descriptorIndex := 6, attributes := #[] }, { accessFlags := 2, nameIndex := 71, descriptorIndex := 72, attributes := #[] }, { accessFlags := 2, nameIndex := 71, descriptorIndex := 47, attributes := #[] }, { accessFlags := 1, nameIndex := 50, descriptorIndex := 186, attributes := #[] }, { accessFlags := 0, nameIndex := 13, descriptorIndex := 125, attributes := #[] }, { accessFlags := 1, nameIndex := 381, descriptorIndex := 125, attributes := #[] }, { accessFlags := 2, nameIndex := 133, descriptorIndex := 134, attributes := #[] }, { accessFlags := 1, nameIndex := 133, descriptorIndex := 96, attributes := #[] }] 33 2 #[148, 329, 331, 333] #[{ accessFlags := 26, nameIndex := 335, descriptorIndex := 336, attributes := #[] }, { accessFlags := 26, nameIndex := 340, descriptorIndex := 51, attributes := #[] }, { accessFlags := 26, nameIndex := 17, descriptorIndex := 14, attributes := #[] }, { accessFlags := 26, nameIndex := 41, descriptorIndex := 14, attributes := #[] }, { accessFlags := 128, nameIndex := 13, descriptorIndex := 14, attributes := #[] }, { accessFlags := 2, nameIndex := 50, descriptorIndex := 51, attributes := #[] }])
  fields := #[{ name := "serialVersionUID", type := .long, accessFlags := 26, slot := 0, constantValue := 0 }, { name := "DEFAULT_CAPACITY", type := .int, accessFlags := 26, slot := 1, constantValue := 0 }, { name := "EMPTY_ELEMENTDATA", type := (.array (.object "java/lang/Object")), accessFlags := 26, slot := 2, constantValue := 0 }, { name := "DEFAULTCAPACITY_EMPTY_ELEMENTDATA", type := (.array (.object "java/lang/Object")), accessFlags := 26, slot := 3, constantValue := 0 }, { name := "elementData", type := (.array (.object "java/lang/Object")), accessFlags := 128, slot := 1, constantValue := 0 }, { name := "size", type := .int, accessFlags := 2, slot := 2, constantValue := 0 }]
  methods := #[k17m0, k17m1, k17m2, k17m3, k17m4, k17m5, k17m6, k17m7]
  instanceTypes := #[.int, (.array (.object "java/lang/Object")), .int]
  staticTypes := #[.long, .int, (.array (.object "java/lang/Object")), (.array (.object "java/lang/Object"))]
  resolved := Array.replicate 509 none
  statics := some 1 }

def pool18 : Array CpInfo := pool [(1, .class_ 2), (0, u "java/lang/Math"), (1, .class_ 6), (1, u "java/lang/Object"), (0, u "<init>"), (0, u "()V"), (89, .class_ 100), (1, u "java/lang/Math$RandomNumberGeneratorHolder"), (71, u "negativeZeroFloatBits"), (0, u "J"), (2, u "negativeZeroDoubleBits"), (21, u "max"), (46, u "$assertionsDisabled"), (0, u "Z"), (88, u "(II)I"), (2, u "twoToTheDoubleScaleDown"), (0, u "D"), (4, u "twoToTheDoubleScaleUp"), (9, u "E"), (3, u "PI"), (2, u "TAU"), (2, u "DEGREES_TO_RADIANS"), (0, u "RADIANS_TO_DEGREES")] 94

def k18m0 : Method := { name := "<init>", desc := "()V", sig := { parameters := [], returnType := none }, accessFlags := 2, code := none }
def k18c1 : Code := { maxStack := 2, maxLocals := 2, code := jdk_29_method_65_code, exceptionTable := #[], attributes := #[] }
def k18m1 : Method := { name := "max", desc := "(II)I", sig := { parameters := [.int, .int], returnType := some .int }, accessFlags := 9, code := some k18c1 }
/-- java/lang/Math -/
def k18 : Class := { plain "java/lang/Math" (some 0) with
  accessFlags := 49
  interfaces := #[]
  cf := some (fileOf pool18 1 #[.nestMembers #[98]] #[{ accessFlags := 2, nameIndex := 7, descriptorIndex := 8, attributes := #[] }, { accessFlags := 9, nameIndex := 198, descriptorIndex := 335, attributes := #[] }] 49 4 #[] #[{ accessFlags := 25, nameIndex := 354, descriptorIndex := 339, attributes := #[] }, { accessFlags := 25, nameIndex := 358, descriptorIndex := 339, attributes := #[] }, { accessFlags := 25, nameIndex := 361, descriptorIndex := 339, attributes := #[] }, { accessFlags := 26, nameIndex := 364, descriptorIndex := 339, attributes := #[] }, { accessFlags := 26, nameIndex := 365, descriptorIndex := 339, attributes := #[] }, { accessFlags := 26, nameIndex := 172, descriptorIndex := 173, attributes := #[] }, { accessFlags := 26, nameIndex := 176, descriptorIndex := 173, attributes := #[] }, { accessFlags := 8, nameIndex := 344, descriptorIndex := 339, attributes := #[] }, { accessFlags := 8, nameIndex := 338, descriptorIndex := 339, attributes := #[] }, { accessFlags := 4120, nameIndex := 245, descriptorIndex := 246, attributes := #[] }])
  fields := #[{ name := "E", type := .double, accessFlags := 25, slot := 0, constantValue := 0 }, { name := "PI", type := .double, accessFlags := 25, slot := 1, constantValue := 0 }, { name := "TAU", type := .double, accessFlags := 25, slot := 2, constantValue := 0 }, { name := "DEGREES_TO_RADIANS", type := .double, accessFlags := 26, slot := 3, constantValue := 0 }, { name := "RADIANS_TO_DEGREES", type := .double, accessFlags := 26, slot := 4, constantValue := 0 }, { name := "negativeZeroFloatBits", type := .long, accessFlags := 26, slot := 5, constantValue := 0 }, { name := "negativeZeroDoubleBits", type := .long, accessFlags := 26, slot := 6, constantValue := 0 }, { name := "twoToTheDoubleScaleUp", type := .double, accessFlags := 8, slot := 7, constantValue := 0 }, { name := "twoToTheDoubleScaleDown", type := .double, accessFlags := 8, slot := 8, constantValue := 0 }, { name := "$assertionsDisabled", type := .boolean, accessFlags := 4120, slot := 9, constantValue := 0 }]
  methods := #[k18m0, k18m1]
  instanceTypes := #[]
  staticTypes := #[.double, .double, .double, .double, .double, .long, .long, .double, .double, .boolean]
  resolved := Array.replicate 460 none
  statics := none }

def pool19 : Array CpInfo := pool [(2, .class_ 4), (1, u "java/lang/Object"), (0, u "<init>"), (0, u "()V"), (0, .interfaceMethodref 8 9), (0, .class_ 10), (0, .nameAndType 11 12), (0, u "java/util/List"), (0, u "size"), (0, u "()I"), (9, .interfaceMethodref 8 23), (0, .nameAndType 24 25), (0, u "get"), (0, u "(I)Ljava/lang/Object;"), (0, .class_ 27), (0, u "java/lang/String"), (0, .class_ 29), (0, u "com/example/scorebench/scorebench/OptionValue"), (2, u "of"), (0, u "(Ljava/lang/String;Ljava/util/List;ILjava/lang/String;Ljava/lang/String;)Ljava/lang/String;")] 21

def k19m0 : Method := { name := "<init>", desc := "()V", sig := { parameters := [], returnType := none }, accessFlags := 2, code := none }
def k19c1 : Code := { maxStack := 5, maxLocals := 5, code := prog_4_method_2_code, exceptionTable := #[], attributes := #[] }
def k19m1 : Method := { name := "of", desc := "(Ljava/lang/String;Ljava/util/List;ILjava/lang/String;Ljava/lang/String;)Ljava/lang/String;", sig := { parameters := [(.object "java/lang/String"), (.object "java/util/List"), .int, (.object "java/lang/String"), (.object "java/lang/String")], returnType := some (.object "java/lang/String") }, accessFlags := 8, code := some k19c1 }
/-- com/example/scorebench/scorebench/OptionValue -/
def k19 : Class := { plain "com/example/scorebench/scorebench/OptionValue" (some 0) with
  accessFlags := 48
  interfaces := #[]
  cf := some (fileOf pool19 28 #[] #[{ accessFlags := 2, nameIndex := 5, descriptorIndex := 6, attributes := #[] }, { accessFlags := 8, nameIndex := 32, descriptorIndex := 33, attributes := #[] }] 48 2 #[] #[])
  fields := #[]
  methods := #[k19m0, k19m1]
  instanceTypes := #[]
  staticTypes := #[]
  resolved := Array.replicate 55 none
  statics := none }

def pool20 : Array CpInfo := pool [(2, .class_ 4), (1, u "java/lang/Object"), (0, u "<init>"), (0, u "()V"), (35, .class_ 44), (1, u "java/util/Objects"), (60, .methodref 106 107), (0, .class_ 108), (0, .nameAndType 109 110), (0, u "jdk/internal/util/Preconditions"), (0, u "checkIndex"), (0, u "(IILjava/util/function/BiFunction;)I"), (60, u "(II)I")] 12

def k20m0 : Method := { name := "<init>", desc := "()V", sig := { parameters := [], returnType := none }, accessFlags := 2, code := none }
def k20c1 : Code := { maxStack := 3, maxLocals := 2, code := jdk_31_method_17_code, exceptionTable := #[], attributes := #[] }
def k20m1 : Method := { name := "checkIndex", desc := "(II)I", sig := { parameters := [.int, .int], returnType := some .int }, accessFlags := 9, code := some k20c1 }
/-- java/util/Objects -/
def k20 : Class := { plain "java/util/Objects" (some 0) with
  accessFlags := 49
  interfaces := #[]
  cf := some (fileOf pool20 42 #[] #[{ accessFlags := 2, nameIndex := 5, descriptorIndex := 6, attributes := #[] }, { accessFlags := 9, nameIndex := 109, descriptorIndex := 171, attributes := #[] }] 49 2 #[] #[])
  fields := #[]
  methods := #[k20m0, k20m1]
  instanceTypes := #[]
  staticTypes := #[]
  resolved := Array.replicate 184 none
  statics := none }

def pool21 : Array CpInfo := pool [(2, .class_ 4), (1, u "java/lang/Object"), (0, u "<init>"), (0, u "()V"), (17, .class_ 26), (1, u "jdk/internal/util/Preconditions"), (6, u "checkIndex"), (21, .class_ 56), (0, u "jdk/internal/util/Preconditions$4"), (57, .class_ 115), (0, u "jdk/internal/util/Preconditions$1"), (7, u "SIOOBE_FORMATTER"), (0, u "Ljava/util/function/BiFunction;"), (0, .class_ 126), (0, u "jdk/internal/util/Preconditions$2"), (3, u "AIOOBE_FORMATTER"), (0, .class_ 132), (0, u "jdk/internal/util/Preconditions$3"), (3, u "IOOBE_FORMATTER"), (41, u "(IILjava/util/function/BiFunction;)I")] 15

def k21m0 : Method := { name := "<init>", desc := "()V", sig := { parameters := [], returnType := none }, accessFlags := 1, code := none }
def k21c1 : Code := { maxStack := 3, maxLocals := 3, code := jdk_41_method_11_code, exceptionTable := #[], attributes := #[] }
def k21m1 : Method := { name := "checkIndex", desc := "(IILjava/util/function/BiFunction;)I", sig := { parameters := [.int, .int, (.object "java/util/function/BiFunction")], returnType := some .int }, accessFlags := 9, code := some k21c1 }
/-- jdk/internal/util/Preconditions -/
def k21 : Class := { plain "jdk/internal/util/Preconditions" (some 0) with
  accessFlags := 33
  interfaces := #[]
  cf := some (fileOf pool21 24 #[.nestMembers #[55, 131, 125, 114]] #[{ accessFlags := 1, nameIndex := 5, descriptorIndex := 6, attributes := #[] }, { accessFlags := 9, nameIndex := 33, descriptorIndex := 178, attributes := #[] }] 33 2 #[] #[{ accessFlags := 25, nameIndex := 123, descriptorIndex := 124, attributes := #[] }, { accessFlags := 25, nameIndex := 130, descriptorIndex := 124, attributes := #[] }, { accessFlags := 25, nameIndex := 136, descriptorIndex := 124, attributes := #[] }])
  fields := #[{ name := "SIOOBE_FORMATTER", type := (.object "java/util/function/BiFunction"), accessFlags := 25, slot := 0, constantValue := 0 }, { name := "AIOOBE_FORMATTER", type := (.object "java/util/function/BiFunction"), accessFlags := 25, slot := 1, constantValue := 0 }, { name := "IOOBE_FORMATTER", type := (.object "java/util/function/BiFunction"), accessFlags := 25, slot := 2, constantValue := 0 }]
  methods := #[k21m0, k21m1]
  instanceTypes := #[]
  staticTypes := #[(.object "java/util/function/BiFunction"), (.object "java/util/function/BiFunction"), (.object "java/util/function/BiFunction")]
  resolved := Array.replicate 194 none
  statics := some 2 }

def pool22 : Array CpInfo := pool [(9, u "<init>"), (6, .class_ 18), (1, u "java/lang/Object"), (0, u "()V"), (1, .class_ 23), (1, u "jdk/internal/util/ArraysSupport"), (0, u "LOG2_ARRAY_LONG_INDEX_SCALE"), (0, u "I"), (2, u "U"), (0, u "Ljdk/internal/misc/Unsafe;"), (8, u "BIG_ENDIAN"), (0, u "Z"), (8, u "LOG2_BYTE_BIT_SIZE"), (4, u "LOG2_ARRAY_INT_INDEX_SCALE"), (54, u "JLA"), (0, u "Ljdk/internal/access/JavaLangAccess;"), (11, u "LOG2_ARRAY_BOOLEAN_INDEX_SCALE"), (9, u "LOG2_ARRAY_BYTE_INDEX_SCALE"), (5, u "LOG2_ARRAY_CHAR_INDEX_SCALE"), (5, u "LOG2_ARRAY_SHORT_INDEX_SCALE"), (18, u "LOG2_ARRAY_FLOAT_INDEX_SCALE"), (24, u "LOG2_ARRAY_DOUBLE_INDEX_SCALE"), (89, u "T_BOOLEAN"), (2, u "T_CHAR"), (1, u "T_FLOAT"), (1, u "T_DOUBLE"), (1, u "T_BYTE"), (1, u "T_SHORT"), (1, u "T_INT"), (1, u "T_LONG"), (1, u "SOFT_MAX_ARRAY_LENGTH")] 83

def k22m0 : Method := { name := "<init>", desc := "()V", sig := { parameters := [], returnType := none }, accessFlags := 2, code := none }
/-- jdk/internal/util/ArraysSupport -/
def k22 : Class := { plain "jdk/internal/util/ArraysSupport" (some 0) with
  accessFlags := 33
  interfaces := #[]
  cf := some (fileOf pool22 21 #[] #[{ accessFlags := 2, nameIndex := 9, descriptorIndex := 19, attributes := #[] }] 33 16 #[] #[{ accessFlags := 24, nameIndex := 28, descriptorIndex := 29, attributes := #[] }, { accessFlags := 26, nameIndex := 38, descriptorIndex := 39, attributes := #[] }, { accessFlags := 25, nameIndex := 121, descriptorIndex := 25, attributes := #[] }, { accessFlags := 25, nameIndex := 131, descriptorIndex := 25, attributes := #[] }, { accessFlags := 25, nameIndex := 137, descriptorIndex := 25, attributes := #[] }, { accessFlags := 25, nameIndex := 143, descriptorIndex := 25, attributes := #[] }, { accessFlags := 25, nameIndex := 53, descriptorIndex := 25, attributes := #[] }, { accessFlags := 25, nameIndex := 24, descriptorIndex := 25, attributes := #[] }, { accessFlags := 25, nameIndex := 162, descriptorIndex := 25, attributes := #[] }, { accessFlags := 25, nameIndex := 187, descriptorIndex := 25, attributes := #[] }, { accessFlags := 26, nameIndex := 48, descriptorIndex := 25, attributes := #[] }, { accessFlags := 25, nameIndex := 277, descriptorIndex := 25, attributes := #[] }, { accessFlags := 25, nameIndex := 280, descriptorIndex := 25, attributes := #[] }, { accessFlags := 25, nameIndex := 282, descriptorIndex := 25, attributes := #[] }, { accessFlags := 25, nameIndex := 284, descriptorIndex := 25, attributes := #[] }, { accessFlags := 25, nameIndex := 286, descriptorIndex := 25, attributes := #[] }, { accessFlags := 25, nameIndex := 288, descriptorIndex := 25, attributes := #[] }, { accessFlags := 25, nameIndex := 290, descriptorIndex := 25, attributes := #[] }, { accessFlags := 25, nameIndex := 292, descriptorIndex := 25, attributes := #[] }, { accessFlags := 26, nameIndex := 108, descriptorIndex := 109, attributes := #[] }, { accessFlags := 25, nameIndex := 294, descriptorIndex := 25, attributes := #[] }])
  fields := #[{ name := "U", type := (.object "jdk/internal/misc/Unsafe"), accessFlags := 24, slot := 0, constantValue := 0 }, { name := "BIG_ENDIAN", type := .boolean, accessFlags := 26, slot := 1, constantValue := 0 }, { name := "LOG2_ARRAY_BOOLEAN_INDEX_SCALE", type := .int, accessFlags := 25, slot := 2, constantValue := 0 }, { name := "LOG2_ARRAY_BYTE_INDEX_SCALE", type := .int, accessFlags := 25, slot := 3, constantValue := 0 }, { name := "LOG2_ARRAY_CHAR_INDEX_SCALE", type := .int, accessFlags := 25, slot := 4, constantValue := 0 }, { name := "LOG2_ARRAY_SHORT_INDEX_SCALE", type := .int, accessFlags := 25, slot := 5, constantValue := 0 }, { name := "LOG2_ARRAY_INT_INDEX_SCALE", type := .int, accessFlags := 25, slot := 6, constantValue := 0 }, { name := "LOG2_ARRAY_LONG_INDEX_SCALE", type := .int, accessFlags := 25, slot := 7, constantValue := 0 }, { name := "LOG2_ARRAY_FLOAT_INDEX_SCALE", type := .int, accessFlags := 25, slot := 8, constantValue := 0 }, { name := "LOG2_ARRAY_DOUBLE_INDEX_SCALE", type := .int, accessFlags := 25, slot := 9, constantValue := 0 }, { name := "LOG2_BYTE_BIT_SIZE", type := .int, accessFlags := 26, slot := 10, constantValue := 0 }, { name := "T_BOOLEAN", type := .int, accessFlags := 25, slot := 11, constantValue := 0 }, { name := "T_CHAR", type := .int, accessFlags := 25, slot := 12, constantValue := 0 }, { name := "T_FLOAT", type := .int, accessFlags := 25, slot := 13, constantValue := 0 }, { name := "T_DOUBLE", type := .int, accessFlags := 25, slot := 14, constantValue := 0 }, { name := "T_BYTE", type := .int, accessFlags := 25, slot := 15, constantValue := 0 }, { name := "T_SHORT", type := .int, accessFlags := 25, slot := 16, constantValue := 0 }, { name := "T_INT", type := .int, accessFlags := 25, slot := 17, constantValue := 0 }, { name := "T_LONG", type := .int, accessFlags := 25, slot := 18, constantValue := 0 }, { name := "JLA", type := (.object "jdk/internal/access/JavaLangAccess"), accessFlags := 26, slot := 19, constantValue := 0 }, { name := "SOFT_MAX_ARRAY_LENGTH", type := .int, accessFlags := 25, slot := 20, constantValue := 0 }]
  methods := #[k22m0]
  instanceTypes := #[]
  staticTypes := #[(.object "jdk/internal/misc/Unsafe"), .boolean, .int, .int, .int, .int, .int, .int, .int, .int, .int, .int, .int, .int, .int, .int, .int, .int, .int, (.object "jdk/internal/access/JavaLangAccess"), .int]
  resolved := Array.replicate 378 none
  statics := none }

/-- the primitive byte -/
def k23 : Class := { plain "byte" none with kind := .primitive 'B', accessFlags := 0x411 }
/-- [B -/
def k24 : Class := { plain "[B" (some 0) with kind := .array 23 .byte, interfaces := #[16, 2], accessFlags := 1041 }

/-- the primitive int -/
def k25 : Class := { plain "int" none with kind := .primitive 'I', accessFlags := 0x411 }
/-- [I -/
def k26 : Class := { plain "[I" (some 0) with kind := .array 25 .int, interfaces := #[16, 2], accessFlags := 1041 }

/-- [Ljava/lang/Object; -/
def k27 : Class := { plain "[Ljava/lang/Object;" (some 0) with kind := .array 0 (.object "java/lang/Object"), interfaces := #[16, 2], accessFlags := 1041 }

def heap : Heap := #[{ cls := 7, slots := #[.long 0, .int 1, .null, .int 0, .null, .int 0, .int 0], vm := .statics 7 },
  { cls := 17, slots := #[.long 0, .int 0, .ref 3, .ref 4], vm := .statics 17 },
  { cls := 21, slots := #[.null, .null, .null], vm := .statics 21 },
  { cls := 27, slots := #[], vm := .none },
  { cls := 27, slots := #[], vm := .none }]
def classes : Array Class := #[k0, k1, k2, k3, k4, k5, k6, k7, k8, k9, k10, k11, k12, k13, k14, k15, k16, k17, k18, k19, k20, k21, k22, k23, k24, k25, k26, k27]
def interned : List (Array UInt16 × Addr) := []
def slotsUsed : Nat := 14
def theMethod : MethodId := ⟨1, 1⟩
def args0 : Array Value := #[.int 5, .int 6, .int 7, .int 8, .int 9, .int 10]
def aboutOver (below : List Frame) : State where
  vm := { classes := classes, interned := interned.toArray }
  heap := heap
  slotsUsed := slotsUsed
  threads := #[{ frames := .invoking theMethod args0 :: below }]
def below0 : List Frame := [.native { method := ⟨0, 0⟩, args := #[] }]
def about1 : State := aboutOver below0
def p0 : Program := .bare "" "" ""
def e0 : Env := launch0.env 0 0 0
theorem w_frames : about1.frames = Frame.invoking theMethod args0 :: below0 := rfl
set_option maxRecDepth 65536 in
theorem w_args : argsFit about1.vm theMethod args0 = true := by decide +kernel
set_option maxRecDepth 65536 in
theorem w_heap : heapFits about1 = true := by decide +kernel
set_option maxRecDepth 65536 in
theorem w_runnable : about1.curStatus? = some .runnable := by decide +kernel
set_option maxRecDepth 65536 in
theorem w_alone : about1.alone = true := by decide +kernel
set_option maxRecDepth 65536 in
theorem w_named : about1.methodNamed? x = some theMethod := by decide +kernel
set_option maxRecDepth 65536 in
theorem w_hears : about1.hears theMethod below0 = true := by decide +kernel
set_option maxRecDepth 65536 in
theorem w_ripe : about1.ripe theMethod args0 below0 = true := by decide +kernel
theorem w_running : about1.status = .running := rfl
set_option maxRecDepth 65536 in
theorem w_room : about1.hasRoom e0.platform room_1 = true :=
  launch0.hasRoom_least _ room_1 (by decide +kernel) (by decide +kernel) (by decide +kernel) (by decide +kernel) (by decide +kernel) (by decide +kernel)
theorem allAtoms_all (ts : List Jvm.Cond) (a : Array Jvm.Value) (st : Jvm.State) : (allAtoms ts).before a st = ts.all (fun c => c.before a st) := by
  induction ts with
  | nil => rfl
  | cons c t ih =>
    show (Jvm.Cond.and c (allAtoms t)).before a st = _
    rw [Jvm.Cond.before_and, ih, List.all_cons]
def words1 : List Jvm.Cond := Jvm.Cond.code x code maxLocals ret :: tables_1
/-- a 'code' word, met by the world's own term for the bytes: nothing is compared byte by byte -/
theorem code_word {y : MethodName} {bytes : ByteArray} {mx : Nat} {rt : Option FieldType} {a : Array Value} {s : State} {m : MethodId} {meth : Method} {c : Code} (h1 : s.methodNamed? y = some m) (h2 : s.vm.method? m = some meth) (h3 : meth.code = some c) (h4 : c.code = bytes)
    (h5 : (c.maxLocals == mx && c.exceptionTable.isEmpty && decide (c.maxStack ≤ mostOperands) && decide (meth.sig.returnType = rt) && !meth.locks && decide (parseMethodDescriptor y.desc = some meth.sig)) = true) : (Jvm.Cond.code y bytes mx rt).before a s = true := by
  simp only [Bool.and_eq_true, beq_iff_eq, Bool.not_eq_true', decide_eq_true_eq] at h5
  obtain ⟨⟨⟨⟨⟨g1, g2⟩, g3⟩, g4⟩, g5⟩, g6⟩ := h5
  simp [Cond.before, Cond.holds, Cond.value, h1, h2, h3, h4, g1, g2, g3, g4, g5, g6]
def isCode : Jvm.Cond → Bool
  | .code _ _ _ _ => true
  | _ => false
theorem all_split {L : List Jvm.Cond} {P : Jvm.Cond → Bool} (h1 : L.all (fun c => isCode c || P c) = true) (h2 : ∀ c ∈ L.filter isCode, P c = true) : L.all P = true := by
  refine List.all_eq_true.mpr fun c hc => ?_
  have h := List.all_eq_true.mp h1 c hc
  rcases Bool.eq_false_or_eq_true (isCode c) with hi | hi
  · exact h2 c (List.mem_filter.mpr ⟨hc, hi⟩)
  · simpa [hi] using h
set_option maxRecDepth 65536 in
theorem w_c0 : (Jvm.Cond.code x code maxLocals ret).before args0 about1 = true := code_word (m := ⟨1, 1⟩) (meth := k1m1) (c := k1c1) (by decide +kernel) rfl rfl rfl (by decide +kernel)
set_option maxRecDepth 65536 in
theorem w_c1 : (Jvm.Cond.code ({ cls := "java/lang/String", name := "valueOf", desc := "(C)Ljava/lang/String;" } : Jvm.MethodName) jdk_42_method_139_code (1 : Nat) (Option.some (Jvm.ClassFile.FieldType.object "java/lang/String"))).before args0 about1 = true := code_word (m := ⟨7, 2⟩) (meth := k7m2) (c := k7c2) (by decide +kernel) rfl rfl rfl (by decide +kernel)
set_option maxRecDepth 65536 in
theorem w_c2 : (Jvm.Cond.code ({ cls := "java/lang/StringLatin1", name := "canEncode", desc := "(C)Z" } : Jvm.MethodName) jdk_43_method_3_code (1 : Nat) (Option.some Jvm.ClassFile.FieldType.boolean)).before args0 about1 = true := code_word (m := ⟨8, 1⟩) (meth := k8m1) (c := k8c1) (by decide +kernel) rfl rfl rfl (by decide +kernel)
set_option maxRecDepth 65536 in
theorem w_c3 : (Jvm.Cond.code ({ cls := "java/lang/StringLatin1", name := "toBytes", desc := "(C)[B" } : Jvm.MethodName) jdk_43_method_46_code (1 : Nat) (Option.some (Jvm.ClassFile.FieldType.array Jvm.ClassFile.FieldType.byte))).before args0 about1 = true := code_word (m := ⟨8, 2⟩) (meth := k8m2) (c := k8c2) (by decide +kernel) rfl rfl rfl (by decide +kernel)
set_option maxRecDepth 65536 in
theorem w_c4 : (Jvm.Cond.code ({ cls := "java/lang/String", name := "<init>", desc := "([BB)V" } : Jvm.MethodName) jdk_42_method_151_code (3 : Nat) (Option.none : Option Jvm.ClassFile.FieldType)).before args0 about1 = true := code_word (m := ⟨7, 3⟩) (meth := k7m3) (c := k7c3) (by decide +kernel) rfl rfl rfl (by decide +kernel)
set_option maxRecDepth 65536 in
theorem w_c5 : (Jvm.Cond.code ({ cls := "java/lang/Object", name := "<init>", desc := "()V" } : Jvm.MethodName) object_method_1_code (1 : Nat) (Option.none : Option Jvm.ClassFile.FieldType)).before args0 about1 = true := code_word (m := ⟨0, 0⟩) (meth := k0m0) (c := k0c0) (by decide +kernel) rfl rfl rfl (by decide +kernel)
set_option maxRecDepth 65536 in
theorem w_c6 : (Jvm.Cond.code ({ cls := "java/util/ArrayList", name := "<init>", desc := "()V" } : Jvm.MethodName) jdk_38_method_2_code (1 : Nat) (Option.none : Option Jvm.ClassFile.FieldType)).before args0 about1 = true := code_word (m := ⟨17, 0⟩) (meth := k17m0) (c := k17c0) (by decide +kernel) rfl rfl rfl (by decide +kernel)
set_option maxRecDepth 65536 in
theorem w_c7 : (Jvm.Cond.code ({ cls := "java/util/AbstractList", name := "<init>", desc := "()V" } : Jvm.MethodName) jdk_39_method_1_code (1 : Nat) (Option.none : Option Jvm.ClassFile.FieldType)).before args0 about1 = true := code_word (m := ⟨14, 0⟩) (meth := k14m0) (c := k14c0) (by decide +kernel) rfl rfl rfl (by decide +kernel)
set_option maxRecDepth 65536 in
theorem w_c8 : (Jvm.Cond.code ({ cls := "java/util/AbstractCollection", name := "<init>", desc := "()V" } : Jvm.MethodName) jdk_22_method_1_code (1 : Nat) (Option.none : Option Jvm.ClassFile.FieldType)).before args0 about1 = true := code_word (m := ⟨11, 0⟩) (meth := k11m0) (c := k11c0) (by decide +kernel) rfl rfl rfl (by decide +kernel)
set_option maxRecDepth 65536 in
theorem w_c9 : (Jvm.Cond.code ({ cls := "java/util/ArrayList", name := "add", desc := "(Ljava/lang/Object;)Z" } : Jvm.MethodName) jdk_38_method_25_code (2 : Nat) (Option.some Jvm.ClassFile.FieldType.boolean)).before args0 about1 = true := code_word (m := ⟨17, 7⟩) (meth := k17m7) (c := k17c7) (by decide +kernel) rfl rfl rfl (by decide +kernel)
set_option maxRecDepth 65536 in
theorem w_c10 : (Jvm.Cond.code ({ cls := "java/util/ArrayList", name := "add", desc := "(Ljava/lang/Object;[Ljava/lang/Object;I)V" } : Jvm.MethodName) jdk_38_method_24_code (4 : Nat) (Option.none : Option Jvm.ClassFile.FieldType)).before args0 about1 = true := code_word (m := ⟨17, 6⟩) (meth := k17m6) (c := k17c6) (by decide +kernel) rfl rfl rfl (by decide +kernel)
set_option maxRecDepth 65536 in
theorem w_c11 : (Jvm.Cond.code ({ cls := "java/util/ArrayList", name := "grow", desc := "()[Ljava/lang/Object;" } : Jvm.MethodName) jdk_38_method_7_code (1 : Nat) (Option.some (Jvm.ClassFile.FieldType.array (Jvm.ClassFile.FieldType.object "java/lang/Object")))).before args0 about1 = true := code_word (m := ⟨17, 2⟩) (meth := k17m2) (c := k17c2) (by decide +kernel) rfl rfl rfl (by decide +kernel)
set_option maxRecDepth 65536 in
theorem w_c12 : (Jvm.Cond.code ({ cls := "java/util/ArrayList", name := "grow", desc := "(I)[Ljava/lang/Object;" } : Jvm.MethodName) jdk_38_method_6_code (4 : Nat) (Option.some (Jvm.ClassFile.FieldType.array (Jvm.ClassFile.FieldType.object "java/lang/Object")))).before args0 about1 = true := code_word (m := ⟨17, 1⟩) (meth := k17m1) (c := k17c1) (by decide +kernel) rfl rfl rfl (by decide +kernel)
set_option maxRecDepth 65536 in
theorem w_c13 : (Jvm.Cond.code ({ cls := "java/lang/Math", name := "max", desc := "(II)I" } : Jvm.MethodName) jdk_29_method_65_code (2 : Nat) (Option.some Jvm.ClassFile.FieldType.int)).before args0 about1 = true := code_word (m := ⟨18, 1⟩) (meth := k18m1) (c := k18c1) (by decide +kernel) rfl rfl rfl (by decide +kernel)
set_option maxRecDepth 65536 in
theorem w_c14 : (Jvm.Cond.code ({ cls := "com/example/scorebench/scorebench/OptionValue", name := "of", desc := "(Ljava/lang/String;Ljava/util/List;ILjava/lang/String;Ljava/lang/String;)Ljava/lang/String;" } : Jvm.MethodName) prog_4_method_2_code (5 : Nat) (Option.some (Jvm.ClassFile.FieldType.object "java/lang/String"))).before args0 about1 = true := code_word (m := ⟨19, 1⟩) (meth := k19m1) (c := k19c1) (by decide +kernel) rfl rfl rfl (by decide +kernel)
set_option maxRecDepth 65536 in
theorem w_c15 : (Jvm.Cond.code ({ cls := "java/util/ArrayList", name := "size", desc := "()I" } : Jvm.MethodName) jdk_38_method_8_code (1 : Nat) (Option.some Jvm.ClassFile.FieldType.int)).before args0 about1 = true := code_word (m := ⟨17, 3⟩) (meth := k17m3) (c := k17c3) (by decide +kernel) rfl rfl rfl (by decide +kernel)
set_option maxRecDepth 65536 in
theorem w_c16 : (Jvm.Cond.code ({ cls := "java/util/ArrayList", name := "get", desc := "(I)Ljava/lang/Object;" } : Jvm.MethodName) jdk_38_method_20_code (2 : Nat) (Option.some (Jvm.ClassFile.FieldType.object "java/lang/Object"))).before args0 about1 = true := code_word (m := ⟨17, 5⟩) (meth := k17m5) (c := k17c5) (by decide +kernel) rfl rfl rfl (by decide +kernel)
set_option maxRecDepth 65536 in
theorem w_c17 : (Jvm.Cond.code ({ cls := "java/util/Objects", name := "checkIndex", desc := "(II)I" } : Jvm.MethodName) jdk_31_method_17_code (2 : Nat) (Option.some Jvm.ClassFile.FieldType.int)).before args0 about1 = true := code_word (m := ⟨20, 1⟩) (meth := k20m1) (c := k20c1) (by decide +kernel) rfl rfl rfl (by decide +kernel)
set_option maxRecDepth 65536 in
theorem w_c18 : (Jvm.Cond.code ({ cls := "jdk/internal/util/Preconditions", name := "checkIndex", desc := "(IILjava/util/function/BiFunction;)I" } : Jvm.MethodName) jdk_41_method_11_code (3 : Nat) (Option.some Jvm.ClassFile.FieldType.int)).before args0 about1 = true := code_word (m := ⟨21, 1⟩) (meth := k21m1) (c := k21c1) (by decide +kernel) rfl rfl rfl (by decide +kernel)
set_option maxRecDepth 65536 in
theorem w_c19 : (Jvm.Cond.code ({ cls := "java/util/ArrayList", name := "elementData", desc := "(I)Ljava/lang/Object;" } : Jvm.MethodName) jdk_38_method_18_code (2 : Nat) (Option.some (Jvm.ClassFile.FieldType.object "java/lang/Object"))).before args0 about1 = true := code_word (m := ⟨17, 4⟩) (meth := k17m4) (c := k17c4) (by decide +kernel) rfl rfl rfl (by decide +kernel)
set_option maxRecDepth 65536 in
theorem w_c20 : (Jvm.Cond.code ({ cls := "java/lang/String", name := "equals", desc := "(Ljava/lang/Object;)Z" } : Jvm.MethodName) jdk_42_method_66_code (3 : Nat) (Option.some Jvm.ClassFile.FieldType.boolean)).before args0 about1 = true := code_word (m := ⟨7, 1⟩) (meth := k7m1) (c := k7c1) (by decide +kernel) rfl rfl rfl (by decide +kernel)
def codes1 : List Jvm.Cond := [Jvm.Cond.code x code maxLocals ret, Jvm.Cond.code ({ cls := "java/lang/String", name := "valueOf", desc := "(C)Ljava/lang/String;" } : Jvm.MethodName) jdk_42_method_139_code (1 : Nat) (Option.some (Jvm.ClassFile.FieldType.object "java/lang/String")), Jvm.Cond.code ({ cls := "java/lang/StringLatin1", name := "canEncode", desc := "(C)Z" } : Jvm.MethodName) jdk_43_method_3_code (1 : Nat) (Option.some Jvm.ClassFile.FieldType.boolean), Jvm.Cond.code ({ cls := "java/lang/StringLatin1", name := "toBytes", desc := "(C)[B" } : Jvm.MethodName) jdk_43_method_46_code (1 : Nat) (Option.some (Jvm.ClassFile.FieldType.array Jvm.ClassFile.FieldType.byte)), Jvm.Cond.code ({ cls := "java/lang/String", name := "<init>", desc := "([BB)V" } : Jvm.MethodName) jdk_42_method_151_code (3 : Nat) (Option.none : Option Jvm.ClassFile.FieldType), Jvm.Cond.code ({ cls := "java/lang/Object", name := "<init>", desc := "()V" } : Jvm.MethodName) object_method_1_code (1 : Nat) (Option.none : Option Jvm.ClassFile.FieldType), Jvm.Cond.code ({ cls := "java/util/ArrayList", name := "<init>", desc := "()V" } : Jvm.MethodName) jdk_38_method_2_code (1 : Nat) (Option.none : Option Jvm.ClassFile.FieldType), Jvm.Cond.code ({ cls := "java/util/AbstractList", name := "<init>", desc := "()V" } : Jvm.MethodName) jdk_39_method_1_code (1 : Nat) (Option.none : Option Jvm.ClassFile.FieldType), Jvm.Cond.code ({ cls := "java/util/AbstractCollection", name := "<init>", desc := "()V" } : Jvm.MethodName) jdk_22_method_1_code (1 : Nat) (Option.none : Option Jvm.ClassFile.FieldType), Jvm.Cond.code ({ cls := "java/util/ArrayList", name := "add", desc := "(Ljava/lang/Object;)Z" } : Jvm.MethodName) jdk_38_method_25_code (2 : Nat) (Option.some Jvm.ClassFile.FieldType.boolean), Jvm.Cond.code ({ cls := "java/util/ArrayList", name := "add", desc := "(Ljava/lang/Object;[Ljava/lang/Object;I)V" } : Jvm.MethodName) jdk_38_method_24_code (4 : Nat) (Option.none : Option Jvm.ClassFile.FieldType), Jvm.Cond.code ({ cls := "java/util/ArrayList", name := "grow", desc := "()[Ljava/lang/Object;" } : Jvm.MethodName) jdk_38_method_7_code (1 : Nat) (Option.some (Jvm.ClassFile.FieldType.array (Jvm.ClassFile.FieldType.object "java/lang/Object"))), Jvm.Cond.code ({ cls := "java/util/ArrayList", name := "grow", desc := "(I)[Ljava/lang/Object;" } : Jvm.MethodName) jdk_38_method_6_code (4 : Nat) (Option.some (Jvm.ClassFile.FieldType.array (Jvm.ClassFile.FieldType.object "java/lang/Object"))), Jvm.Cond.code ({ cls := "java/lang/Math", name := "max", desc := "(II)I" } : Jvm.MethodName) jdk_29_method_65_code (2 : Nat) (Option.some Jvm.ClassFile.FieldType.int), Jvm.Cond.code ({ cls := "com/example/scorebench/scorebench/OptionValue", name := "of", desc := "(Ljava/lang/String;Ljava/util/List;ILjava/lang/String;Ljava/lang/String;)Ljava/lang/String;" } : Jvm.MethodName) prog_4_method_2_code (5 : Nat) (Option.some (Jvm.ClassFile.FieldType.object "java/lang/String")), Jvm.Cond.code ({ cls := "java/util/ArrayList", name := "size", desc := "()I" } : Jvm.MethodName) jdk_38_method_8_code (1 : Nat) (Option.some Jvm.ClassFile.FieldType.int), Jvm.Cond.code ({ cls := "java/util/ArrayList", name := "get", desc := "(I)Ljava/lang/Object;" } : Jvm.MethodName) jdk_38_method_20_code (2 : Nat) (Option.some (Jvm.ClassFile.FieldType.object "java/lang/Object")), Jvm.Cond.code ({ cls := "java/util/Objects", name := "checkIndex", desc := "(II)I" } : Jvm.MethodName) jdk_31_method_17_code (2 : Nat) (Option.some Jvm.ClassFile.FieldType.int), Jvm.Cond.code ({ cls := "jdk/internal/util/Preconditions", name := "checkIndex", desc := "(IILjava/util/function/BiFunction;)I" } : Jvm.MethodName) jdk_41_method_11_code (3 : Nat) (Option.some Jvm.ClassFile.FieldType.int), Jvm.Cond.code ({ cls := "java/util/ArrayList", name := "elementData", desc := "(I)Ljava/lang/Object;" } : Jvm.MethodName) jdk_38_method_18_code (2 : Nat) (Option.some (Jvm.ClassFile.FieldType.object "java/lang/Object")), Jvm.Cond.code ({ cls := "java/lang/String", name := "equals", desc := "(Ljava/lang/Object;)Z" } : Jvm.MethodName) jdk_42_method_66_code (3 : Nat) (Option.some Jvm.ClassFile.FieldType.boolean)]
set_option maxRecDepth 65536 in
theorem codes_eq : words1.filter isCode = codes1 := rfl
theorem w_codes : ∀ c ∈ words1.filter isCode, c.before args0 about1 = true := by
  rw [codes_eq]
  intro c hc
  simp only [codes1, List.mem_cons, List.not_mem_nil, or_false] at hc
  rcases hc with rfl | rfl | rfl | rfl | rfl | rfl | rfl | rfl | rfl | rfl | rfl | rfl | rfl | rfl | rfl | rfl | rfl | rfl | rfl | rfl | rfl
  · exact w_c0
  · exact w_c1
  · exact w_c2
  · exact w_c3
  · exact w_c4
  · exact w_c5
  · exact w_c6
  · exact w_c7
  · exact w_c8
  · exact w_c9
  · exact w_c10
  · exact w_c11
  · exact w_c12
  · exact w_c13
  · exact w_c14
  · exact w_c15
  · exact w_c16
  · exact w_c17
  · exact w_c18
  · exact w_c19
  · exact w_c20
set_option maxRecDepth 65536 in
theorem w_t1 : (words1.take 24).all (fun c => isCode c || c.before args0 about1) = true := by decide +kernel
set_option maxRecDepth 65536 in
theorem w_t2 : ((words1.drop 24).take 24).all (fun c => isCode c || c.before args0 about1) = true := by decide +kernel
set_option maxRecDepth 65536 in
theorem w_t3 : (((words1.drop 24).drop 24).take 24).all (fun c => isCode c || c.before args0 about1) = true := by decide +kernel
set_option maxRecDepth 65536 in
theorem w_t4 : ((((words1.drop 24).drop 24).drop 24).take 24).all (fun c => isCode c || c.before args0 about1) = true := by decide +kernel
set_option maxRecDepth 65536 in
theorem w_t5 : (((((words1.drop 24).drop 24).drop 24).drop 24).take 24).all (fun c => isCode c || c.before args0 about1) = true := by decide +kernel
set_option maxRecDepth 65536 in
theorem w_t6 : (((((words1.drop 24).drop 24).drop 24).drop 24).drop 24).all (fun c => isCode c || c.before args0 about1) = true := by decide +kernel
theorem w_tables : (allAtoms (Jvm.Cond.code x code maxLocals ret :: tables_1)).before args0 about1 = true := by
  rw [allAtoms_all]
  show words1.all (fun c => c.before args0 about1) = true
  refine all_split ?_ w_codes
  rw [← List.take_append_drop 24 words1, List.all_append, w_t1, ← List.take_append_drop 24 (words1.drop 24), List.all_append, w_t2, ← List.take_append_drop 24 ((words1.drop 24).drop 24), List.all_append, w_t3, ← List.take_append_drop 24 (((words1.drop 24).drop 24).drop 24), List.all_append, w_t4, ← List.take_append_drop 24 ((((words1.drop 24).drop 24).drop 24).drop 24), List.all_append, w_t5, w_t6]
  rfl
set_option maxRecDepth 65536 in
theorem w_rest : rest_1_c.before args0 about1 = true := by decide +kernel
set_option maxRecDepth 65536 in
theorem w_case : (Jvm.Cond.and given_1 narrow_1).before args0 about1 = true := by decide +kernel
theorem w_applies : (headSpec (Jvm.Cond.code x code maxLocals ret :: tables_1) room_1).applies x e0.platform about1 = true :=
  (Spec.applies_iff w_frames).mpr ⟨w_running, w_runnable, w_alone, w_named, w_hears, w_ripe, w_room, w_tables⟩
theorem atStart : AtStart classFile x code maxLocals ret World_1 tables_1 room_1 Calls_1 rest_1 Pre_1 launch0 p0 e0 about1 theMethod args0 below0 :=
  ⟨lists_1, trivial, launch0.admits_env _ _ _, launch0.least_env, fairChoices_fair.cas, fairChoices_fair.clock, w_frames, w_args, w_heap, w_applies, trivial, w_rest, w_case⟩
end start1
theorem witness_1 : WitnessClaimed_1 := ⟨start1.p0, start1.e0, start1.about1, start1.theMethod, start1.args0, start1.below0, start1.atStart⟩
end Jvm.Pilot.@@N@@
