import JvmDerived
import JvmDerived.Pilot.@@N@@Statement
import JvmDerived.Pilot.@@N@@Code
set_option linter.unusedVariables false
set_option linter.unusedSimpArgs false
namespace Jvm.RoadKit
open Sem ClassFile Op Lib Jvm.Stand Jvm.Free Jvm.LawKit
section New
variable {p : Program} {l : Launch} {e : Env} {R : Room} {s : State} {m : MethodId} {args : Array Value} {below : List Frame} {meth : Method} {c : Code} {T : State} {locs : List Loc} {cells slots : Nat}
theorem retI (X : Stand p l e R s m args below meth c T locs cells slots) (hx : p.tables.exec = Jvm.exec) {pc : Nat} {Ls : Array Slot} {z : Int32} {rest : List Value} (hret : meth.sig.returnType = some .int) (hd : decode c.code pc = .ok (.ireturn, 1)) {fs : List Frame}
    (hl : ∀ (f : JFrame) (acts : List Action), f.method = m → f.locked = none → f.entered = [] → (doReturn e (T.setTop f) acts (some (.int z))).1 = T.setFrames fs) : Steps p.tables e below (T.setTop (mkF m pc Ls (.int z :: rest))) (T.setFrames fs) := by
  have hm' : T.vm.method? m = some meth := X.method'
  have hn : narrow .int (.int z) = .int z := rfl
  show Steps p.tables e below (T.setTop { method := m, pc := pc, locals := Ls, stack := _ :: rest, locked := none }) _
  jvm_step X.here [X.here.top, hx, hd, hm', hret, hn]
  first | (intro acts; rw [hl _ acts rfl rfl rfl]) | rw [hl _ _ rfl rfl rfl]
  exact Steps.refl _
end New
end Jvm.RoadKit
@@BLOCK:NumsL.lean.txt@@
namespace Jvm.Pilot.@@N@@
open Jvm Jvm.ClassFile Sem Op Lib Jvm.Free Jvm.Stand Jvm.LawKit Jvm.RoadKit Bundle Jvm.Pilot.@@N@@.Jvm.D
/-- from S the run comes to an end that says Q -/
def own_Go (p : Program) (e : Env) (below : List Frame) (s : State) (Q : Option Value → Heap → List Loc → Prop) (c n : Nat) (S : State) : Prop :=
  ∃ s₂ o, Steps p.tables e below S s₂ ∧ s₂.status = .running ∧ Ended s₂ below o ∧ ∃ v L, o = .returned v ∧ Q v s₂.heap L ∧ FrameEnd s o s₂ L c n
theorem own_go {p : Program} {e : Env} {below : List Frame} {s : State} {Q : Option Value → Heap → List Loc → Prop} {c n : Nat} {S S' : State} (st : ∀ t, Steps p.tables e below S' t → Steps p.tables e below S t) (k : own_Go p e below s Q c n S') : own_Go p e below s Q c n S := by
  obtain ⟨s₂, o, h, r⟩ := k
  exact ⟨s₂, o, st _ h, r⟩
theorem own_goT {p : Program} {e : Env} {below : List Frame} {s : State} {Q : Option Value → Heap → List Loc → Prop} {c n : Nat} {S S' : State} (st : Steps p.tables e below S S') (k : own_Go p e below s Q c n S') : own_Go p e below s Q c n S := own_go (fun _ h => st.trans h) k
theorem own_end {p : Program} {e : Env} {below : List Frame} {s : State} {Q : Option Value → Heap → List Loc → Prop} {c n : Nat} {S s₂ : State} {v : Option Value} {L : List Loc} (h : Steps p.tables e below S s₂) (hrun : s₂.status = .running) (he : Ended s₂ below (.returned v)) (hq : Q v s₂.heap L) (hW : s.WarmedH s₂.vm) (hs : s.sameButNew ({ s₂ with vm := s.vm } : State) L c n) : own_Go p e below s Q c n S :=
  ⟨s₂, _, h, hrun, he, v, L, rfl, hq, ⟨_, rfl⟩, hW, hs⟩
/-- an array of known values, its class's number unsaid -/
def own_Arv (Z : State) (h : Heap) (a : Addr) (ty : FieldType) (n : Int32) (vs : List Value) (d : Value) : Prop := ∃ k, Arv Z h a k ty n vs d
theorem own_Arv.lt {Z : State} {h : Heap} {a : Addr} {ty : FieldType} {n : Int32} {vs : List Value} {d : Value} (F : own_Arv Z h a ty n vs d) : a < h.size := by obtain ⟨k, F⟩ := F; exact F.lt
theorem own_Arv.ext {Z : State} {h h' : Heap} {a : Addr} {ty : FieldType} {n : Int32} {vs : List Value} {d : Value} (F : own_Arv Z h a ty n vs d) (E : Ext h h') : own_Arv Z h' a ty n vs d := by obtain ⟨k, F⟩ := F; exact ⟨k, F.ext E⟩
theorem own_Arv.other {Z : State} {h h' : Heap} {a b : Addr} {sl : Nat} {v : Value} {ty : FieldType} {n : Int32} {vs : List Value} {d : Value} (F : own_Arv Z h b ty n vs d) (W : Wr h h' a sl v) (q : b ≠ a) : own_Arv Z h' b ty n vs d := by obtain ⟨k, F⟩ := F; exact ⟨k, F.other W q⟩
theorem own_Arv.keep {Z : State} {h h' : Heap} {a : Addr} {ws : List Addr} {ty : FieldType} {n : Int32} {vs : List Value} {d : Value} (F : own_Arv Z h a ty n vs d) (K : Keep h h' ws) (q : a ∉ ws) : own_Arv Z h' a ty n vs d := by obtain ⟨k, F⟩ := F; exact ⟨k, F.keep K q⟩
theorem own_plain {Z : State} {h : Heap} {a : Addr} {C : String} (F : Exa Z h a C) : ∃ c : Cell, h[a]? = some c ∧ c.vm.isStatics = false := by obtain ⟨c, k, h1, -, -, h4, -⟩ := F; exact ⟨c, h1, h4⟩
theorem own_sta_keep {Z : State} {h h' : Heap} {ws : List Addr} {C n d : String} {v : Value} (F : Sta Z h C n d v) (K : Keep h h' ws) (q : ∀ x ∈ ws, ∃ c : Cell, h[x]? = some c ∧ c.vm.isStatics = false) : Sta Z h' C n d v := by
  obtain ⟨cf, i, k, f, st, cell, h1, h2, h3, h4, h5, h6, h7⟩ := F
  refine ⟨cf, i, k, f, st, cell, h1, h2, h3, h4, K.2.1 st cell h5 fun hm => ?_, h6, h7⟩
  obtain ⟨c, g1, g2⟩ := q st hm
  cases h5.symm.trans g1
  rw [h6] at g2; cases g2
theorem own_ins_keep {Z : State} {h h' : Heap} {ws : List Addr} {a : Addr} {C : String} {b : Bool} (F : Ins Z h a C b) (K : Keep h h' ws) : Ins Z h' a C b := by
  obtain ⟨cell, cT, h1, h2, h3⟩ := F
  obtain ⟨c', g1, g2, g3, -⟩ := K.2.2 a cell h1
  exact ⟨c', cT, g1, h2, by rw [g2, g3]; exact h3⟩
/-- an array of which the length alone is known -/
def own_Len (Z : State) (h : Heap) (a : Addr) (ty : FieldType) (n : Int32) : Prop := ∃ c : Cell, Arr Z h a c ty ∧ c.slots.size = n.toNatClampNeg ∧ ¬ n < 0
theorem own_Len.lt {Z : State} {h : Heap} {a : Addr} {ty : FieldType} {n : Int32} (F : own_Len Z h a ty n) : a < h.size := by obtain ⟨c, A, -⟩ := F; exact A.lt
theorem own_Len.new {Z : State} {h : Heap} {a : Addr} {k : ClassId} {ty : FieldType} {n : Int32} (A : Arr Z h a (newA k ty n) ty) (q : ¬ n < 0) : own_Len Z h a ty n := ⟨_, A, sz_new _ _ _, q⟩
theorem own_Len.ext {Z : State} {h h' : Heap} {a : Addr} {ty : FieldType} {n : Int32} (F : own_Len Z h a ty n) (E : Ext h h') : own_Len Z h' a ty n := by obtain ⟨c, A, r⟩ := F; exact ⟨c, A.ext E, r⟩
theorem own_Len.other {Z : State} {h h' : Heap} {a b : Addr} {sl : Nat} {v : Value} {ty : FieldType} {n : Int32} (F : own_Len Z h b ty n) (W : Wr h h' a sl v) (q : b ≠ a) : own_Len Z h' b ty n := by obtain ⟨c, A, r⟩ := F; exact ⟨c, A.other W q, r⟩
theorem own_Len.keep {Z : State} {h h' : Heap} {a : Addr} {ws : List Addr} {ty : FieldType} {n : Int32} (F : own_Len Z h a ty n) (K : Keep h h' ws) (q : a ∉ ws) : own_Len Z h' a ty n := by obtain ⟨c, A, r⟩ := F; exact ⟨c, ⟨K.2.1 a c A.1 q, A.2⟩, r⟩
theorem own_unt_keep {h h' : Heap} {a : Addr} {ws : List Addr} (F : Unt h a) (K : Keep h h' ws) (q : a ∉ ws) : Unt h' a := by obtain ⟨c, h1, r⟩ := F; exact ⟨c, K.2.1 a c h1 q, r⟩
theorem own_unt_lt {h : Heap} {a : Addr} (F : Unt h a) : a < h.size := by obtain ⟨c, h1, -⟩ := F; exact (Array.getElem?_eq_some_iff.mp h1).1
/-- an array of references, of known values, its component's class C -/
def own_ArvR (Z : State) (h : Heap) (a : Addr) (C : String) (n : Int32) (vs : List Value) : Prop := ∃ k, Arv Z h a k (.object C) n vs .null ∧ Ovr Z k C
theorem own_ArvR.lt {Z : State} {h : Heap} {a : Addr} {C : String} {n : Int32} {vs : List Value} (F : own_ArvR Z h a C n vs) : a < h.size := by obtain ⟨k, F, -⟩ := F; exact F.lt
theorem own_ArvR.ext {Z : State} {h h' : Heap} {a : Addr} {C : String} {n : Int32} {vs : List Value} (F : own_ArvR Z h a C n vs) (E : Ext h h') : own_ArvR Z h' a C n vs := by obtain ⟨k, F, O⟩ := F; exact ⟨k, F.ext E, O⟩
theorem own_ArvR.other {Z : State} {h h' : Heap} {a b : Addr} {sl : Nat} {v : Value} {C : String} {n : Int32} {vs : List Value} (F : own_ArvR Z h b C n vs) (W : Wr h h' a sl v) (q : b ≠ a) : own_ArvR Z h' b C n vs := by obtain ⟨k, F, O⟩ := F; exact ⟨k, F.other W q, O⟩
theorem own_ArvR.keep {Z : State} {h h' : Heap} {a : Addr} {ws : List Addr} {C : String} {n : Int32} {vs : List Value} (F : own_ArvR Z h a C n vs) (K : Keep h h' ws) (q : a ∉ ws) : own_ArvR Z h' a C n vs := by obtain ⟨k, F, O⟩ := F; exact ⟨k, F.keep K q, O⟩
theorem own_plainB {Z : State} {h : Heap} {a : Addr} {C : String} {n : Int32} {vs : List Value} (F : own_ArvR Z h a C n vs) : ∃ c : Cell, h[a]? = some c ∧ c.vm.isStatics = false := by obtain ⟨k, ⟨c, A, -⟩, -⟩ := F; exact ⟨c, A.1, A.plain⟩
theorem own_plainA {Z : State} {h : Heap} {a : Addr} {ty : FieldType} {n : Int32} {vs : List Value} {d : Value} (F : own_Arv Z h a ty n vs d) : ∃ c : Cell, h[a]? = some c ∧ c.vm.isStatics = false := by obtain ⟨k, c, A, -⟩ := F; exact ⟨c, A.1, A.plain⟩
theorem own_plainL {Z : State} {h : Heap} {a : Addr} {ty : FieldType} {n : Int32} (F : own_Len Z h a ty n) : ∃ c : Cell, h[a]? = some c ∧ c.vm.isStatics = false := by obtain ⟨c, A, -⟩ := F; exact ⟨c, A.1, A.plain⟩
theorem own_neA {Z : State} {h : Heap} {x b : Addr} {C : String} {a0 : Array Value} {m : Nat} {ty : FieldType} {n : Int32} {vs : List Value} {d : Value} (E : Exa Z h x C) (F : own_Arv Z h b ty n vs d) (w : (Jvm.Cond.instantiable C m).before a0 Z = true) : x ≠ b := by obtain ⟨k, c, A, -⟩ := F; exact ne_arr E w A
theorem own_neL {Z : State} {h : Heap} {x b : Addr} {C : String} {a0 : Array Value} {m : Nat} {ty : FieldType} {n : Int32} (E : Exa Z h x C) (F : own_Len Z h b ty n) (w : (Jvm.Cond.instantiable C m).before a0 Z = true) : x ≠ b := by obtain ⟨c, A, -⟩ := F; exact ne_arr E w A
theorem own_neB {Z : State} {h : Heap} {x b : Addr} {C D : String} {a0 : Array Value} {m : Nat} {n : Int32} {vs : List Value} (E : Exa Z h x C) (F : own_ArvR Z h b D n vs) (w : (Jvm.Cond.instantiable C m).before a0 Z = true) : x ≠ b := by obtain ⟨k, ⟨c, A, -⟩, -⟩ := F; exact ne_arr E w A

theorem own_ns_root {Z : State} {a0 : Array Value} {O K : String} {t : ClassId} (w : (Jvm.Cond.noSuperclass O).before a0 Z = true) (g1 : Z.vm.findClass K = some t) (hn : O ≠ K) : NS Z O K := by
  obtain ⟨c, k, h1, h2, h3, -, -⟩ := Cond.noSuperclass_spec w
  have ne := ids_ne h1 g1 hn
  refine ⟨c, t, h1, g1, fun fuel => ?_⟩
  cases fuel with
  | zero => rfl
  | succ f => simp [Vm.isSubclassAux, ne, h2, h3]
theorem own_no {Z : State} {a0 : Array Value} {C S O K : String} {n : Nat} (w1 : (Jvm.Cond.superclass C S).before a0 Z = true) (w2 : (Jvm.Cond.superclass S O).before a0 Z = true) (w3 : (Jvm.Cond.noSuperclass O).before a0 Z = true) (wk : (Jvm.Cond.instantiable K n).before a0 Z = true) (n1 : C ≠ K) (n2 : S ≠ K) (n3 : O ≠ K) :
    ∃ c t, Z.vm.findClass C = some c ∧ Z.vm.findClass K = some t ∧ Z.vm.assignable c t = false := by
  obtain ⟨t, k', i1, i2, i3, i4, -⟩ := Cond.instantiable_spec wk
  obtain ⟨c, t', h0, g0, m3⟩ := NS.step w1 (NS.step w2 (own_ns_root w3 i1 n3) n2) n1
  cases g0.symm.trans i1
  obtain ⟨p, k, kp, h1, h2, h3, h4, h5, -, h7⟩ := Cond.superclass_spec h0 w1
  have ne := ids_ne h0 g0 n1
  have i5 : k'.isInterface = false := by
    cases hb : k'.isInterface with
    | false => rfl
    | true => rw [hb] at i4; simp at i4
  refine ⟨c, t, h0, g0, ?_⟩
  show Z.vm.assignableAux (255 + 1) c t = false
  simp [Vm.assignableAux, ne, h2, i2, h5, i3, i5, Vm.isSubclass, m3]
/-- the cache of Long.valueOf, as it stood at the start -/
def own_Cache (Z : State) (w : Addr) : Prop := ∃ cl : Cell, Arr Z Z.heap w cl (.object "java/lang/Long") ∧ cl.slots.size = 256 ∧ ∀ j, j < 256 → ∃ b, cl.slots[j]? = some (.ref b) ∧ Exa Z Z.heap b "java/lang/Long"
theorem own_idx (q : Int64) (h1 : ¬ q < (-128 : Int64)) (h2 : ¬ (127 : Int64) < q) : ¬ (q.toInt32 + (128 : Int32)) < 0 ∧ (q.toInt32 + (128 : Int32)).toNatClampNeg < 256 := by
  rw [Int64.lt_iff_toInt_lt] at h1 h2
  have z1 : (-128 : Int64).toInt = -128 := rfl
  have z2 : (127 : Int64).toInt = 127 := rfl
  have z3 : (128 : Int32).toInt = 128 := rfl
  have z4 : (0 : Int32).toInt = 0 := rfl
  have e1 : q.toInt32.toInt = q.toInt := Jvm.Kit.i32_of_i64 (by omega) (by omega)
  have e2 : (q.toInt32 + (128 : Int32)).toInt = q.toInt + 128 := by rw [Jvm.Kit.i32_add (by omega) (by omega)]; omega
  have e3 : (q.toInt32 + (128 : Int32)).toNatClampNeg = (q.toInt32 + (128 : Int32)).toInt.toNat := rfl
  refine ⟨by rw [Int32.lt_iff_toInt_lt]; omega, by rw [e3, e2]; omega⟩
theorem d2_0 : decode jdk_29_method_70_code 0 = .ok (.lload_n 0, 1) := by decide +kernel
theorem d2_1 : decode jdk_29_method_70_code 1 = .ok (.lload_n 2, 1) := by decide +kernel
theorem d2_2 : decode jdk_29_method_70_code 2 = .ok (.lcmp, 1) := by decide +kernel
theorem d2_3 : decode jdk_29_method_70_code 3 = .ok (.ifCond .gt 7, 3) := by decide +kernel
theorem d2_10 : decode jdk_29_method_70_code 10 = .ok (.lload_n 2, 1) := by decide +kernel
theorem d2_11 : decode jdk_29_method_70_code 11 = .ok (.lreturn, 1) := by decide +kernel
theorem d2_6 : decode jdk_29_method_70_code 6 = .ok (.lload_n 0, 1) := by decide +kernel
theorem d2_7 : decode jdk_29_method_70_code 7 = .ok (.goto 4, 3) := by decide +kernel
theorem ef_minL (m : MethodId) (x0 : Int64) (x1 : Int64) : entryFrame m #[(.long x0), (.long x1)] 4 = mkF m 0 #[.val (.long x0), .second, .val (.long x1), .second] [] := by first | (simp [entryFrame, mkF, argsToLocals, Value.category]; done) | rfl
def minL_r (q0 : Int64) (q1 : Int64) : Int64 := (if q1 < q0 then q1 else q0)
def QminL (Z : State) (q0 : Int64) (q1 : Int64) (h0 : Heap) (n0 : Nat) (v : Option Value) (h : Heap) (L : List Loc) : Prop := v = some (.long (minL_r q0 q1)) ∧ Fr n0 L ∧ h = h0
set_option maxRecDepth 65536 in
set_option maxHeartbeats 40000000 in
theorem minL (l : Launch) (Z : State) (a0 : Array Value) (hw : ∀ d ∈ tables_1, d.before a0 Z = true) (ws : List Jvm.Cond) (q0 : Int64) (q1 : Int64) (h0 : Heap) (n0 : Nat) (Z0 : n0 ≤ h0.size) :
    MetFree l (⟨"java/lang/Math", "min", "(JJ)J"⟩ : MethodName) (head1 (Jvm.Cond.code (⟨"java/lang/Math", "min", "(JJ)J"⟩ : MethodName) jdk_29_method_70_code 4 (some .long) :: ws) ({ frames := 0, cells := 0, slots := 0, locals := 0 } : Room)) (fun a U => a = #[(.long q0), (.long q1)] ∧ Z.Warmed39 U.vm ∧ U.heap = h0) (fun _ _ _ _ _ => True) (fun _ U o U' => ∃ v L, o = .returned v ∧ QminL Z q0 q1 h0 n0 v U'.heap L ∧ FrameEnd U o U' L ({ frames := 0, cells := 0, slots := 0, locals := 0 } : Room).cells ({ frames := 0, cells := 0, slots := 0, locals := 0 } : Room).slots) := by
  refine MetFree.of_bodySF (Jvm.Free.JP.mathPlain rfl (by decide +kernel)) hisR ?_
  intro p e s m args below meth c s₁ Bd hml0 hP hK
  obtain ⟨rfl, hZ, hh⟩ := hP
  have hx := Bd.exec
  have hby := Bd.bytes
  have hml : c.maxLocals = 4 := hml0
  have hown : s.vm.findClass "java/lang/Math" = some m.cls := findClass_of_methodNamed Bd.named
  have hnm := (name_of_methodNamed Bd.named Bd.method).1
  have X0 : Stand p l e ({ frames := 0, cells := 0, slots := 0, locals := 0 } : Room) s m #[(.long q0), (.long q1)] below meth c s₁ [] 0 0 := Stand.of_body Bd
  have e0 : s₁.heap = h0 := by rw [← hh, Bd.state]; rfl
  have N0 := Fr.nil n0
  show own_Go p e below s (QminL Z q0 q1 h0 n0) ({ frames := 0, cells := 0, slots := 0, locals := 0 } : Room).cells ({ frames := 0, cells := 0, slots := 0, locals := 0 } : Room).slots (s₁.setTop (entryFrame m #[(.long q0), (.long q1)] 4))
  rw [ef_minL m q0 q1]
  have K0 : Keep h0 h0 [] := Keep.refl h0 []
  refine own_go (S' := s₁.setTop (mkF m 3 #[.val (.long q0), .second, .val (.long q1), .second] [(.int (Jvm.Free.XT.cmpL q0 q1))])) (fun t k => ?_) ?_
  · show Steps p.tables e below (s₁.setTop (mkF m 0 #[.val (.long q0), .second, .val (.long q1), .second] [])) t
    refine XS.lloadN X0.here hx rfl (hb hby d2_0) rfl ?_
    show Steps p.tables e below (s₁.setTop (mkF m 1 #[.val (.long q0), .second, .val (.long q1), .second] [(.long q0)])) t
    refine XS.lloadN X0.here hx rfl (hb hby d2_1) rfl ?_
    show Steps p.tables e below (s₁.setTop (mkF m 2 #[.val (.long q0), .second, .val (.long q1), .second] [(.long q1), (.long q0)])) t
    refine XS.lcmp X0.here hx rfl (hb hby d2_2) rfl ?_
    exact k
  by_cases hc3 : q1 < q0
  · skip
    refine own_go (S' := s₁.setTop (mkF m 11 #[.val (.long q0), .second, .val (.long q1), .second] [(.long q1)])) (fun t k => ?_) ?_
    · show Steps p.tables e below (s₁.setTop (mkF m 3 #[.val (.long q0), .second, .val (.long q1), .second] [(.int (Jvm.Free.XT.cmpL q0 q1))])) t
      refine XS.ifYes X0.here hx rfl (pc0 := 3) (pc' := 10) rfl (hb hby d2_3) rfl (Jvm.Free.XT.ll_gt_t hc3) (by decide) (by decide) ?_
      show Steps p.tables e below (s₁.setTop (mkF m 10 #[.val (.long q0), .second, .val (.long q1), .second] [])) t
      refine XS.lloadN X0.here hx rfl (hb hby d2_10) rfl ?_
      exact k
    obtain ⟨fs, hr, hrun, hended, hW, hsame⟩ := X0.leave (v := some (.long q1)) (fun h => by rw [Bd.returns] at h; cases h)
    refine own_end (v := some (.long q1)) ?_ hrun hended ?_ hW (hsame.mono (by decide) (by decide))
    · show Steps p.tables e below (s₁.setTop (mkF m 11 #[.val (.long q0), .second, .val (.long q1), .second] [(.long q1)])) _
      jvm_step X0.here [X0.here.top, hx, (hb hby d2_11), X0.method', Bd.returns, narrow]
      first | (intro acts; rw [hr _ acts rfl rfl rfl]) | rw [hr _ _ rfl rfl rfl]
      exact Steps.refl _
    · show QminL Z q0 q1 h0 n0 _ s₁.heap _
      rw [e0]
      exact ⟨(by simp only [minL_r, if_pos hc3]), N0, rfl⟩
  · skip
    refine own_go (S' := s₁.setTop (mkF m 11 #[.val (.long q0), .second, .val (.long q1), .second] [(.long q0)])) (fun t k => ?_) ?_
    · show Steps p.tables e below (s₁.setTop (mkF m 3 #[.val (.long q0), .second, .val (.long q1), .second] [(.int (Jvm.Free.XT.cmpL q0 q1))])) t
      refine XS.ifNo X0.here hx rfl (hb hby d2_3) rfl (Jvm.Free.XT.ll_gt_f hc3) ?_
      show Steps p.tables e below (s₁.setTop (mkF m 6 #[.val (.long q0), .second, .val (.long q1), .second] [])) t
      refine XS.lloadN X0.here hx rfl (hb hby d2_6) rfl ?_
      show Steps p.tables e below (s₁.setTop (mkF m 7 #[.val (.long q0), .second, .val (.long q1), .second] [(.long q0)])) t
      refine XS.goto X0.here hx rfl (pc0 := 7) (pc' := 11) rfl (hb hby d2_7) (by decide) (by decide) ?_
      exact k
    obtain ⟨fs, hr, hrun, hended, hW, hsame⟩ := X0.leave (v := some (.long q0)) (fun h => by rw [Bd.returns] at h; cases h)
    refine own_end (v := some (.long q0)) ?_ hrun hended ?_ hW (hsame.mono (by decide) (by decide))
    · show Steps p.tables e below (s₁.setTop (mkF m 11 #[.val (.long q0), .second, .val (.long q1), .second] [(.long q0)])) _
      jvm_step X0.here [X0.here.top, hx, (hb hby d2_11), X0.method', Bd.returns, narrow]
      first | (intro acts; rw [hr _ acts rfl rfl rfl]) | rw [hr _ _ rfl rfl rfl]
      exact Steps.refl _
    · show QminL Z q0 q1 h0 n0 _ s₁.heap _
      rw [e0]
      exact ⟨(by simp only [minL_r, if_neg hc3]), N0, rfl⟩
theorem d3_0 : decode jdk_29_method_66_code 0 = .ok (.lload_n 0, 1) := by decide +kernel
theorem d3_1 : decode jdk_29_method_66_code 1 = .ok (.lload_n 2, 1) := by decide +kernel
theorem d3_2 : decode jdk_29_method_66_code 2 = .ok (.lcmp, 1) := by decide +kernel
theorem d3_3 : decode jdk_29_method_66_code 3 = .ok (.ifCond .lt 7, 3) := by decide +kernel
theorem d3_10 : decode jdk_29_method_66_code 10 = .ok (.lload_n 2, 1) := by decide +kernel
theorem d3_11 : decode jdk_29_method_66_code 11 = .ok (.lreturn, 1) := by decide +kernel
theorem d3_6 : decode jdk_29_method_66_code 6 = .ok (.lload_n 0, 1) := by decide +kernel
theorem d3_7 : decode jdk_29_method_66_code 7 = .ok (.goto 4, 3) := by decide +kernel
theorem ef_maxL (m : MethodId) (x0 : Int64) (x1 : Int64) : entryFrame m #[(.long x0), (.long x1)] 4 = mkF m 0 #[.val (.long x0), .second, .val (.long x1), .second] [] := by first | (simp [entryFrame, mkF, argsToLocals, Value.category]; done) | rfl
def maxL_r (q0 : Int64) (q1 : Int64) : Int64 := (if q0 < q1 then q1 else q0)
def QmaxL (Z : State) (q0 : Int64) (q1 : Int64) (h0 : Heap) (n0 : Nat) (v : Option Value) (h : Heap) (L : List Loc) : Prop := v = some (.long (maxL_r q0 q1)) ∧ Fr n0 L ∧ h = h0
set_option maxRecDepth 65536 in
set_option maxHeartbeats 40000000 in
theorem maxL (l : Launch) (Z : State) (a0 : Array Value) (hw : ∀ d ∈ tables_1, d.before a0 Z = true) (ws : List Jvm.Cond) (q0 : Int64) (q1 : Int64) (h0 : Heap) (n0 : Nat) (Z0 : n0 ≤ h0.size) :
    MetFree l (⟨"java/lang/Math", "max", "(JJ)J"⟩ : MethodName) (head1 (Jvm.Cond.code (⟨"java/lang/Math", "max", "(JJ)J"⟩ : MethodName) jdk_29_method_66_code 4 (some .long) :: ws) ({ frames := 0, cells := 0, slots := 0, locals := 0 } : Room)) (fun a U => a = #[(.long q0), (.long q1)] ∧ Z.Warmed39 U.vm ∧ U.heap = h0) (fun _ _ _ _ _ => True) (fun _ U o U' => ∃ v L, o = .returned v ∧ QmaxL Z q0 q1 h0 n0 v U'.heap L ∧ FrameEnd U o U' L ({ frames := 0, cells := 0, slots := 0, locals := 0 } : Room).cells ({ frames := 0, cells := 0, slots := 0, locals := 0 } : Room).slots) := by
  refine MetFree.of_bodySF (Jvm.Free.JP.mathPlain rfl (by decide +kernel)) hisR ?_
  intro p e s m args below meth c s₁ Bd hml0 hP hK
  obtain ⟨rfl, hZ, hh⟩ := hP
  have hx := Bd.exec
  have hby := Bd.bytes
  have hml : c.maxLocals = 4 := hml0
  have hown : s.vm.findClass "java/lang/Math" = some m.cls := findClass_of_methodNamed Bd.named
  have hnm := (name_of_methodNamed Bd.named Bd.method).1
  have X0 : Stand p l e ({ frames := 0, cells := 0, slots := 0, locals := 0 } : Room) s m #[(.long q0), (.long q1)] below meth c s₁ [] 0 0 := Stand.of_body Bd
  have e0 : s₁.heap = h0 := by rw [← hh, Bd.state]; rfl
  have N0 := Fr.nil n0
  show own_Go p e below s (QmaxL Z q0 q1 h0 n0) ({ frames := 0, cells := 0, slots := 0, locals := 0 } : Room).cells ({ frames := 0, cells := 0, slots := 0, locals := 0 } : Room).slots (s₁.setTop (entryFrame m #[(.long q0), (.long q1)] 4))
  rw [ef_maxL m q0 q1]
  have K0 : Keep h0 h0 [] := Keep.refl h0 []
  refine own_go (S' := s₁.setTop (mkF m 3 #[.val (.long q0), .second, .val (.long q1), .second] [(.int (Jvm.Free.XT.cmpL q0 q1))])) (fun t k => ?_) ?_
  · show Steps p.tables e below (s₁.setTop (mkF m 0 #[.val (.long q0), .second, .val (.long q1), .second] [])) t
    refine XS.lloadN X0.here hx rfl (hb hby d3_0) rfl ?_
    show Steps p.tables e below (s₁.setTop (mkF m 1 #[.val (.long q0), .second, .val (.long q1), .second] [(.long q0)])) t
    refine XS.lloadN X0.here hx rfl (hb hby d3_1) rfl ?_
    show Steps p.tables e below (s₁.setTop (mkF m 2 #[.val (.long q0), .second, .val (.long q1), .second] [(.long q1), (.long q0)])) t
    refine XS.lcmp X0.here hx rfl (hb hby d3_2) rfl ?_
    exact k
  by_cases hc3 : q0 < q1
  · skip
    refine own_go (S' := s₁.setTop (mkF m 11 #[.val (.long q0), .second, .val (.long q1), .second] [(.long q1)])) (fun t k => ?_) ?_
    · show Steps p.tables e below (s₁.setTop (mkF m 3 #[.val (.long q0), .second, .val (.long q1), .second] [(.int (Jvm.Free.XT.cmpL q0 q1))])) t
      refine XS.ifYes X0.here hx rfl (pc0 := 3) (pc' := 10) rfl (hb hby d3_3) rfl (Jvm.Free.XT.ll_lt_t hc3) (by decide) (by decide) ?_
      show Steps p.tables e below (s₁.setTop (mkF m 10 #[.val (.long q0), .second, .val (.long q1), .second] [])) t
      refine XS.lloadN X0.here hx rfl (hb hby d3_10) rfl ?_
      exact k
    obtain ⟨fs, hr, hrun, hended, hW, hsame⟩ := X0.leave (v := some (.long q1)) (fun h => by rw [Bd.returns] at h; cases h)
    refine own_end (v := some (.long q1)) ?_ hrun hended ?_ hW (hsame.mono (by decide) (by decide))
    · show Steps p.tables e below (s₁.setTop (mkF m 11 #[.val (.long q0), .second, .val (.long q1), .second] [(.long q1)])) _
      jvm_step X0.here [X0.here.top, hx, (hb hby d3_11), X0.method', Bd.returns, narrow]
      first | (intro acts; rw [hr _ acts rfl rfl rfl]) | rw [hr _ _ rfl rfl rfl]
      exact Steps.refl _
    · show QmaxL Z q0 q1 h0 n0 _ s₁.heap _
      rw [e0]
      exact ⟨(by simp only [maxL_r, if_pos hc3]), N0, rfl⟩
  · skip
    refine own_go (S' := s₁.setTop (mkF m 11 #[.val (.long q0), .second, .val (.long q1), .second] [(.long q0)])) (fun t k => ?_) ?_
    · show Steps p.tables e below (s₁.setTop (mkF m 3 #[.val (.long q0), .second, .val (.long q1), .second] [(.int (Jvm.Free.XT.cmpL q0 q1))])) t
      refine XS.ifNo X0.here hx rfl (hb hby d3_3) rfl (Jvm.Free.XT.ll_lt_f hc3) ?_
      show Steps p.tables e below (s₁.setTop (mkF m 6 #[.val (.long q0), .second, .val (.long q1), .second] [])) t
      refine XS.lloadN X0.here hx rfl (hb hby d3_6) rfl ?_
      show Steps p.tables e below (s₁.setTop (mkF m 7 #[.val (.long q0), .second, .val (.long q1), .second] [(.long q0)])) t
      refine XS.goto X0.here hx rfl (pc0 := 7) (pc' := 11) rfl (hb hby d3_7) (by decide) (by decide) ?_
      exact k
    obtain ⟨fs, hr, hrun, hended, hW, hsame⟩ := X0.leave (v := some (.long q0)) (fun h => by rw [Bd.returns] at h; cases h)
    refine own_end (v := some (.long q0)) ?_ hrun hended ?_ hW (hsame.mono (by decide) (by decide))
    · show Steps p.tables e below (s₁.setTop (mkF m 11 #[.val (.long q0), .second, .val (.long q1), .second] [(.long q0)])) _
      jvm_step X0.here [X0.here.top, hx, (hb hby d3_11), X0.method', Bd.returns, narrow]
      first | (intro acts; rw [hr _ acts rfl rfl rfl]) | rw [hr _ _ rfl rfl rfl]
      exact Steps.refl _
    · show QmaxL Z q0 q1 h0 n0 _ s₁.heap _
      rw [e0]
      exact ⟨(by simp only [maxL_r, if_neg hc3]), N0, rfl⟩
theorem d1_0 : decode method_2_code 0 = .ok (.lload_n 0, 1) := by decide +kernel
theorem d1_1 : decode method_2_code 1 = .ok (.lload_n 2, 1) := by decide +kernel
theorem d1_2 : decode method_2_code 2 = .ok (.invokestatic 7, 3) := by decide +kernel
theorem pd_19 : parseMethodDescriptor "(JJ)J" = some ⟨[.long, .long], some .long⟩ := by decide +kernel
theorem d1_5 : decode method_2_code 5 = .ok (.lstore 6, 2) := by decide +kernel
theorem d1_7 : decode method_2_code 7 = .ok (.lload_n 0, 1) := by decide +kernel
theorem d1_8 : decode method_2_code 8 = .ok (.lload_n 2, 1) := by decide +kernel
theorem d1_9 : decode method_2_code 9 = .ok (.invokestatic 13, 3) := by decide +kernel
theorem d1_12 : decode method_2_code 12 = .ok (.lstore 8, 2) := by decide +kernel
theorem d1_14 : decode method_2_code 14 = .ok (.lload 6, 2) := by decide +kernel
theorem d1_16 : decode method_2_code 16 = .ok (.ldc2_w 18, 3) := by decide +kernel
theorem d1_19 : decode method_2_code 19 = .ok (.lcmp, 1) := by decide +kernel
theorem d1_20 : decode method_2_code 20 = .ok (.ifCond .ne 18, 3) := by decide +kernel
theorem d1_23 : decode method_2_code 23 = .ok (.lload 6, 2) := by decide +kernel
theorem d1_25 : decode method_2_code 25 = .ok (.lconst 1, 1) := by decide +kernel
theorem d1_26 : decode method_2_code 26 = .ok (.ladd, 1) := by decide +kernel
theorem d1_27 : decode method_2_code 27 = .ok (.lstore 6, 2) := by decide +kernel
theorem d1_29 : decode method_2_code 29 = .ok (.lload 8, 2) := by decide +kernel
theorem d1_31 : decode method_2_code 31 = .ok (.lload 6, 2) := by decide +kernel
theorem d1_33 : decode method_2_code 33 = .ok (.invokestatic 13, 3) := by decide +kernel
theorem d1_36 : decode method_2_code 36 = .ok (.lstore 8, 2) := by decide +kernel
theorem d1_38 : decode method_2_code 38 = .ok (.lload 4, 2) := by decide +kernel
theorem d1_40 : decode method_2_code 40 = .ok (.lstore 10, 2) := by decide +kernel
theorem d1_42 : decode method_2_code 42 = .ok (.lload 10, 2) := by decide +kernel
theorem d1_44 : decode method_2_code 44 = .ok (.lload 6, 2) := by decide +kernel
theorem d1_46 : decode method_2_code 46 = .ok (.lconst 1, 1) := by decide +kernel
theorem d1_47 : decode method_2_code 47 = .ok (.lsub, 1) := by decide +kernel
theorem d1_48 : decode method_2_code 48 = .ok (.lcmp, 1) := by decide +kernel
theorem d1_49 : decode method_2_code 49 = .ok (.ifCond .ge 9, 3) := by decide +kernel
theorem d1_52 : decode method_2_code 52 = .ok (.lload 6, 2) := by decide +kernel
theorem d1_54 : decode method_2_code 54 = .ok (.lconst 1, 1) := by decide +kernel
theorem d1_55 : decode method_2_code 55 = .ok (.lsub, 1) := by decide +kernel
theorem d1_56 : decode method_2_code 56 = .ok (.lstore 10, 2) := by decide +kernel
theorem d1_58 : decode method_2_code 58 = .ok (.lload 10, 2) := by decide +kernel
theorem d1_60 : decode method_2_code 60 = .ok (.lload 8, 2) := by decide +kernel
theorem d1_62 : decode method_2_code 62 = .ok (.lcmp, 1) := by decide +kernel
theorem d1_63 : decode method_2_code 63 = .ok (.ifCond .le 7, 3) := by decide +kernel
theorem d1_66 : decode method_2_code 66 = .ok (.lload 8, 2) := by decide +kernel
theorem d1_68 : decode method_2_code 68 = .ok (.lstore 10, 2) := by decide +kernel
theorem d1_70 : decode method_2_code 70 = .ok (.iconst 3, 1) := by decide +kernel
theorem d1_71 : decode method_2_code 71 = .ok (.newarray .long, 2) := by decide +kernel
theorem d1_73 : decode method_2_code 73 = .ok (.dup, 1) := by decide +kernel
theorem d1_74 : decode method_2_code 74 = .ok (.iconst 0, 1) := by decide +kernel
theorem d1_75 : decode method_2_code 75 = .ok (.lload 6, 2) := by decide +kernel
theorem d1_77 : decode method_2_code 77 = .ok (.lastore, 1) := by decide +kernel
theorem d1_78 : decode method_2_code 78 = .ok (.dup, 1) := by decide +kernel
theorem d1_79 : decode method_2_code 79 = .ok (.iconst 1, 1) := by decide +kernel
theorem d1_80 : decode method_2_code 80 = .ok (.lload 8, 2) := by decide +kernel
theorem d1_82 : decode method_2_code 82 = .ok (.lastore, 1) := by decide +kernel
theorem d1_83 : decode method_2_code 83 = .ok (.dup, 1) := by decide +kernel
theorem d1_84 : decode method_2_code 84 = .ok (.iconst 2, 1) := by decide +kernel
theorem d1_85 : decode method_2_code 85 = .ok (.lload 10, 2) := by decide +kernel
theorem d1_87 : decode method_2_code 87 = .ok (.lastore, 1) := by decide +kernel
theorem d1_88 : decode method_2_code 88 = .ok (.areturn, 1) := by decide +kernel
theorem pn_70 : plainName "com/example/sure_sequence/suresequence/RegionRangeEqualsPinLaw" = true := by first | (simp [plainName, overriddenIn]; done) | decide +kernel
theorem ef_norm (m : MethodId) (x0 : Int64) (x1 : Int64) (x2 : Int64) : entryFrame m #[(.long x0), (.long x1), (.long x2)] 12 = mkF m 0 #[.val (.long x0), .second, .val (.long x1), .second, .val (.long x2), .second, .unset, .unset, .unset, .unset, .unset, .unset] [] := by first | (simp [entryFrame, mkF, argsToLocals, Value.category]; done) | rfl
def norm_a_x0__0 (q0 : Int64) (q1 : Int64) : Int64 := (if (minL_r q0 q1) = (-9223372036854775808 : Int64) then ((minL_r q0 q1) + (1 : Int64)) else (minL_r q0 q1))
def norm_a_x0__1 (q0 : Int64) (q1 : Int64) : Int64 := (if (minL_r q0 q1) = (-9223372036854775808 : Int64) then (maxL_r (maxL_r q0 q1) ((minL_r q0 q1) + (1 : Int64))) else (maxL_r q0 q1))
def norm_a_x0__2 (q0 : Int64) (q1 : Int64) (q2 : Int64) : Int64 := (if (minL_r q0 q1) = (-9223372036854775808 : Int64) then (if (maxL_r (maxL_r q0 q1) ((minL_r q0 q1) + (1 : Int64))) < (if q2 < (((minL_r q0 q1) + (1 : Int64)) - (1 : Int64)) then (((minL_r q0 q1) + (1 : Int64)) - (1 : Int64)) else q2) then (maxL_r (maxL_r q0 q1) ((minL_r q0 q1) + (1 : Int64))) else (if q2 < (((minL_r q0 q1) + (1 : Int64)) - (1 : Int64)) then (((minL_r q0 q1) + (1 : Int64)) - (1 : Int64)) else q2)) else (if (maxL_r q0 q1) < (if q2 < ((minL_r q0 q1) - (1 : Int64)) then ((minL_r q0 q1) - (1 : Int64)) else q2) then (maxL_r q0 q1) else (if q2 < ((minL_r q0 q1) - (1 : Int64)) then ((minL_r q0 q1) - (1 : Int64)) else q2)))
def Qnorm (Z : State) (q0 : Int64) (q1 : Int64) (q2 : Int64) (h0 : Heap) (n0 : Nat) (v : Option Value) (h : Heap) (L : List Loc) : Prop := ∃ x0_ : Addr, v = some (.ref x0_) ∧ Fr n0 L ∧ Keep h0 h [] ∧ h0.size ≤ x0_ ∧ own_Arv Z h x0_ .long (3 : Int32) [(.long (norm_a_x0__0 q0 q1)), (.long (norm_a_x0__1 q0 q1)), (.long (norm_a_x0__2 q0 q1 q2))] (.long (0 : Int64))
set_option maxRecDepth 65536 in
set_option maxHeartbeats 40000000 in
theorem norm (l : Launch) (Z : State) (a0 : Array Value) (hw : ∀ d ∈ tables_1, d.before a0 Z = true) (ws : List Jvm.Cond) (q0 : Int64) (q1 : Int64) (q2 : Int64) (h0 : Heap) (n0 : Nat) (Z0 : n0 ≤ h0.size) :
    MetFree l (⟨"com/example/sure_sequence/suresequence/RegionRangeEqualsPinLaw", "norm", "(JJJ)[J"⟩ : MethodName) (head1 (Jvm.Cond.code (⟨"com/example/sure_sequence/suresequence/RegionRangeEqualsPinLaw", "norm", "(JJJ)[J"⟩ : MethodName) method_2_code 12 (some (.array .long)) :: ws) ({ frames := 1, cells := 1, slots := 3, locals := 15 } : Room)) (fun a U => a = #[(.long q0), (.long q1), (.long q2)] ∧ Z.Warmed39 U.vm ∧ U.heap = h0) (fun _ _ _ _ _ => True) (fun _ U o U' => ∃ v L, o = .returned v ∧ Qnorm Z q0 q1 q2 h0 n0 v U'.heap L ∧ FrameEnd U o U' L ({ frames := 1, cells := 1, slots := 3, locals := 15 } : Room).cells ({ frames := 1, cells := 1, slots := 3, locals := 15 } : Room).slots) := by
  refine MetFree.of_bodySF (plainFor_of_name pn_70) hisR ?_
  intro p e s m args below meth c s₁ Bd hml0 hP hK
  obtain ⟨rfl, hZ, hh⟩ := hP
  have hx := Bd.exec
  have hby := Bd.bytes
  have hml : c.maxLocals = 12 := hml0
  have hown : s.vm.findClass "com/example/sure_sequence/suresequence/RegionRangeEqualsPinLaw" = some m.cls := findClass_of_methodNamed Bd.named
  have hnm := (name_of_methodNamed Bd.named Bd.method).1
  have X0 : Stand p l e ({ frames := 1, cells := 1, slots := 3, locals := 15 } : Room) s m #[(.long q0), (.long q1), (.long q2)] below meth c s₁ [] 0 0 := Stand.of_body Bd
  have e0 : s₁.heap = h0 := by rw [← hh, Bd.state]; rfl
  have N0 := Fr.nil n0
  show own_Go p e below s (Qnorm Z q0 q1 q2 h0 n0) ({ frames := 1, cells := 1, slots := 3, locals := 15 } : Room).cells ({ frames := 1, cells := 1, slots := 3, locals := 15 } : Room).slots (s₁.setTop (entryFrame m #[(.long q0), (.long q1), (.long q2)] 12))
  rw [ef_norm m q0 q1 q2]
  have K0 : Keep h0 h0 [] := Keep.refl h0 []
  refine own_go (S' := s₁.setTop (mkF m 2 #[.val (.long q0), .second, .val (.long q1), .second, .val (.long q2), .second, .unset, .unset, .unset, .unset, .unset, .unset] [(.long q1), (.long q0)])) (fun t k => ?_) ?_
  · show Steps p.tables e below (s₁.setTop (mkF m 0 #[.val (.long q0), .second, .val (.long q1), .second, .val (.long q2), .second, .unset, .unset, .unset, .unset, .unset, .unset] [])) t
    refine XS.lloadN X0.here hx rfl (hb hby d1_0) rfl ?_
    show Steps p.tables e below (s₁.setTop (mkF m 1 #[.val (.long q0), .second, .val (.long q1), .second, .val (.long q2), .second, .unset, .unset, .unset, .unset, .unset, .unset] [(.long q0)])) t
    refine XS.lloadN X0.here hx rfl (hb hby d1_1) rfl ?_
    exact k
  obtain ⟨_, _, ⟨T1, L1, kk1, nn1⟩, -, X1, ⟨Lc1, hQ1, l1, y1, z1⟩, st1⟩ := Jvm.LawKit.callS X0 hx (y := (⟨"java/lang/Math", "min", "(JJ)J"⟩ : MethodName)) hown (mvT hZ (hw _ (List.mem_of_getElem? (i := 4) rfl))) (mvT hZ (hw _ (List.mem_of_getElem? (i := 5) rfl))) (mvT hZ (hw _ (List.mem_of_getElem? (i := 6) rfl))) (mvT hZ (hw _ (List.mem_of_getElem? (i := 7) rfl))) (by decide) (backOf (W := 0) (minL l Z a0 hw [] q0 q1 h0 n0 Z0 ) hZ (hw _ (List.mem_of_getElem? (i := 7) rfl)) (hw _ (List.mem_of_getElem? (i := 6) rfl)) (by decide) (by decide)) (g := (mkF m 2 #[.val (.long q0), .second, .val (.long q1), .second, .val (.long q2), .second, .unset, .unset, .unset, .unset, .unset, .unset] [(.long q1), (.long q0)])) rfl (by rw [hml]; rfl) (argsL := [(.long q0), (.long q1)]) (rest := []) (lenOf pd_19 rfl) rfl (by show 2 * 0 + _ ≤ _; exact Nat.le_of_eq rfl) (hb hby d1_2) (fun _ _ => ⟨rfl, e0, (by decide : 0 + 0 ≤ _), (by decide : 0 + 0 ≤ _)⟩)
  dsimp only [Pt.U, Pt.locs, Pt.cells, Pt.slots] at X1 l1 y1 z1 st1 hQ1
  subst l1 y1 z1
  obtain ⟨rfl, N2, e1⟩ := hQ1
  have N4 := Fr.app N0 N2
  refine own_go st1 ?_
  refine own_go (S' := T1.setTop (mkF m 9 #[.val (.long q0), .second, .val (.long q1), .second, .val (.long q2), .second, .val (.long (minL_r q0 q1)), .second, .unset, .unset, .unset, .unset] [(.long q1), (.long q0)])) (fun t k => ?_) ?_
  · show Steps p.tables e below (T1.setTop (mkF m 5 #[.val (.long q0), .second, .val (.long q1), .second, .val (.long q2), .second, .unset, .unset, .unset, .unset, .unset, .unset] [(.long (minL_r q0 q1))])) t
    refine XS.lstore X1.here hx rfl (hb hby d1_5) rfl (l' := #[.val (.long q0), .second, .val (.long q1), .second, .val (.long q2), .second, .val (.long (minL_r q0 q1)), .second, .unset, .unset, .unset, .unset]) rfl ?_
    show Steps p.tables e below (T1.setTop (mkF m 7 #[.val (.long q0), .second, .val (.long q1), .second, .val (.long q2), .second, .val (.long (minL_r q0 q1)), .second, .unset, .unset, .unset, .unset] [])) t
    refine XS.lloadN X1.here hx rfl (hb hby d1_7) rfl ?_
    show Steps p.tables e below (T1.setTop (mkF m 8 #[.val (.long q0), .second, .val (.long q1), .second, .val (.long q2), .second, .val (.long (minL_r q0 q1)), .second, .unset, .unset, .unset, .unset] [(.long q0)])) t
    refine XS.lloadN X1.here hx rfl (hb hby d1_8) rfl ?_
    exact k
  obtain ⟨_, _, ⟨T5, L5, kk5, nn5⟩, -, X5, ⟨Lc5, hQ5, l5, y5, z5⟩, st5⟩ := Jvm.LawKit.callS X1 hx (y := (⟨"java/lang/Math", "max", "(JJ)J"⟩ : MethodName)) hown (mvT hZ (hw _ (List.mem_of_getElem? (i := 8) rfl))) (mvT hZ (hw _ (List.mem_of_getElem? (i := 9) rfl))) (mvT hZ (hw _ (List.mem_of_getElem? (i := 6) rfl))) (mvT hZ (hw _ (List.mem_of_getElem? (i := 10) rfl))) (by decide) (backOf (W := 0) (maxL l Z a0 hw [] q0 q1 h0 n0 Z0 ) hZ (hw _ (List.mem_of_getElem? (i := 10) rfl)) (hw _ (List.mem_of_getElem? (i := 6) rfl)) (by decide) (by decide)) (g := (mkF m 9 #[.val (.long q0), .second, .val (.long q1), .second, .val (.long q2), .second, .val (.long (minL_r q0 q1)), .second, .unset, .unset, .unset, .unset] [(.long q1), (.long q0)])) rfl (by rw [hml]; rfl) (argsL := [(.long q0), (.long q1)]) (rest := []) (lenOf pd_19 rfl) rfl (by show 2 * 0 + _ ≤ _; exact Nat.le_of_eq rfl) (hb hby d1_9) (fun _ _ => ⟨rfl, e1, (by decide : 0 + 0 ≤ _), (by decide : 0 + 0 ≤ _)⟩)
  dsimp only [Pt.U, Pt.locs, Pt.cells, Pt.slots] at X5 l5 y5 z5 st5 hQ5
  subst l5 y5 z5
  obtain ⟨rfl, N6, e5⟩ := hQ5
  have N8 := Fr.app N4 N6
  refine own_go st5 ?_
  refine own_go (S' := T5.setTop (mkF m 20 #[.val (.long q0), .second, .val (.long q1), .second, .val (.long q2), .second, .val (.long (minL_r q0 q1)), .second, .val (.long (maxL_r q0 q1)), .second, .unset, .unset] [(.int (Jvm.Free.XT.cmpL (minL_r q0 q1) (-9223372036854775808 : Int64)))])) (fun t k => ?_) ?_
  · show Steps p.tables e below (T5.setTop (mkF m 12 #[.val (.long q0), .second, .val (.long q1), .second, .val (.long q2), .second, .val (.long (minL_r q0 q1)), .second, .unset, .unset, .unset, .unset] [(.long (maxL_r q0 q1))])) t
    refine XS.lstore X5.here hx rfl (hb hby d1_12) rfl (l' := #[.val (.long q0), .second, .val (.long q1), .second, .val (.long q2), .second, .val (.long (minL_r q0 q1)), .second, .val (.long (maxL_r q0 q1)), .second, .unset, .unset]) rfl ?_
    show Steps p.tables e below (T5.setTop (mkF m 14 #[.val (.long q0), .second, .val (.long q1), .second, .val (.long q2), .second, .val (.long (minL_r q0 q1)), .second, .val (.long (maxL_r q0 q1)), .second, .unset, .unset] [])) t
    refine XS.lload X5.here hx rfl (hb hby d1_14) rfl ?_
    show Steps p.tables e below (T5.setTop (mkF m 16 #[.val (.long q0), .second, .val (.long q1), .second, .val (.long q2), .second, .val (.long (minL_r q0 q1)), .second, .val (.long (maxL_r q0 q1)), .second, .unset, .unset] [(.long (minL_r q0 q1))])) t
    refine X5.ldc2Long hx hown (mvT hZ (hw _ (List.mem_of_getElem? (i := 11) rfl))) (g := (mkF m 16 #[.val (.long q0), .second, .val (.long q1), .second, .val (.long q2), .second, .val (.long (minL_r q0 q1)), .second, .val (.long (maxL_r q0 q1)), .second, .unset, .unset] [(.long (minL_r q0 q1))])) rfl (hb hby d1_16) _ ?_
    show Steps p.tables e below (T5.setTop (mkF m 19 #[.val (.long q0), .second, .val (.long q1), .second, .val (.long q2), .second, .val (.long (minL_r q0 q1)), .second, .val (.long (maxL_r q0 q1)), .second, .unset, .unset] [(.long (-9223372036854775808 : Int64)), (.long (minL_r q0 q1))])) t
    refine XS.lcmp X5.here hx rfl (hb hby d1_19) rfl ?_
    exact k
  by_cases hc20 : (minL_r q0 q1) = (-9223372036854775808 : Int64)
  · skip
    refine own_go (S' := T5.setTop (mkF m 33 #[.val (.long q0), .second, .val (.long q1), .second, .val (.long q2), .second, .val (.long ((minL_r q0 q1) + (1 : Int64))), .second, .val (.long (maxL_r q0 q1)), .second, .unset, .unset] [(.long ((minL_r q0 q1) + (1 : Int64))), (.long (maxL_r q0 q1))])) (fun t k => ?_) ?_
    · show Steps p.tables e below (T5.setTop (mkF m 20 #[.val (.long q0), .second, .val (.long q1), .second, .val (.long q2), .second, .val (.long (minL_r q0 q1)), .second, .val (.long (maxL_r q0 q1)), .second, .unset, .unset] [(.int (Jvm.Free.XT.cmpL (minL_r q0 q1) (-9223372036854775808 : Int64)))])) t
      refine XS.ifNo X5.here hx rfl (hb hby d1_20) rfl (Jvm.Free.XT.ll_ne_f hc20) ?_
      show Steps p.tables e below (T5.setTop (mkF m 23 #[.val (.long q0), .second, .val (.long q1), .second, .val (.long q2), .second, .val (.long (minL_r q0 q1)), .second, .val (.long (maxL_r q0 q1)), .second, .unset, .unset] [])) t
      refine XS.lload X5.here hx rfl (hb hby d1_23) rfl ?_
      show Steps p.tables e below (T5.setTop (mkF m 25 #[.val (.long q0), .second, .val (.long q1), .second, .val (.long q2), .second, .val (.long (minL_r q0 q1)), .second, .val (.long (maxL_r q0 q1)), .second, .unset, .unset] [(.long (minL_r q0 q1))])) t
      refine XS.lconst X5.here hx rfl (hb hby d1_25) ?_
      show Steps p.tables e below (T5.setTop (mkF m 26 #[.val (.long q0), .second, .val (.long q1), .second, .val (.long q2), .second, .val (.long (minL_r q0 q1)), .second, .val (.long (maxL_r q0 q1)), .second, .unset, .unset] [(.long (1 : Int64)), (.long (minL_r q0 q1))])) t
      refine XS.ladd X5.here hx rfl (hb hby d1_26) rfl ?_
      show Steps p.tables e below (T5.setTop (mkF m 27 #[.val (.long q0), .second, .val (.long q1), .second, .val (.long q2), .second, .val (.long (minL_r q0 q1)), .second, .val (.long (maxL_r q0 q1)), .second, .unset, .unset] [(.long ((minL_r q0 q1) + (1 : Int64)))])) t
      refine XS.lstore X5.here hx rfl (hb hby d1_27) rfl (l' := #[.val (.long q0), .second, .val (.long q1), .second, .val (.long q2), .second, .val (.long ((minL_r q0 q1) + (1 : Int64))), .second, .val (.long (maxL_r q0 q1)), .second, .unset, .unset]) rfl ?_
      show Steps p.tables e below (T5.setTop (mkF m 29 #[.val (.long q0), .second, .val (.long q1), .second, .val (.long q2), .second, .val (.long ((minL_r q0 q1) + (1 : Int64))), .second, .val (.long (maxL_r q0 q1)), .second, .unset, .unset] [])) t
      refine XS.lload X5.here hx rfl (hb hby d1_29) rfl ?_
      show Steps p.tables e below (T5.setTop (mkF m 31 #[.val (.long q0), .second, .val (.long q1), .second, .val (.long q2), .second, .val (.long ((minL_r q0 q1) + (1 : Int64))), .second, .val (.long (maxL_r q0 q1)), .second, .unset, .unset] [(.long (maxL_r q0 q1))])) t
      refine XS.lload X5.here hx rfl (hb hby d1_31) rfl ?_
      exact k
    obtain ⟨_, _, ⟨T9, L9, kk9, nn9⟩, -, X9, ⟨Lc9, hQ9, l9, y9, z9⟩, st9⟩ := Jvm.LawKit.callS X5 hx (y := (⟨"java/lang/Math", "max", "(JJ)J"⟩ : MethodName)) hown (mvT hZ (hw _ (List.mem_of_getElem? (i := 8) rfl))) (mvT hZ (hw _ (List.mem_of_getElem? (i := 9) rfl))) (mvT hZ (hw _ (List.mem_of_getElem? (i := 6) rfl))) (mvT hZ (hw _ (List.mem_of_getElem? (i := 10) rfl))) (by decide) (backOf (W := 0) (maxL l Z a0 hw [] (maxL_r q0 q1) ((minL_r q0 q1) + (1 : Int64)) h0 n0 Z0 ) hZ (hw _ (List.mem_of_getElem? (i := 10) rfl)) (hw _ (List.mem_of_getElem? (i := 6) rfl)) (by decide) (by decide)) (g := (mkF m 33 #[.val (.long q0), .second, .val (.long q1), .second, .val (.long q2), .second, .val (.long ((minL_r q0 q1) + (1 : Int64))), .second, .val (.long (maxL_r q0 q1)), .second, .unset, .unset] [(.long ((minL_r q0 q1) + (1 : Int64))), (.long (maxL_r q0 q1))])) rfl (by rw [hml]; rfl) (argsL := [(.long (maxL_r q0 q1)), (.long ((minL_r q0 q1) + (1 : Int64)))]) (rest := []) (lenOf pd_19 rfl) rfl (by show 2 * 0 + _ ≤ _; exact Nat.le_of_eq rfl) (hb hby d1_33) (fun _ _ => ⟨rfl, e5, (by decide : 0 + 0 ≤ _), (by decide : 0 + 0 ≤ _)⟩)
    dsimp only [Pt.U, Pt.locs, Pt.cells, Pt.slots] at X9 l9 y9 z9 st9 hQ9
    subst l9 y9 z9
    obtain ⟨rfl, N10, e9⟩ := hQ9
    have N12 := Fr.app N8 N10
    refine own_go st9 ?_
    refine own_go (S' := T9.setTop (mkF m 49 #[.val (.long q0), .second, .val (.long q1), .second, .val (.long q2), .second, .val (.long ((minL_r q0 q1) + (1 : Int64))), .second, .val (.long (maxL_r (maxL_r q0 q1) ((minL_r q0 q1) + (1 : Int64)))), .second, .val (.long q2), .second] [(.int (Jvm.Free.XT.cmpL q2 (((minL_r q0 q1) + (1 : Int64)) - (1 : Int64))))])) (fun t k => ?_) ?_
    · show Steps p.tables e below (T9.setTop (mkF m 36 #[.val (.long q0), .second, .val (.long q1), .second, .val (.long q2), .second, .val (.long ((minL_r q0 q1) + (1 : Int64))), .second, .val (.long (maxL_r q0 q1)), .second, .unset, .unset] [(.long (maxL_r (maxL_r q0 q1) ((minL_r q0 q1) + (1 : Int64))))])) t
      refine XS.lstore X9.here hx rfl (hb hby d1_36) rfl (l' := #[.val (.long q0), .second, .val (.long q1), .second, .val (.long q2), .second, .val (.long ((minL_r q0 q1) + (1 : Int64))), .second, .val (.long (maxL_r (maxL_r q0 q1) ((minL_r q0 q1) + (1 : Int64)))), .second, .unset, .unset]) rfl ?_
      show Steps p.tables e below (T9.setTop (mkF m 38 #[.val (.long q0), .second, .val (.long q1), .second, .val (.long q2), .second, .val (.long ((minL_r q0 q1) + (1 : Int64))), .second, .val (.long (maxL_r (maxL_r q0 q1) ((minL_r q0 q1) + (1 : Int64)))), .second, .unset, .unset] [])) t
      refine XS.lload X9.here hx rfl (hb hby d1_38) rfl ?_
      show Steps p.tables e below (T9.setTop (mkF m 40 #[.val (.long q0), .second, .val (.long q1), .second, .val (.long q2), .second, .val (.long ((minL_r q0 q1) + (1 : Int64))), .second, .val (.long (maxL_r (maxL_r q0 q1) ((minL_r q0 q1) + (1 : Int64)))), .second, .unset, .unset] [(.long q2)])) t
      refine XS.lstore X9.here hx rfl (hb hby d1_40) rfl (l' := #[.val (.long q0), .second, .val (.long q1), .second, .val (.long q2), .second, .val (.long ((minL_r q0 q1) + (1 : Int64))), .second, .val (.long (maxL_r (maxL_r q0 q1) ((minL_r q0 q1) + (1 : Int64)))), .second, .val (.long q2), .second]) rfl ?_
      show Steps p.tables e below (T9.setTop (mkF m 42 #[.val (.long q0), .second, .val (.long q1), .second, .val (.long q2), .second, .val (.long ((minL_r q0 q1) + (1 : Int64))), .second, .val (.long (maxL_r (maxL_r q0 q1) ((minL_r q0 q1) + (1 : Int64)))), .second, .val (.long q2), .second] [])) t
      refine XS.lload X9.here hx rfl (hb hby d1_42) rfl ?_
      show Steps p.tables e below (T9.setTop (mkF m 44 #[.val (.long q0), .second, .val (.long q1), .second, .val (.long q2), .second, .val (.long ((minL_r q0 q1) + (1 : Int64))), .second, .val (.long (maxL_r (maxL_r q0 q1) ((minL_r q0 q1) + (1 : Int64)))), .second, .val (.long q2), .second] [(.long q2)])) t
      refine XS.lload X9.here hx rfl (hb hby d1_44) rfl ?_
      show Steps p.tables e below (T9.setTop (mkF m 46 #[.val (.long q0), .second, .val (.long q1), .second, .val (.long q2), .second, .val (.long ((minL_r q0 q1) + (1 : Int64))), .second, .val (.long (maxL_r (maxL_r q0 q1) ((minL_r q0 q1) + (1 : Int64)))), .second, .val (.long q2), .second] [(.long ((minL_r q0 q1) + (1 : Int64))), (.long q2)])) t
      refine XS.lconst X9.here hx rfl (hb hby d1_46) ?_
      show Steps p.tables e below (T9.setTop (mkF m 47 #[.val (.long q0), .second, .val (.long q1), .second, .val (.long q2), .second, .val (.long ((minL_r q0 q1) + (1 : Int64))), .second, .val (.long (maxL_r (maxL_r q0 q1) ((minL_r q0 q1) + (1 : Int64)))), .second, .val (.long q2), .second] [(.long (1 : Int64)), (.long ((minL_r q0 q1) + (1 : Int64))), (.long q2)])) t
      refine XS.lsub X9.here hx rfl (hb hby d1_47) rfl ?_
      show Steps p.tables e below (T9.setTop (mkF m 48 #[.val (.long q0), .second, .val (.long q1), .second, .val (.long q2), .second, .val (.long ((minL_r q0 q1) + (1 : Int64))), .second, .val (.long (maxL_r (maxL_r q0 q1) ((minL_r q0 q1) + (1 : Int64)))), .second, .val (.long q2), .second] [(.long (((minL_r q0 q1) + (1 : Int64)) - (1 : Int64))), (.long q2)])) t
      refine XS.lcmp X9.here hx rfl (hb hby d1_48) rfl ?_
      exact k
    refine own_go (S' := T9.setTop (mkF m 58 #[.val (.long q0), .second, .val (.long q1), .second, .val (.long q2), .second, .val (.long ((minL_r q0 q1) + (1 : Int64))), .second, .val (.long (maxL_r (maxL_r q0 q1) ((minL_r q0 q1) + (1 : Int64)))), .second, .val (.long (if q2 < (((minL_r q0 q1) + (1 : Int64)) - (1 : Int64)) then (((minL_r q0 q1) + (1 : Int64)) - (1 : Int64)) else q2)), .second] [])) (fun t k => ?_) ?_
    · show Steps p.tables e below (T9.setTop (mkF m 49 #[.val (.long q0), .second, .val (.long q1), .second, .val (.long q2), .second, .val (.long ((minL_r q0 q1) + (1 : Int64))), .second, .val (.long (maxL_r (maxL_r q0 q1) ((minL_r q0 q1) + (1 : Int64)))), .second, .val (.long q2), .second] [(.int (Jvm.Free.XT.cmpL q2 (((minL_r q0 q1) + (1 : Int64)) - (1 : Int64))))])) t
      by_cases hc49 : q2 < (((minL_r q0 q1) + (1 : Int64)) - (1 : Int64))
      · show Steps p.tables e below (T9.setTop (mkF m 49 #[.val (.long q0), .second, .val (.long q1), .second, .val (.long q2), .second, .val (.long ((minL_r q0 q1) + (1 : Int64))), .second, .val (.long (maxL_r (maxL_r q0 q1) ((minL_r q0 q1) + (1 : Int64)))), .second, .val (.long q2), .second] [(.int (Jvm.Free.XT.cmpL q2 (((minL_r q0 q1) + (1 : Int64)) - (1 : Int64))))])) t
        refine XS.ifNo X9.here hx rfl (hb hby d1_49) rfl (Jvm.Free.XT.ll_ge_f hc49) ?_
        show Steps p.tables e below (T9.setTop (mkF m 52 #[.val (.long q0), .second, .val (.long q1), .second, .val (.long q2), .second, .val (.long ((minL_r q0 q1) + (1 : Int64))), .second, .val (.long (maxL_r (maxL_r q0 q1) ((minL_r q0 q1) + (1 : Int64)))), .second, .val (.long q2), .second] [])) t
        refine XS.lload X9.here hx rfl (hb hby d1_52) rfl ?_
        show Steps p.tables e below (T9.setTop (mkF m 54 #[.val (.long q0), .second, .val (.long q1), .second, .val (.long q2), .second, .val (.long ((minL_r q0 q1) + (1 : Int64))), .second, .val (.long (maxL_r (maxL_r q0 q1) ((minL_r q0 q1) + (1 : Int64)))), .second, .val (.long q2), .second] [(.long ((minL_r q0 q1) + (1 : Int64)))])) t
        refine XS.lconst X9.here hx rfl (hb hby d1_54) ?_
        show Steps p.tables e below (T9.setTop (mkF m 55 #[.val (.long q0), .second, .val (.long q1), .second, .val (.long q2), .second, .val (.long ((minL_r q0 q1) + (1 : Int64))), .second, .val (.long (maxL_r (maxL_r q0 q1) ((minL_r q0 q1) + (1 : Int64)))), .second, .val (.long q2), .second] [(.long (1 : Int64)), (.long ((minL_r q0 q1) + (1 : Int64)))])) t
        refine XS.lsub X9.here hx rfl (hb hby d1_55) rfl ?_
        show Steps p.tables e below (T9.setTop (mkF m 56 #[.val (.long q0), .second, .val (.long q1), .second, .val (.long q2), .second, .val (.long ((minL_r q0 q1) + (1 : Int64))), .second, .val (.long (maxL_r (maxL_r q0 q1) ((minL_r q0 q1) + (1 : Int64)))), .second, .val (.long q2), .second] [(.long (((minL_r q0 q1) + (1 : Int64)) - (1 : Int64)))])) t
        refine XS.lstore X9.here hx rfl (hb hby d1_56) rfl (l' := #[.val (.long q0), .second, .val (.long q1), .second, .val (.long q2), .second, .val (.long ((minL_r q0 q1) + (1 : Int64))), .second, .val (.long (maxL_r (maxL_r q0 q1) ((minL_r q0 q1) + (1 : Int64)))), .second, .val (.long (((minL_r q0 q1) + (1 : Int64)) - (1 : Int64))), .second]) rfl ?_
        try simp only [if_pos hc49] at k
        try simp only [if_pos hc49]
        exact k
      · show Steps p.tables e below (T9.setTop (mkF m 49 #[.val (.long q0), .second, .val (.long q1), .second, .val (.long q2), .second, .val (.long ((minL_r q0 q1) + (1 : Int64))), .second, .val (.long (maxL_r (maxL_r q0 q1) ((minL_r q0 q1) + (1 : Int64)))), .second, .val (.long q2), .second] [(.int (Jvm.Free.XT.cmpL q2 (((minL_r q0 q1) + (1 : Int64)) - (1 : Int64))))])) t
        refine XS.ifYes X9.here hx rfl (pc0 := 49) (pc' := 58) rfl (hb hby d1_49) rfl (Jvm.Free.XT.ll_ge_t hc49) (by decide) (by decide) ?_
        try simp only [if_neg hc49] at k
        try simp only [if_neg hc49]
        exact k
    refine own_go (S' := T9.setTop (mkF m 63 #[.val (.long q0), .second, .val (.long q1), .second, .val (.long q2), .second, .val (.long ((minL_r q0 q1) + (1 : Int64))), .second, .val (.long (maxL_r (maxL_r q0 q1) ((minL_r q0 q1) + (1 : Int64)))), .second, .val (.long (if q2 < (((minL_r q0 q1) + (1 : Int64)) - (1 : Int64)) then (((minL_r q0 q1) + (1 : Int64)) - (1 : Int64)) else q2)), .second] [(.int (Jvm.Free.XT.cmpL (if q2 < (((minL_r q0 q1) + (1 : Int64)) - (1 : Int64)) then (((minL_r q0 q1) + (1 : Int64)) - (1 : Int64)) else q2) (maxL_r (maxL_r q0 q1) ((minL_r q0 q1) + (1 : Int64)))))])) (fun t k => ?_) ?_
    · show Steps p.tables e below (T9.setTop (mkF m 58 #[.val (.long q0), .second, .val (.long q1), .second, .val (.long q2), .second, .val (.long ((minL_r q0 q1) + (1 : Int64))), .second, .val (.long (maxL_r (maxL_r q0 q1) ((minL_r q0 q1) + (1 : Int64)))), .second, .val (.long (if q2 < (((minL_r q0 q1) + (1 : Int64)) - (1 : Int64)) then (((minL_r q0 q1) + (1 : Int64)) - (1 : Int64)) else q2)), .second] [])) t
      refine XS.lload X9.here hx rfl (hb hby d1_58) rfl ?_
      show Steps p.tables e below (T9.setTop (mkF m 60 #[.val (.long q0), .second, .val (.long q1), .second, .val (.long q2), .second, .val (.long ((minL_r q0 q1) + (1 : Int64))), .second, .val (.long (maxL_r (maxL_r q0 q1) ((minL_r q0 q1) + (1 : Int64)))), .second, .val (.long (if q2 < (((minL_r q0 q1) + (1 : Int64)) - (1 : Int64)) then (((minL_r q0 q1) + (1 : Int64)) - (1 : Int64)) else q2)), .second] [(.long (if q2 < (((minL_r q0 q1) + (1 : Int64)) - (1 : Int64)) then (((minL_r q0 q1) + (1 : Int64)) - (1 : Int64)) else q2))])) t
      refine XS.lload X9.here hx rfl (hb hby d1_60) rfl ?_
      show Steps p.tables e below (T9.setTop (mkF m 62 #[.val (.long q0), .second, .val (.long q1), .second, .val (.long q2), .second, .val (.long ((minL_r q0 q1) + (1 : Int64))), .second, .val (.long (maxL_r (maxL_r q0 q1) ((minL_r q0 q1) + (1 : Int64)))), .second, .val (.long (if q2 < (((minL_r q0 q1) + (1 : Int64)) - (1 : Int64)) then (((minL_r q0 q1) + (1 : Int64)) - (1 : Int64)) else q2)), .second] [(.long (maxL_r (maxL_r q0 q1) ((minL_r q0 q1) + (1 : Int64)))), (.long (if q2 < (((minL_r q0 q1) + (1 : Int64)) - (1 : Int64)) then (((minL_r q0 q1) + (1 : Int64)) - (1 : Int64)) else q2))])) t
      refine XS.lcmp X9.here hx rfl (hb hby d1_62) rfl ?_
      exact k
    refine own_go (S' := T9.setTop (mkF m 70 #[.val (.long q0), .second, .val (.long q1), .second, .val (.long q2), .second, .val (.long ((minL_r q0 q1) + (1 : Int64))), .second, .val (.long (maxL_r (maxL_r q0 q1) ((minL_r q0 q1) + (1 : Int64)))), .second, .val (.long (if (maxL_r (maxL_r q0 q1) ((minL_r q0 q1) + (1 : Int64))) < (if q2 < (((minL_r q0 q1) + (1 : Int64)) - (1 : Int64)) then (((minL_r q0 q1) + (1 : Int64)) - (1 : Int64)) else q2) then (maxL_r (maxL_r q0 q1) ((minL_r q0 q1) + (1 : Int64))) else (if q2 < (((minL_r q0 q1) + (1 : Int64)) - (1 : Int64)) then (((minL_r q0 q1) + (1 : Int64)) - (1 : Int64)) else q2))), .second] [])) (fun t k => ?_) ?_
    · show Steps p.tables e below (T9.setTop (mkF m 63 #[.val (.long q0), .second, .val (.long q1), .second, .val (.long q2), .second, .val (.long ((minL_r q0 q1) + (1 : Int64))), .second, .val (.long (maxL_r (maxL_r q0 q1) ((minL_r q0 q1) + (1 : Int64)))), .second, .val (.long (if q2 < (((minL_r q0 q1) + (1 : Int64)) - (1 : Int64)) then (((minL_r q0 q1) + (1 : Int64)) - (1 : Int64)) else q2)), .second] [(.int (Jvm.Free.XT.cmpL (if q2 < (((minL_r q0 q1) + (1 : Int64)) - (1 : Int64)) then (((minL_r q0 q1) + (1 : Int64)) - (1 : Int64)) else q2) (maxL_r (maxL_r q0 q1) ((minL_r q0 q1) + (1 : Int64)))))])) t
      by_cases hc63 : (maxL_r (maxL_r q0 q1) ((minL_r q0 q1) + (1 : Int64))) < (if q2 < (((minL_r q0 q1) + (1 : Int64)) - (1 : Int64)) then (((minL_r q0 q1) + (1 : Int64)) - (1 : Int64)) else q2)
      · show Steps p.tables e below (T9.setTop (mkF m 63 #[.val (.long q0), .second, .val (.long q1), .second, .val (.long q2), .second, .val (.long ((minL_r q0 q1) + (1 : Int64))), .second, .val (.long (maxL_r (maxL_r q0 q1) ((minL_r q0 q1) + (1 : Int64)))), .second, .val (.long (if q2 < (((minL_r q0 q1) + (1 : Int64)) - (1 : Int64)) then (((minL_r q0 q1) + (1 : Int64)) - (1 : Int64)) else q2)), .second] [(.int (Jvm.Free.XT.cmpL (if q2 < (((minL_r q0 q1) + (1 : Int64)) - (1 : Int64)) then (((minL_r q0 q1) + (1 : Int64)) - (1 : Int64)) else q2) (maxL_r (maxL_r q0 q1) ((minL_r q0 q1) + (1 : Int64)))))])) t
        refine XS.ifNo X9.here hx rfl (hb hby d1_63) rfl (Jvm.Free.XT.ll_le_f hc63) ?_
        show Steps p.tables e below (T9.setTop (mkF m 66 #[.val (.long q0), .second, .val (.long q1), .second, .val (.long q2), .second, .val (.long ((minL_r q0 q1) + (1 : Int64))), .second, .val (.long (maxL_r (maxL_r q0 q1) ((minL_r q0 q1) + (1 : Int64)))), .second, .val (.long (if q2 < (((minL_r q0 q1) + (1 : Int64)) - (1 : Int64)) then (((minL_r q0 q1) + (1 : Int64)) - (1 : Int64)) else q2)), .second] [])) t
        refine XS.lload X9.here hx rfl (hb hby d1_66) rfl ?_
        show Steps p.tables e below (T9.setTop (mkF m 68 #[.val (.long q0), .second, .val (.long q1), .second, .val (.long q2), .second, .val (.long ((minL_r q0 q1) + (1 : Int64))), .second, .val (.long (maxL_r (maxL_r q0 q1) ((minL_r q0 q1) + (1 : Int64)))), .second, .val (.long (if q2 < (((minL_r q0 q1) + (1 : Int64)) - (1 : Int64)) then (((minL_r q0 q1) + (1 : Int64)) - (1 : Int64)) else q2)), .second] [(.long (maxL_r (maxL_r q0 q1) ((minL_r q0 q1) + (1 : Int64))))])) t
        refine XS.lstore X9.here hx rfl (hb hby d1_68) rfl (l' := #[.val (.long q0), .second, .val (.long q1), .second, .val (.long q2), .second, .val (.long ((minL_r q0 q1) + (1 : Int64))), .second, .val (.long (maxL_r (maxL_r q0 q1) ((minL_r q0 q1) + (1 : Int64)))), .second, .val (.long (maxL_r (maxL_r q0 q1) ((minL_r q0 q1) + (1 : Int64)))), .second]) rfl ?_
        try simp only [if_pos hc63] at k
        try simp only [if_pos hc63]
        exact k
      · show Steps p.tables e below (T9.setTop (mkF m 63 #[.val (.long q0), .second, .val (.long q1), .second, .val (.long q2), .second, .val (.long ((minL_r q0 q1) + (1 : Int64))), .second, .val (.long (maxL_r (maxL_r q0 q1) ((minL_r q0 q1) + (1 : Int64)))), .second, .val (.long (if q2 < (((minL_r q0 q1) + (1 : Int64)) - (1 : Int64)) then (((minL_r q0 q1) + (1 : Int64)) - (1 : Int64)) else q2)), .second] [(.int (Jvm.Free.XT.cmpL (if q2 < (((minL_r q0 q1) + (1 : Int64)) - (1 : Int64)) then (((minL_r q0 q1) + (1 : Int64)) - (1 : Int64)) else q2) (maxL_r (maxL_r q0 q1) ((minL_r q0 q1) + (1 : Int64)))))])) t
        refine XS.ifYes X9.here hx rfl (pc0 := 63) (pc' := 70) rfl (hb hby d1_63) rfl (Jvm.Free.XT.ll_le_t hc63) (by decide) (by decide) ?_
        try simp only [if_neg hc63] at k
        try simp only [if_neg hc63]
        exact k
    refine own_go (S' := T9.setTop (mkF m 71 #[.val (.long q0), .second, .val (.long q1), .second, .val (.long q2), .second, .val (.long ((minL_r q0 q1) + (1 : Int64))), .second, .val (.long (maxL_r (maxL_r q0 q1) ((minL_r q0 q1) + (1 : Int64)))), .second, .val (.long (if (maxL_r (maxL_r q0 q1) ((minL_r q0 q1) + (1 : Int64))) < (if q2 < (((minL_r q0 q1) + (1 : Int64)) - (1 : Int64)) then (((minL_r q0 q1) + (1 : Int64)) - (1 : Int64)) else q2) then (maxL_r (maxL_r q0 q1) ((minL_r q0 q1) + (1 : Int64))) else (if q2 < (((minL_r q0 q1) + (1 : Int64)) - (1 : Int64)) then (((minL_r q0 q1) + (1 : Int64)) - (1 : Int64)) else q2))), .second] [(.int (3 : Int32))])) (fun t k => ?_) ?_
    · show Steps p.tables e below (T9.setTop (mkF m 70 #[.val (.long q0), .second, .val (.long q1), .second, .val (.long q2), .second, .val (.long ((minL_r q0 q1) + (1 : Int64))), .second, .val (.long (maxL_r (maxL_r q0 q1) ((minL_r q0 q1) + (1 : Int64)))), .second, .val (.long (if (maxL_r (maxL_r q0 q1) ((minL_r q0 q1) + (1 : Int64))) < (if q2 < (((minL_r q0 q1) + (1 : Int64)) - (1 : Int64)) then (((minL_r q0 q1) + (1 : Int64)) - (1 : Int64)) else q2) then (maxL_r (maxL_r q0 q1) ((minL_r q0 q1) + (1 : Int64))) else (if q2 < (((minL_r q0 q1) + (1 : Int64)) - (1 : Int64)) then (((minL_r q0 q1) + (1 : Int64)) - (1 : Int64)) else q2))), .second] [])) t
      refine XS.iconst X9.here hx rfl (hb hby d1_70) ?_
      exact k
    obtain ⟨T13, h13, k13, X13, e13, E13, A13, st13⟩ := newP X9 hx hZ (hw _ (List.mem_of_getElem? (i := 12) rfl)) e9 (g := (mkF m 71 #[.val (.long q0), .second, .val (.long q1), .second, .val (.long q2), .second, .val (.long ((minL_r q0 q1) + (1 : Int64))), .second, .val (.long (maxL_r (maxL_r q0 q1) ((minL_r q0 q1) + (1 : Int64)))), .second, .val (.long (if (maxL_r (maxL_r q0 q1) ((minL_r q0 q1) + (1 : Int64))) < (if q2 < (((minL_r q0 q1) + (1 : Int64)) - (1 : Int64)) then (((minL_r q0 q1) + (1 : Int64)) - (1 : Int64)) else q2) then (maxL_r (maxL_r q0 q1) ((minL_r q0 q1) + (1 : Int64))) else (if q2 < (((minL_r q0 q1) + (1 : Int64)) - (1 : Int64)) then (((minL_r q0 q1) + (1 : Int64)) - (1 : Int64)) else q2))), .second] [(.int (3 : Int32))])) rfl (hb hby d1_71) rfl (by decide) (cap := 3) (by decide) (by decide) (by decide) (by decide)
    obtain ⟨b13, g13⟩ : ∃ z, z = h0.size := ⟨_, rfl⟩
    rw [← g13] at A13 st13
    have g_b13 : n0 ≤ b13 := Nat.le_trans Z0 (Nat.le_of_eq g13.symm)
    have sz_b13 : h0.size ≤ b13 := Nat.le_trans K0.1 (Nat.le_of_eq g13.symm)
    have K14 : Keep h0 h13 [] := K0.ext E13
    have Z15 : n0 ≤ h13.size := Nat.le_trans Z0 E13.1
    have v16 : own_Arv Z h13 b13 .long (3 : Int32) [(.long (0 : Int64)), (.long (0 : Int64)), (.long (0 : Int64))] (.long (0 : Int64)) := ⟨_, (Arv.new A13 (by decide)).pad (pad_rep [] (.long (0 : Int64)) 3)⟩
    refine own_go st13 ?_
    refine own_go (S' := T13.setTop (mkF m 77 #[.val (.long q0), .second, .val (.long q1), .second, .val (.long q2), .second, .val (.long ((minL_r q0 q1) + (1 : Int64))), .second, .val (.long (maxL_r (maxL_r q0 q1) ((minL_r q0 q1) + (1 : Int64)))), .second, .val (.long (if (maxL_r (maxL_r q0 q1) ((minL_r q0 q1) + (1 : Int64))) < (if q2 < (((minL_r q0 q1) + (1 : Int64)) - (1 : Int64)) then (((minL_r q0 q1) + (1 : Int64)) - (1 : Int64)) else q2) then (maxL_r (maxL_r q0 q1) ((minL_r q0 q1) + (1 : Int64))) else (if q2 < (((minL_r q0 q1) + (1 : Int64)) - (1 : Int64)) then (((minL_r q0 q1) + (1 : Int64)) - (1 : Int64)) else q2))), .second] [(.long ((minL_r q0 q1) + (1 : Int64))), (.int (0 : Int32)), (.ref b13), (.ref b13)])) (fun t k => ?_) ?_
    · show Steps p.tables e below (T13.setTop (mkF m 73 #[.val (.long q0), .second, .val (.long q1), .second, .val (.long q2), .second, .val (.long ((minL_r q0 q1) + (1 : Int64))), .second, .val (.long (maxL_r (maxL_r q0 q1) ((minL_r q0 q1) + (1 : Int64)))), .second, .val (.long (if (maxL_r (maxL_r q0 q1) ((minL_r q0 q1) + (1 : Int64))) < (if q2 < (((minL_r q0 q1) + (1 : Int64)) - (1 : Int64)) then (((minL_r q0 q1) + (1 : Int64)) - (1 : Int64)) else q2) then (maxL_r (maxL_r q0 q1) ((minL_r q0 q1) + (1 : Int64))) else (if q2 < (((minL_r q0 q1) + (1 : Int64)) - (1 : Int64)) then (((minL_r q0 q1) + (1 : Int64)) - (1 : Int64)) else q2))), .second] [(.ref b13)])) t
      refine XS.dup X13.here hx rfl (hb hby d1_73) rfl rfl ?_
      show Steps p.tables e below (T13.setTop (mkF m 74 #[.val (.long q0), .second, .val (.long q1), .second, .val (.long q2), .second, .val (.long ((minL_r q0 q1) + (1 : Int64))), .second, .val (.long (maxL_r (maxL_r q0 q1) ((minL_r q0 q1) + (1 : Int64)))), .second, .val (.long (if (maxL_r (maxL_r q0 q1) ((minL_r q0 q1) + (1 : Int64))) < (if q2 < (((minL_r q0 q1) + (1 : Int64)) - (1 : Int64)) then (((minL_r q0 q1) + (1 : Int64)) - (1 : Int64)) else q2) then (maxL_r (maxL_r q0 q1) ((minL_r q0 q1) + (1 : Int64))) else (if q2 < (((minL_r q0 q1) + (1 : Int64)) - (1 : Int64)) then (((minL_r q0 q1) + (1 : Int64)) - (1 : Int64)) else q2))), .second] [(.ref b13), (.ref b13)])) t
      refine XS.iconst X13.here hx rfl (hb hby d1_74) ?_
      show Steps p.tables e below (T13.setTop (mkF m 75 #[.val (.long q0), .second, .val (.long q1), .second, .val (.long q2), .second, .val (.long ((minL_r q0 q1) + (1 : Int64))), .second, .val (.long (maxL_r (maxL_r q0 q1) ((minL_r q0 q1) + (1 : Int64)))), .second, .val (.long (if (maxL_r (maxL_r q0 q1) ((minL_r q0 q1) + (1 : Int64))) < (if q2 < (((minL_r q0 q1) + (1 : Int64)) - (1 : Int64)) then (((minL_r q0 q1) + (1 : Int64)) - (1 : Int64)) else q2) then (maxL_r (maxL_r q0 q1) ((minL_r q0 q1) + (1 : Int64))) else (if q2 < (((minL_r q0 q1) + (1 : Int64)) - (1 : Int64)) then (((minL_r q0 q1) + (1 : Int64)) - (1 : Int64)) else q2))), .second] [(.int (0 : Int32)), (.ref b13), (.ref b13)])) t
      refine XS.lload X13.here hx rfl (hb hby d1_75) rfl ?_
      exact k
    obtain ⟨kq17, cl17, Ar17, q17, S17, Nn17, Hh17, G17⟩ := v16
    have hin17 : ¬ ((0 : Int32) < 0 ∨ cl17.slots.size ≤ ((0 : Int32)).toNatClampNeg) := inb_of S17 ⟨by decide, by decide⟩
    obtain ⟨T17, h17, X17, e17, W17, st17⟩ := stJ X13 hx hZ e13 Ar17 (j := (0 : Int32)) hin17 (g := (mkF m 77 #[.val (.long q0), .second, .val (.long q1), .second, .val (.long q2), .second, .val (.long ((minL_r q0 q1) + (1 : Int64))), .second, .val (.long (maxL_r (maxL_r q0 q1) ((minL_r q0 q1) + (1 : Int64)))), .second, .val (.long (if (maxL_r (maxL_r q0 q1) ((minL_r q0 q1) + (1 : Int64))) < (if q2 < (((minL_r q0 q1) + (1 : Int64)) - (1 : Int64)) then (((minL_r q0 q1) + (1 : Int64)) - (1 : Int64)) else q2) then (maxL_r (maxL_r q0 q1) ((minL_r q0 q1) + (1 : Int64))) else (if q2 < (((minL_r q0 q1) + (1 : Int64)) - (1 : Int64)) then (((minL_r q0 q1) + (1 : Int64)) - (1 : Int64)) else q2))), .second] [(.long ((minL_r q0 q1) + (1 : Int64))), (.int (0 : Int32)), (.ref b13), (.ref b13)])) rfl rfl (hb hby d1_77)
    have v18 : own_Arv Z h17 b13 .long (3 : Int32) [(.long ((minL_r q0 q1) + (1 : Int64))), (.long (0 : Int64)), (.long (0 : Int64))] (.long (0 : Int64)) := ⟨_, Arv.set Ar17 q17 S17 Nn17 Hh17 G17 rfl W17 0 rfl (Nat.le_of_ble_eq_true rfl)⟩
    have N19 := Fr.snoc X17 N12 g_b13
    have Z20 : n0 ≤ h17.size := Nat.le_trans Z15 (Keep.of_wr W17).1
    have K21 : Keep h0 h17 [] := K14.wr W17 (Or.inr sz_b13)
    refine own_go st17 ?_
    refine own_go (S' := T17.setTop (mkF m 82 #[.val (.long q0), .second, .val (.long q1), .second, .val (.long q2), .second, .val (.long ((minL_r q0 q1) + (1 : Int64))), .second, .val (.long (maxL_r (maxL_r q0 q1) ((minL_r q0 q1) + (1 : Int64)))), .second, .val (.long (if (maxL_r (maxL_r q0 q1) ((minL_r q0 q1) + (1 : Int64))) < (if q2 < (((minL_r q0 q1) + (1 : Int64)) - (1 : Int64)) then (((minL_r q0 q1) + (1 : Int64)) - (1 : Int64)) else q2) then (maxL_r (maxL_r q0 q1) ((minL_r q0 q1) + (1 : Int64))) else (if q2 < (((minL_r q0 q1) + (1 : Int64)) - (1 : Int64)) then (((minL_r q0 q1) + (1 : Int64)) - (1 : Int64)) else q2))), .second] [(.long (maxL_r (maxL_r q0 q1) ((minL_r q0 q1) + (1 : Int64)))), (.int (1 : Int32)), (.ref b13), (.ref b13)])) (fun t k => ?_) ?_
    · show Steps p.tables e below (T17.setTop (mkF m 78 #[.val (.long q0), .second, .val (.long q1), .second, .val (.long q2), .second, .val (.long ((minL_r q0 q1) + (1 : Int64))), .second, .val (.long (maxL_r (maxL_r q0 q1) ((minL_r q0 q1) + (1 : Int64)))), .second, .val (.long (if (maxL_r (maxL_r q0 q1) ((minL_r q0 q1) + (1 : Int64))) < (if q2 < (((minL_r q0 q1) + (1 : Int64)) - (1 : Int64)) then (((minL_r q0 q1) + (1 : Int64)) - (1 : Int64)) else q2) then (maxL_r (maxL_r q0 q1) ((minL_r q0 q1) + (1 : Int64))) else (if q2 < (((minL_r q0 q1) + (1 : Int64)) - (1 : Int64)) then (((minL_r q0 q1) + (1 : Int64)) - (1 : Int64)) else q2))), .second] [(.ref b13)])) t
      refine XS.dup X17.here hx rfl (hb hby d1_78) rfl rfl ?_
      show Steps p.tables e below (T17.setTop (mkF m 79 #[.val (.long q0), .second, .val (.long q1), .second, .val (.long q2), .second, .val (.long ((minL_r q0 q1) + (1 : Int64))), .second, .val (.long (maxL_r (maxL_r q0 q1) ((minL_r q0 q1) + (1 : Int64)))), .second, .val (.long (if (maxL_r (maxL_r q0 q1) ((minL_r q0 q1) + (1 : Int64))) < (if q2 < (((minL_r q0 q1) + (1 : Int64)) - (1 : Int64)) then (((minL_r q0 q1) + (1 : Int64)) - (1 : Int64)) else q2) then (maxL_r (maxL_r q0 q1) ((minL_r q0 q1) + (1 : Int64))) else (if q2 < (((minL_r q0 q1) + (1 : Int64)) - (1 : Int64)) then (((minL_r q0 q1) + (1 : Int64)) - (1 : Int64)) else q2))), .second] [(.ref b13), (.ref b13)])) t
      refine XS.iconst X17.here hx rfl (hb hby d1_79) ?_
      show Steps p.tables e below (T17.setTop (mkF m 80 #[.val (.long q0), .second, .val (.long q1), .second, .val (.long q2), .second, .val (.long ((minL_r q0 q1) + (1 : Int64))), .second, .val (.long (maxL_r (maxL_r q0 q1) ((minL_r q0 q1) + (1 : Int64)))), .second, .val (.long (if (maxL_r (maxL_r q0 q1) ((minL_r q0 q1) + (1 : Int64))) < (if q2 < (((minL_r q0 q1) + (1 : Int64)) - (1 : Int64)) then (((minL_r q0 q1) + (1 : Int64)) - (1 : Int64)) else q2) then (maxL_r (maxL_r q0 q1) ((minL_r q0 q1) + (1 : Int64))) else (if q2 < (((minL_r q0 q1) + (1 : Int64)) - (1 : Int64)) then (((minL_r q0 q1) + (1 : Int64)) - (1 : Int64)) else q2))), .second] [(.int (1 : Int32)), (.ref b13), (.ref b13)])) t
      refine XS.lload X17.here hx rfl (hb hby d1_80) rfl ?_
      exact k
    obtain ⟨kq22, cl22, Ar22, q22, S22, Nn22, Hh22, G22⟩ := v18
    have hin22 : ¬ ((1 : Int32) < 0 ∨ cl22.slots.size ≤ ((1 : Int32)).toNatClampNeg) := inb_of S22 ⟨by decide, by decide⟩
    obtain ⟨T22, h22, X22, e22, W22, st22⟩ := stJ X17 hx hZ e17 Ar22 (j := (1 : Int32)) hin22 (g := (mkF m 82 #[.val (.long q0), .second, .val (.long q1), .second, .val (.long q2), .second, .val (.long ((minL_r q0 q1) + (1 : Int64))), .second, .val (.long (maxL_r (maxL_r q0 q1) ((minL_r q0 q1) + (1 : Int64)))), .second, .val (.long (if (maxL_r (maxL_r q0 q1) ((minL_r q0 q1) + (1 : Int64))) < (if q2 < (((minL_r q0 q1) + (1 : Int64)) - (1 : Int64)) then (((minL_r q0 q1) + (1 : Int64)) - (1 : Int64)) else q2) then (maxL_r (maxL_r q0 q1) ((minL_r q0 q1) + (1 : Int64))) else (if q2 < (((minL_r q0 q1) + (1 : Int64)) - (1 : Int64)) then (((minL_r q0 q1) + (1 : Int64)) - (1 : Int64)) else q2))), .second] [(.long (maxL_r (maxL_r q0 q1) ((minL_r q0 q1) + (1 : Int64)))), (.int (1 : Int32)), (.ref b13), (.ref b13)])) rfl rfl (hb hby d1_82)
    have v23 : own_Arv Z h22 b13 .long (3 : Int32) [(.long ((minL_r q0 q1) + (1 : Int64))), (.long (maxL_r (maxL_r q0 q1) ((minL_r q0 q1) + (1 : Int64)))), (.long (0 : Int64))] (.long (0 : Int64)) := ⟨_, Arv.set Ar22 q22 S22 Nn22 Hh22 G22 rfl W22 1 rfl (Nat.le_of_ble_eq_true rfl)⟩
    have N24 := Fr.snoc X22 N19 g_b13
    have Z25 : n0 ≤ h22.size := Nat.le_trans Z20 (Keep.of_wr W22).1
    have K26 : Keep h0 h22 [] := K21.wr W22 (Or.inr sz_b13)
    refine own_go st22 ?_
    refine own_go (S' := T22.setTop (mkF m 87 #[.val (.long q0), .second, .val (.long q1), .second, .val (.long q2), .second, .val (.long ((minL_r q0 q1) + (1 : Int64))), .second, .val (.long (maxL_r (maxL_r q0 q1) ((minL_r q0 q1) + (1 : Int64)))), .second, .val (.long (if (maxL_r (maxL_r q0 q1) ((minL_r q0 q1) + (1 : Int64))) < (if q2 < (((minL_r q0 q1) + (1 : Int64)) - (1 : Int64)) then (((minL_r q0 q1) + (1 : Int64)) - (1 : Int64)) else q2) then (maxL_r (maxL_r q0 q1) ((minL_r q0 q1) + (1 : Int64))) else (if q2 < (((minL_r q0 q1) + (1 : Int64)) - (1 : Int64)) then (((minL_r q0 q1) + (1 : Int64)) - (1 : Int64)) else q2))), .second] [(.long (if (maxL_r (maxL_r q0 q1) ((minL_r q0 q1) + (1 : Int64))) < (if q2 < (((minL_r q0 q1) + (1 : Int64)) - (1 : Int64)) then (((minL_r q0 q1) + (1 : Int64)) - (1 : Int64)) else q2) then (maxL_r (maxL_r q0 q1) ((minL_r q0 q1) + (1 : Int64))) else (if q2 < (((minL_r q0 q1) + (1 : Int64)) - (1 : Int64)) then (((minL_r q0 q1) + (1 : Int64)) - (1 : Int64)) else q2))), (.int (2 : Int32)), (.ref b13), (.ref b13)])) (fun t k => ?_) ?_
    · show Steps p.tables e below (T22.setTop (mkF m 83 #[.val (.long q0), .second, .val (.long q1), .second, .val (.long q2), .second, .val (.long ((minL_r q0 q1) + (1 : Int64))), .second, .val (.long (maxL_r (maxL_r q0 q1) ((minL_r q0 q1) + (1 : Int64)))), .second, .val (.long (if (maxL_r (maxL_r q0 q1) ((minL_r q0 q1) + (1 : Int64))) < (if q2 < (((minL_r q0 q1) + (1 : Int64)) - (1 : Int64)) then (((minL_r q0 q1) + (1 : Int64)) - (1 : Int64)) else q2) then (maxL_r (maxL_r q0 q1) ((minL_r q0 q1) + (1 : Int64))) else (if q2 < (((minL_r q0 q1) + (1 : Int64)) - (1 : Int64)) then (((minL_r q0 q1) + (1 : Int64)) - (1 : Int64)) else q2))), .second] [(.ref b13)])) t
      refine XS.dup X22.here hx rfl (hb hby d1_83) rfl rfl ?_
      show Steps p.tables e below (T22.setTop (mkF m 84 #[.val (.long q0), .second, .val (.long q1), .second, .val (.long q2), .second, .val (.long ((minL_r q0 q1) + (1 : Int64))), .second, .val (.long (maxL_r (maxL_r q0 q1) ((minL_r q0 q1) + (1 : Int64)))), .second, .val (.long (if (maxL_r (maxL_r q0 q1) ((minL_r q0 q1) + (1 : Int64))) < (if q2 < (((minL_r q0 q1) + (1 : Int64)) - (1 : Int64)) then (((minL_r q0 q1) + (1 : Int64)) - (1 : Int64)) else q2) then (maxL_r (maxL_r q0 q1) ((minL_r q0 q1) + (1 : Int64))) else (if q2 < (((minL_r q0 q1) + (1 : Int64)) - (1 : Int64)) then (((minL_r q0 q1) + (1 : Int64)) - (1 : Int64)) else q2))), .second] [(.ref b13), (.ref b13)])) t
      refine XS.iconst X22.here hx rfl (hb hby d1_84) ?_
      show Steps p.tables e below (T22.setTop (mkF m 85 #[.val (.long q0), .second, .val (.long q1), .second, .val (.long q2), .second, .val (.long ((minL_r q0 q1) + (1 : Int64))), .second, .val (.long (maxL_r (maxL_r q0 q1) ((minL_r q0 q1) + (1 : Int64)))), .second, .val (.long (if (maxL_r (maxL_r q0 q1) ((minL_r q0 q1) + (1 : Int64))) < (if q2 < (((minL_r q0 q1) + (1 : Int64)) - (1 : Int64)) then (((minL_r q0 q1) + (1 : Int64)) - (1 : Int64)) else q2) then (maxL_r (maxL_r q0 q1) ((minL_r q0 q1) + (1 : Int64))) else (if q2 < (((minL_r q0 q1) + (1 : Int64)) - (1 : Int64)) then (((minL_r q0 q1) + (1 : Int64)) - (1 : Int64)) else q2))), .second] [(.int (2 : Int32)), (.ref b13), (.ref b13)])) t
      refine XS.lload X22.here hx rfl (hb hby d1_85) rfl ?_
      exact k
    obtain ⟨kq27, cl27, Ar27, q27, S27, Nn27, Hh27, G27⟩ := v23
    have hin27 : ¬ ((2 : Int32) < 0 ∨ cl27.slots.size ≤ ((2 : Int32)).toNatClampNeg) := inb_of S27 ⟨by decide, by decide⟩
    obtain ⟨T27, h27, X27, e27, W27, st27⟩ := stJ X22 hx hZ e22 Ar27 (j := (2 : Int32)) hin27 (g := (mkF m 87 #[.val (.long q0), .second, .val (.long q1), .second, .val (.long q2), .second, .val (.long ((minL_r q0 q1) + (1 : Int64))), .second, .val (.long (maxL_r (maxL_r q0 q1) ((minL_r q0 q1) + (1 : Int64)))), .second, .val (.long (if (maxL_r (maxL_r q0 q1) ((minL_r q0 q1) + (1 : Int64))) < (if q2 < (((minL_r q0 q1) + (1 : Int64)) - (1 : Int64)) then (((minL_r q0 q1) + (1 : Int64)) - (1 : Int64)) else q2) then (maxL_r (maxL_r q0 q1) ((minL_r q0 q1) + (1 : Int64))) else (if q2 < (((minL_r q0 q1) + (1 : Int64)) - (1 : Int64)) then (((minL_r q0 q1) + (1 : Int64)) - (1 : Int64)) else q2))), .second] [(.long (if (maxL_r (maxL_r q0 q1) ((minL_r q0 q1) + (1 : Int64))) < (if q2 < (((minL_r q0 q1) + (1 : Int64)) - (1 : Int64)) then (((minL_r q0 q1) + (1 : Int64)) - (1 : Int64)) else q2) then (maxL_r (maxL_r q0 q1) ((minL_r q0 q1) + (1 : Int64))) else (if q2 < (((minL_r q0 q1) + (1 : Int64)) - (1 : Int64)) then (((minL_r q0 q1) + (1 : Int64)) - (1 : Int64)) else q2))), (.int (2 : Int32)), (.ref b13), (.ref b13)])) rfl rfl (hb hby d1_87)
    have v28 : own_Arv Z h27 b13 .long (3 : Int32) [(.long ((minL_r q0 q1) + (1 : Int64))), (.long (maxL_r (maxL_r q0 q1) ((minL_r q0 q1) + (1 : Int64)))), (.long (if (maxL_r (maxL_r q0 q1) ((minL_r q0 q1) + (1 : Int64))) < (if q2 < (((minL_r q0 q1) + (1 : Int64)) - (1 : Int64)) then (((minL_r q0 q1) + (1 : Int64)) - (1 : Int64)) else q2) then (maxL_r (maxL_r q0 q1) ((minL_r q0 q1) + (1 : Int64))) else (if q2 < (((minL_r q0 q1) + (1 : Int64)) - (1 : Int64)) then (((minL_r q0 q1) + (1 : Int64)) - (1 : Int64)) else q2)))] (.long (0 : Int64)) := ⟨_, Arv.set Ar27 q27 S27 Nn27 Hh27 G27 rfl W27 2 rfl (Nat.le_of_ble_eq_true rfl)⟩
    have N29 := Fr.snoc X27 N24 g_b13
    have Z30 : n0 ≤ h27.size := Nat.le_trans Z25 (Keep.of_wr W27).1
    have K31 : Keep h0 h27 [] := K26.wr W27 (Or.inr sz_b13)
    refine own_go st27 ?_
    obtain ⟨fs, hr, hrun, hended, hW, hsame⟩ := X27.leave (v := some (.ref b13)) (fun h => by rw [Bd.returns] at h; cases h)
    refine own_end (v := some (.ref b13)) ?_ hrun hended ?_ hW (hsame.mono (by decide) (by decide))
    · show Steps p.tables e below (T27.setTop (mkF m 88 #[.val (.long q0), .second, .val (.long q1), .second, .val (.long q2), .second, .val (.long ((minL_r q0 q1) + (1 : Int64))), .second, .val (.long (maxL_r (maxL_r q0 q1) ((minL_r q0 q1) + (1 : Int64)))), .second, .val (.long (if (maxL_r (maxL_r q0 q1) ((minL_r q0 q1) + (1 : Int64))) < (if q2 < (((minL_r q0 q1) + (1 : Int64)) - (1 : Int64)) then (((minL_r q0 q1) + (1 : Int64)) - (1 : Int64)) else q2) then (maxL_r (maxL_r q0 q1) ((minL_r q0 q1) + (1 : Int64))) else (if q2 < (((minL_r q0 q1) + (1 : Int64)) - (1 : Int64)) then (((minL_r q0 q1) + (1 : Int64)) - (1 : Int64)) else q2))), .second] [(.ref b13)])) _
      jvm_step X27.here [X27.here.top, hx, (hb hby d1_88), X27.method', Bd.returns, Value.isRef, FieldType.isReference]
      first | (intro acts; rw [hr _ acts rfl rfl rfl]) | rw [hr _ _ rfl rfl rfl]
      exact Steps.refl _
    · show Qnorm Z q0 q1 q2 h0 n0 _ T27.heap _
      rw [e27]
      exact ⟨b13, rfl, N29, K31, sz_b13, (by simp only [norm_a_x0__0, norm_a_x0__1, norm_a_x0__2, if_pos hc20]; exact v28)⟩
  · skip
    refine own_go (S' := T5.setTop (mkF m 49 #[.val (.long q0), .second, .val (.long q1), .second, .val (.long q2), .second, .val (.long (minL_r q0 q1)), .second, .val (.long (maxL_r q0 q1)), .second, .val (.long q2), .second] [(.int (Jvm.Free.XT.cmpL q2 ((minL_r q0 q1) - (1 : Int64))))])) (fun t k => ?_) ?_
    · show Steps p.tables e below (T5.setTop (mkF m 20 #[.val (.long q0), .second, .val (.long q1), .second, .val (.long q2), .second, .val (.long (minL_r q0 q1)), .second, .val (.long (maxL_r q0 q1)), .second, .unset, .unset] [(.int (Jvm.Free.XT.cmpL (minL_r q0 q1) (-9223372036854775808 : Int64)))])) t
      refine XS.ifYes X5.here hx rfl (pc0 := 20) (pc' := 38) rfl (hb hby d1_20) rfl (Jvm.Free.XT.ll_ne_t hc20) (by decide) (by decide) ?_
      show Steps p.tables e below (T5.setTop (mkF m 38 #[.val (.long q0), .second, .val (.long q1), .second, .val (.long q2), .second, .val (.long (minL_r q0 q1)), .second, .val (.long (maxL_r q0 q1)), .second, .unset, .unset] [])) t
      refine XS.lload X5.here hx rfl (hb hby d1_38) rfl ?_
      show Steps p.tables e below (T5.setTop (mkF m 40 #[.val (.long q0), .second, .val (.long q1), .second, .val (.long q2), .second, .val (.long (minL_r q0 q1)), .second, .val (.long (maxL_r q0 q1)), .second, .unset, .unset] [(.long q2)])) t
      refine XS.lstore X5.here hx rfl (hb hby d1_40) rfl (l' := #[.val (.long q0), .second, .val (.long q1), .second, .val (.long q2), .second, .val (.long (minL_r q0 q1)), .second, .val (.long (maxL_r q0 q1)), .second, .val (.long q2), .second]) rfl ?_
      show Steps p.tables e below (T5.setTop (mkF m 42 #[.val (.long q0), .second, .val (.long q1), .second, .val (.long q2), .second, .val (.long (minL_r q0 q1)), .second, .val (.long (maxL_r q0 q1)), .second, .val (.long q2), .second] [])) t
      refine XS.lload X5.here hx rfl (hb hby d1_42) rfl ?_
      show Steps p.tables e below (T5.setTop (mkF m 44 #[.val (.long q0), .second, .val (.long q1), .second, .val (.long q2), .second, .val (.long (minL_r q0 q1)), .second, .val (.long (maxL_r q0 q1)), .second, .val (.long q2), .second] [(.long q2)])) t
      refine XS.lload X5.here hx rfl (hb hby d1_44) rfl ?_
      show Steps p.tables e below (T5.setTop (mkF m 46 #[.val (.long q0), .second, .val (.long q1), .second, .val (.long q2), .second, .val (.long (minL_r q0 q1)), .second, .val (.long (maxL_r q0 q1)), .second, .val (.long q2), .second] [(.long (minL_r q0 q1)), (.long q2)])) t
      refine XS.lconst X5.here hx rfl (hb hby d1_46) ?_
      show Steps p.tables e below (T5.setTop (mkF m 47 #[.val (.long q0), .second, .val (.long q1), .second, .val (.long q2), .second, .val (.long (minL_r q0 q1)), .second, .val (.long (maxL_r q0 q1)), .second, .val (.long q2), .second] [(.long (1 : Int64)), (.long (minL_r q0 q1)), (.long q2)])) t
      refine XS.lsub X5.here hx rfl (hb hby d1_47) rfl ?_
      show Steps p.tables e below (T5.setTop (mkF m 48 #[.val (.long q0), .second, .val (.long q1), .second, .val (.long q2), .second, .val (.long (minL_r q0 q1)), .second, .val (.long (maxL_r q0 q1)), .second, .val (.long q2), .second] [(.long ((minL_r q0 q1) - (1 : Int64))), (.long q2)])) t
      refine XS.lcmp X5.here hx rfl (hb hby d1_48) rfl ?_
      exact k
    refine own_go (S' := T5.setTop (mkF m 58 #[.val (.long q0), .second, .val (.long q1), .second, .val (.long q2), .second, .val (.long (minL_r q0 q1)), .second, .val (.long (maxL_r q0 q1)), .second, .val (.long (if q2 < ((minL_r q0 q1) - (1 : Int64)) then ((minL_r q0 q1) - (1 : Int64)) else q2)), .second] [])) (fun t k => ?_) ?_
    · show Steps p.tables e below (T5.setTop (mkF m 49 #[.val (.long q0), .second, .val (.long q1), .second, .val (.long q2), .second, .val (.long (minL_r q0 q1)), .second, .val (.long (maxL_r q0 q1)), .second, .val (.long q2), .second] [(.int (Jvm.Free.XT.cmpL q2 ((minL_r q0 q1) - (1 : Int64))))])) t
      by_cases hc49 : q2 < ((minL_r q0 q1) - (1 : Int64))
      · show Steps p.tables e below (T5.setTop (mkF m 49 #[.val (.long q0), .second, .val (.long q1), .second, .val (.long q2), .second, .val (.long (minL_r q0 q1)), .second, .val (.long (maxL_r q0 q1)), .second, .val (.long q2), .second] [(.int (Jvm.Free.XT.cmpL q2 ((minL_r q0 q1) - (1 : Int64))))])) t
        refine XS.ifNo X5.here hx rfl (hb hby d1_49) rfl (Jvm.Free.XT.ll_ge_f hc49) ?_
        show Steps p.tables e below (T5.setTop (mkF m 52 #[.val (.long q0), .second, .val (.long q1), .second, .val (.long q2), .second, .val (.long (minL_r q0 q1)), .second, .val (.long (maxL_r q0 q1)), .second, .val (.long q2), .second] [])) t
        refine XS.lload X5.here hx rfl (hb hby d1_52) rfl ?_
        show Steps p.tables e below (T5.setTop (mkF m 54 #[.val (.long q0), .second, .val (.long q1), .second, .val (.long q2), .second, .val (.long (minL_r q0 q1)), .second, .val (.long (maxL_r q0 q1)), .second, .val (.long q2), .second] [(.long (minL_r q0 q1))])) t
        refine XS.lconst X5.here hx rfl (hb hby d1_54) ?_
        show Steps p.tables e below (T5.setTop (mkF m 55 #[.val (.long q0), .second, .val (.long q1), .second, .val (.long q2), .second, .val (.long (minL_r q0 q1)), .second, .val (.long (maxL_r q0 q1)), .second, .val (.long q2), .second] [(.long (1 : Int64)), (.long (minL_r q0 q1))])) t
        refine XS.lsub X5.here hx rfl (hb hby d1_55) rfl ?_
        show Steps p.tables e below (T5.setTop (mkF m 56 #[.val (.long q0), .second, .val (.long q1), .second, .val (.long q2), .second, .val (.long (minL_r q0 q1)), .second, .val (.long (maxL_r q0 q1)), .second, .val (.long q2), .second] [(.long ((minL_r q0 q1) - (1 : Int64)))])) t
        refine XS.lstore X5.here hx rfl (hb hby d1_56) rfl (l' := #[.val (.long q0), .second, .val (.long q1), .second, .val (.long q2), .second, .val (.long (minL_r q0 q1)), .second, .val (.long (maxL_r q0 q1)), .second, .val (.long ((minL_r q0 q1) - (1 : Int64))), .second]) rfl ?_
        try simp only [if_pos hc49] at k
        try simp only [if_pos hc49]
        exact k
      · show Steps p.tables e below (T5.setTop (mkF m 49 #[.val (.long q0), .second, .val (.long q1), .second, .val (.long q2), .second, .val (.long (minL_r q0 q1)), .second, .val (.long (maxL_r q0 q1)), .second, .val (.long q2), .second] [(.int (Jvm.Free.XT.cmpL q2 ((minL_r q0 q1) - (1 : Int64))))])) t
        refine XS.ifYes X5.here hx rfl (pc0 := 49) (pc' := 58) rfl (hb hby d1_49) rfl (Jvm.Free.XT.ll_ge_t hc49) (by decide) (by decide) ?_
        try simp only [if_neg hc49] at k
        try simp only [if_neg hc49]
        exact k
    refine own_go (S' := T5.setTop (mkF m 63 #[.val (.long q0), .second, .val (.long q1), .second, .val (.long q2), .second, .val (.long (minL_r q0 q1)), .second, .val (.long (maxL_r q0 q1)), .second, .val (.long (if q2 < ((minL_r q0 q1) - (1 : Int64)) then ((minL_r q0 q1) - (1 : Int64)) else q2)), .second] [(.int (Jvm.Free.XT.cmpL (if q2 < ((minL_r q0 q1) - (1 : Int64)) then ((minL_r q0 q1) - (1 : Int64)) else q2) (maxL_r q0 q1)))])) (fun t k => ?_) ?_
    · show Steps p.tables e below (T5.setTop (mkF m 58 #[.val (.long q0), .second, .val (.long q1), .second, .val (.long q2), .second, .val (.long (minL_r q0 q1)), .second, .val (.long (maxL_r q0 q1)), .second, .val (.long (if q2 < ((minL_r q0 q1) - (1 : Int64)) then ((minL_r q0 q1) - (1 : Int64)) else q2)), .second] [])) t
      refine XS.lload X5.here hx rfl (hb hby d1_58) rfl ?_
      show Steps p.tables e below (T5.setTop (mkF m 60 #[.val (.long q0), .second, .val (.long q1), .second, .val (.long q2), .second, .val (.long (minL_r q0 q1)), .second, .val (.long (maxL_r q0 q1)), .second, .val (.long (if q2 < ((minL_r q0 q1) - (1 : Int64)) then ((minL_r q0 q1) - (1 : Int64)) else q2)), .second] [(.long (if q2 < ((minL_r q0 q1) - (1 : Int64)) then ((minL_r q0 q1) - (1 : Int64)) else q2))])) t
      refine XS.lload X5.here hx rfl (hb hby d1_60) rfl ?_
      show Steps p.tables e below (T5.setTop (mkF m 62 #[.val (.long q0), .second, .val (.long q1), .second, .val (.long q2), .second, .val (.long (minL_r q0 q1)), .second, .val (.long (maxL_r q0 q1)), .second, .val (.long (if q2 < ((minL_r q0 q1) - (1 : Int64)) then ((minL_r q0 q1) - (1 : Int64)) else q2)), .second] [(.long (maxL_r q0 q1)), (.long (if q2 < ((minL_r q0 q1) - (1 : Int64)) then ((minL_r q0 q1) - (1 : Int64)) else q2))])) t
      refine XS.lcmp X5.here hx rfl (hb hby d1_62) rfl ?_
      exact k
    refine own_go (S' := T5.setTop (mkF m 70 #[.val (.long q0), .second, .val (.long q1), .second, .val (.long q2), .second, .val (.long (minL_r q0 q1)), .second, .val (.long (maxL_r q0 q1)), .second, .val (.long (if (maxL_r q0 q1) < (if q2 < ((minL_r q0 q1) - (1 : Int64)) then ((minL_r q0 q1) - (1 : Int64)) else q2) then (maxL_r q0 q1) else (if q2 < ((minL_r q0 q1) - (1 : Int64)) then ((minL_r q0 q1) - (1 : Int64)) else q2))), .second] [])) (fun t k => ?_) ?_
    · show Steps p.tables e below (T5.setTop (mkF m 63 #[.val (.long q0), .second, .val (.long q1), .second, .val (.long q2), .second, .val (.long (minL_r q0 q1)), .second, .val (.long (maxL_r q0 q1)), .second, .val (.long (if q2 < ((minL_r q0 q1) - (1 : Int64)) then ((minL_r q0 q1) - (1 : Int64)) else q2)), .second] [(.int (Jvm.Free.XT.cmpL (if q2 < ((minL_r q0 q1) - (1 : Int64)) then ((minL_r q0 q1) - (1 : Int64)) else q2) (maxL_r q0 q1)))])) t
      by_cases hc63 : (maxL_r q0 q1) < (if q2 < ((minL_r q0 q1) - (1 : Int64)) then ((minL_r q0 q1) - (1 : Int64)) else q2)
      · show Steps p.tables e below (T5.setTop (mkF m 63 #[.val (.long q0), .second, .val (.long q1), .second, .val (.long q2), .second, .val (.long (minL_r q0 q1)), .second, .val (.long (maxL_r q0 q1)), .second, .val (.long (if q2 < ((minL_r q0 q1) - (1 : Int64)) then ((minL_r q0 q1) - (1 : Int64)) else q2)), .second] [(.int (Jvm.Free.XT.cmpL (if q2 < ((minL_r q0 q1) - (1 : Int64)) then ((minL_r q0 q1) - (1 : Int64)) else q2) (maxL_r q0 q1)))])) t
        refine XS.ifNo X5.here hx rfl (hb hby d1_63) rfl (Jvm.Free.XT.ll_le_f hc63) ?_
        show Steps p.tables e below (T5.setTop (mkF m 66 #[.val (.long q0), .second, .val (.long q1), .second, .val (.long q2), .second, .val (.long (minL_r q0 q1)), .second, .val (.long (maxL_r q0 q1)), .second, .val (.long (if q2 < ((minL_r q0 q1) - (1 : Int64)) then ((minL_r q0 q1) - (1 : Int64)) else q2)), .second] [])) t
        refine XS.lload X5.here hx rfl (hb hby d1_66) rfl ?_
        show Steps p.tables e below (T5.setTop (mkF m 68 #[.val (.long q0), .second, .val (.long q1), .second, .val (.long q2), .second, .val (.long (minL_r q0 q1)), .second, .val (.long (maxL_r q0 q1)), .second, .val (.long (if q2 < ((minL_r q0 q1) - (1 : Int64)) then ((minL_r q0 q1) - (1 : Int64)) else q2)), .second] [(.long (maxL_r q0 q1))])) t
        refine XS.lstore X5.here hx rfl (hb hby d1_68) rfl (l' := #[.val (.long q0), .second, .val (.long q1), .second, .val (.long q2), .second, .val (.long (minL_r q0 q1)), .second, .val (.long (maxL_r q0 q1)), .second, .val (.long (maxL_r q0 q1)), .second]) rfl ?_
        try simp only [if_pos hc63] at k
        try simp only [if_pos hc63]
        exact k
      · show Steps p.tables e below (T5.setTop (mkF m 63 #[.val (.long q0), .second, .val (.long q1), .second, .val (.long q2), .second, .val (.long (minL_r q0 q1)), .second, .val (.long (maxL_r q0 q1)), .second, .val (.long (if q2 < ((minL_r q0 q1) - (1 : Int64)) then ((minL_r q0 q1) - (1 : Int64)) else q2)), .second] [(.int (Jvm.Free.XT.cmpL (if q2 < ((minL_r q0 q1) - (1 : Int64)) then ((minL_r q0 q1) - (1 : Int64)) else q2) (maxL_r q0 q1)))])) t
        refine XS.ifYes X5.here hx rfl (pc0 := 63) (pc' := 70) rfl (hb hby d1_63) rfl (Jvm.Free.XT.ll_le_t hc63) (by decide) (by decide) ?_
        try simp only [if_neg hc63] at k
        try simp only [if_neg hc63]
        exact k
    refine own_go (S' := T5.setTop (mkF m 71 #[.val (.long q0), .second, .val (.long q1), .second, .val (.long q2), .second, .val (.long (minL_r q0 q1)), .second, .val (.long (maxL_r q0 q1)), .second, .val (.long (if (maxL_r q0 q1) < (if q2 < ((minL_r q0 q1) - (1 : Int64)) then ((minL_r q0 q1) - (1 : Int64)) else q2) then (maxL_r q0 q1) else (if q2 < ((minL_r q0 q1) - (1 : Int64)) then ((minL_r q0 q1) - (1 : Int64)) else q2))), .second] [(.int (3 : Int32))])) (fun t k => ?_) ?_
    · show Steps p.tables e below (T5.setTop (mkF m 70 #[.val (.long q0), .second, .val (.long q1), .second, .val (.long q2), .second, .val (.long (minL_r q0 q1)), .second, .val (.long (maxL_r q0 q1)), .second, .val (.long (if (maxL_r q0 q1) < (if q2 < ((minL_r q0 q1) - (1 : Int64)) then ((minL_r q0 q1) - (1 : Int64)) else q2) then (maxL_r q0 q1) else (if q2 < ((minL_r q0 q1) - (1 : Int64)) then ((minL_r q0 q1) - (1 : Int64)) else q2))), .second] [])) t
      refine XS.iconst X5.here hx rfl (hb hby d1_70) ?_
      exact k
    obtain ⟨T32, h32, k32, X32, e32, E32, A32, st32⟩ := newP X5 hx hZ (hw _ (List.mem_of_getElem? (i := 12) rfl)) e5 (g := (mkF m 71 #[.val (.long q0), .second, .val (.long q1), .second, .val (.long q2), .second, .val (.long (minL_r q0 q1)), .second, .val (.long (maxL_r q0 q1)), .second, .val (.long (if (maxL_r q0 q1) < (if q2 < ((minL_r q0 q1) - (1 : Int64)) then ((minL_r q0 q1) - (1 : Int64)) else q2) then (maxL_r q0 q1) else (if q2 < ((minL_r q0 q1) - (1 : Int64)) then ((minL_r q0 q1) - (1 : Int64)) else q2))), .second] [(.int (3 : Int32))])) rfl (hb hby d1_71) rfl (by decide) (cap := 3) (by decide) (by decide) (by decide) (by decide)
    obtain ⟨b32, g32⟩ : ∃ z, z = h0.size := ⟨_, rfl⟩
    rw [← g32] at A32 st32
    have g_b32 : n0 ≤ b32 := Nat.le_trans Z0 (Nat.le_of_eq g32.symm)
    have sz_b32 : h0.size ≤ b32 := Nat.le_trans K0.1 (Nat.le_of_eq g32.symm)
    have K33 : Keep h0 h32 [] := K0.ext E32
    have Z34 : n0 ≤ h32.size := Nat.le_trans Z0 E32.1
    have v35 : own_Arv Z h32 b32 .long (3 : Int32) [(.long (0 : Int64)), (.long (0 : Int64)), (.long (0 : Int64))] (.long (0 : Int64)) := ⟨_, (Arv.new A32 (by decide)).pad (pad_rep [] (.long (0 : Int64)) 3)⟩
    refine own_go st32 ?_
    refine own_go (S' := T32.setTop (mkF m 77 #[.val (.long q0), .second, .val (.long q1), .second, .val (.long q2), .second, .val (.long (minL_r q0 q1)), .second, .val (.long (maxL_r q0 q1)), .second, .val (.long (if (maxL_r q0 q1) < (if q2 < ((minL_r q0 q1) - (1 : Int64)) then ((minL_r q0 q1) - (1 : Int64)) else q2) then (maxL_r q0 q1) else (if q2 < ((minL_r q0 q1) - (1 : Int64)) then ((minL_r q0 q1) - (1 : Int64)) else q2))), .second] [(.long (minL_r q0 q1)), (.int (0 : Int32)), (.ref b32), (.ref b32)])) (fun t k => ?_) ?_
    · show Steps p.tables e below (T32.setTop (mkF m 73 #[.val (.long q0), .second, .val (.long q1), .second, .val (.long q2), .second, .val (.long (minL_r q0 q1)), .second, .val (.long (maxL_r q0 q1)), .second, .val (.long (if (maxL_r q0 q1) < (if q2 < ((minL_r q0 q1) - (1 : Int64)) then ((minL_r q0 q1) - (1 : Int64)) else q2) then (maxL_r q0 q1) else (if q2 < ((minL_r q0 q1) - (1 : Int64)) then ((minL_r q0 q1) - (1 : Int64)) else q2))), .second] [(.ref b32)])) t
      refine XS.dup X32.here hx rfl (hb hby d1_73) rfl rfl ?_
      show Steps p.tables e below (T32.setTop (mkF m 74 #[.val (.long q0), .second, .val (.long q1), .second, .val (.long q2), .second, .val (.long (minL_r q0 q1)), .second, .val (.long (maxL_r q0 q1)), .second, .val (.long (if (maxL_r q0 q1) < (if q2 < ((minL_r q0 q1) - (1 : Int64)) then ((minL_r q0 q1) - (1 : Int64)) else q2) then (maxL_r q0 q1) else (if q2 < ((minL_r q0 q1) - (1 : Int64)) then ((minL_r q0 q1) - (1 : Int64)) else q2))), .second] [(.ref b32), (.ref b32)])) t
      refine XS.iconst X32.here hx rfl (hb hby d1_74) ?_
      show Steps p.tables e below (T32.setTop (mkF m 75 #[.val (.long q0), .second, .val (.long q1), .second, .val (.long q2), .second, .val (.long (minL_r q0 q1)), .second, .val (.long (maxL_r q0 q1)), .second, .val (.long (if (maxL_r q0 q1) < (if q2 < ((minL_r q0 q1) - (1 : Int64)) then ((minL_r q0 q1) - (1 : Int64)) else q2) then (maxL_r q0 q1) else (if q2 < ((minL_r q0 q1) - (1 : Int64)) then ((minL_r q0 q1) - (1 : Int64)) else q2))), .second] [(.int (0 : Int32)), (.ref b32), (.ref b32)])) t
      refine XS.lload X32.here hx rfl (hb hby d1_75) rfl ?_
      exact k
    obtain ⟨kq36, cl36, Ar36, q36, S36, Nn36, Hh36, G36⟩ := v35
    have hin36 : ¬ ((0 : Int32) < 0 ∨ cl36.slots.size ≤ ((0 : Int32)).toNatClampNeg) := inb_of S36 ⟨by decide, by decide⟩
    obtain ⟨T36, h36, X36, e36, W36, st36⟩ := stJ X32 hx hZ e32 Ar36 (j := (0 : Int32)) hin36 (g := (mkF m 77 #[.val (.long q0), .second, .val (.long q1), .second, .val (.long q2), .second, .val (.long (minL_r q0 q1)), .second, .val (.long (maxL_r q0 q1)), .second, .val (.long (if (maxL_r q0 q1) < (if q2 < ((minL_r q0 q1) - (1 : Int64)) then ((minL_r q0 q1) - (1 : Int64)) else q2) then (maxL_r q0 q1) else (if q2 < ((minL_r q0 q1) - (1 : Int64)) then ((minL_r q0 q1) - (1 : Int64)) else q2))), .second] [(.long (minL_r q0 q1)), (.int (0 : Int32)), (.ref b32), (.ref b32)])) rfl rfl (hb hby d1_77)
    have v37 : own_Arv Z h36 b32 .long (3 : Int32) [(.long (minL_r q0 q1)), (.long (0 : Int64)), (.long (0 : Int64))] (.long (0 : Int64)) := ⟨_, Arv.set Ar36 q36 S36 Nn36 Hh36 G36 rfl W36 0 rfl (Nat.le_of_ble_eq_true rfl)⟩
    have N38 := Fr.snoc X36 N8 g_b32
    have Z39 : n0 ≤ h36.size := Nat.le_trans Z34 (Keep.of_wr W36).1
    have K40 : Keep h0 h36 [] := K33.wr W36 (Or.inr sz_b32)
    refine own_go st36 ?_
    refine own_go (S' := T36.setTop (mkF m 82 #[.val (.long q0), .second, .val (.long q1), .second, .val (.long q2), .second, .val (.long (minL_r q0 q1)), .second, .val (.long (maxL_r q0 q1)), .second, .val (.long (if (maxL_r q0 q1) < (if q2 < ((minL_r q0 q1) - (1 : Int64)) then ((minL_r q0 q1) - (1 : Int64)) else q2) then (maxL_r q0 q1) else (if q2 < ((minL_r q0 q1) - (1 : Int64)) then ((minL_r q0 q1) - (1 : Int64)) else q2))), .second] [(.long (maxL_r q0 q1)), (.int (1 : Int32)), (.ref b32), (.ref b32)])) (fun t k => ?_) ?_
    · show Steps p.tables e below (T36.setTop (mkF m 78 #[.val (.long q0), .second, .val (.long q1), .second, .val (.long q2), .second, .val (.long (minL_r q0 q1)), .second, .val (.long (maxL_r q0 q1)), .second, .val (.long (if (maxL_r q0 q1) < (if q2 < ((minL_r q0 q1) - (1 : Int64)) then ((minL_r q0 q1) - (1 : Int64)) else q2) then (maxL_r q0 q1) else (if q2 < ((minL_r q0 q1) - (1 : Int64)) then ((minL_r q0 q1) - (1 : Int64)) else q2))), .second] [(.ref b32)])) t
      refine XS.dup X36.here hx rfl (hb hby d1_78) rfl rfl ?_
      show Steps p.tables e below (T36.setTop (mkF m 79 #[.val (.long q0), .second, .val (.long q1), .second, .val (.long q2), .second, .val (.long (minL_r q0 q1)), .second, .val (.long (maxL_r q0 q1)), .second, .val (.long (if (maxL_r q0 q1) < (if q2 < ((minL_r q0 q1) - (1 : Int64)) then ((minL_r q0 q1) - (1 : Int64)) else q2) then (maxL_r q0 q1) else (if q2 < ((minL_r q0 q1) - (1 : Int64)) then ((minL_r q0 q1) - (1 : Int64)) else q2))), .second] [(.ref b32), (.ref b32)])) t
      refine XS.iconst X36.here hx rfl (hb hby d1_79) ?_
      show Steps p.tables e below (T36.setTop (mkF m 80 #[.val (.long q0), .second, .val (.long q1), .second, .val (.long q2), .second, .val (.long (minL_r q0 q1)), .second, .val (.long (maxL_r q0 q1)), .second, .val (.long (if (maxL_r q0 q1) < (if q2 < ((minL_r q0 q1) - (1 : Int64)) then ((minL_r q0 q1) - (1 : Int64)) else q2) then (maxL_r q0 q1) else (if q2 < ((minL_r q0 q1) - (1 : Int64)) then ((minL_r q0 q1) - (1 : Int64)) else q2))), .second] [(.int (1 : Int32)), (.ref b32), (.ref b32)])) t
      refine XS.lload X36.here hx rfl (hb hby d1_80) rfl ?_
      exact k
    obtain ⟨kq41, cl41, Ar41, q41, S41, Nn41, Hh41, G41⟩ := v37
    have hin41 : ¬ ((1 : Int32) < 0 ∨ cl41.slots.size ≤ ((1 : Int32)).toNatClampNeg) := inb_of S41 ⟨by decide, by decide⟩
    obtain ⟨T41, h41, X41, e41, W41, st41⟩ := stJ X36 hx hZ e36 Ar41 (j := (1 : Int32)) hin41 (g := (mkF m 82 #[.val (.long q0), .second, .val (.long q1), .second, .val (.long q2), .second, .val (.long (minL_r q0 q1)), .second, .val (.long (maxL_r q0 q1)), .second, .val (.long (if (maxL_r q0 q1) < (if q2 < ((minL_r q0 q1) - (1 : Int64)) then ((minL_r q0 q1) - (1 : Int64)) else q2) then (maxL_r q0 q1) else (if q2 < ((minL_r q0 q1) - (1 : Int64)) then ((minL_r q0 q1) - (1 : Int64)) else q2))), .second] [(.long (maxL_r q0 q1)), (.int (1 : Int32)), (.ref b32), (.ref b32)])) rfl rfl (hb hby d1_82)
    have v42 : own_Arv Z h41 b32 .long (3 : Int32) [(.long (minL_r q0 q1)), (.long (maxL_r q0 q1)), (.long (0 : Int64))] (.long (0 : Int64)) := ⟨_, Arv.set Ar41 q41 S41 Nn41 Hh41 G41 rfl W41 1 rfl (Nat.le_of_ble_eq_true rfl)⟩
    have N43 := Fr.snoc X41 N38 g_b32
    have Z44 : n0 ≤ h41.size := Nat.le_trans Z39 (Keep.of_wr W41).1
    have K45 : Keep h0 h41 [] := K40.wr W41 (Or.inr sz_b32)
    refine own_go st41 ?_
    refine own_go (S' := T41.setTop (mkF m 87 #[.val (.long q0), .second, .val (.long q1), .second, .val (.long q2), .second, .val (.long (minL_r q0 q1)), .second, .val (.long (maxL_r q0 q1)), .second, .val (.long (if (maxL_r q0 q1) < (if q2 < ((minL_r q0 q1) - (1 : Int64)) then ((minL_r q0 q1) - (1 : Int64)) else q2) then (maxL_r q0 q1) else (if q2 < ((minL_r q0 q1) - (1 : Int64)) then ((minL_r q0 q1) - (1 : Int64)) else q2))), .second] [(.long (if (maxL_r q0 q1) < (if q2 < ((minL_r q0 q1) - (1 : Int64)) then ((minL_r q0 q1) - (1 : Int64)) else q2) then (maxL_r q0 q1) else (if q2 < ((minL_r q0 q1) - (1 : Int64)) then ((minL_r q0 q1) - (1 : Int64)) else q2))), (.int (2 : Int32)), (.ref b32), (.ref b32)])) (fun t k => ?_) ?_
    · show Steps p.tables e below (T41.setTop (mkF m 83 #[.val (.long q0), .second, .val (.long q1), .second, .val (.long q2), .second, .val (.long (minL_r q0 q1)), .second, .val (.long (maxL_r q0 q1)), .second, .val (.long (if (maxL_r q0 q1) < (if q2 < ((minL_r q0 q1) - (1 : Int64)) then ((minL_r q0 q1) - (1 : Int64)) else q2) then (maxL_r q0 q1) else (if q2 < ((minL_r q0 q1) - (1 : Int64)) then ((minL_r q0 q1) - (1 : Int64)) else q2))), .second] [(.ref b32)])) t
      refine XS.dup X41.here hx rfl (hb hby d1_83) rfl rfl ?_
      show Steps p.tables e below (T41.setTop (mkF m 84 #[.val (.long q0), .second, .val (.long q1), .second, .val (.long q2), .second, .val (.long (minL_r q0 q1)), .second, .val (.long (maxL_r q0 q1)), .second, .val (.long (if (maxL_r q0 q1) < (if q2 < ((minL_r q0 q1) - (1 : Int64)) then ((minL_r q0 q1) - (1 : Int64)) else q2) then (maxL_r q0 q1) else (if q2 < ((minL_r q0 q1) - (1 : Int64)) then ((minL_r q0 q1) - (1 : Int64)) else q2))), .second] [(.ref b32), (.ref b32)])) t
      refine XS.iconst X41.here hx rfl (hb hby d1_84) ?_
      show Steps p.tables e below (T41.setTop (mkF m 85 #[.val (.long q0), .second, .val (.long q1), .second, .val (.long q2), .second, .val (.long (minL_r q0 q1)), .second, .val (.long (maxL_r q0 q1)), .second, .val (.long (if (maxL_r q0 q1) < (if q2 < ((minL_r q0 q1) - (1 : Int64)) then ((minL_r q0 q1) - (1 : Int64)) else q2) then (maxL_r q0 q1) else (if q2 < ((minL_r q0 q1) - (1 : Int64)) then ((minL_r q0 q1) - (1 : Int64)) else q2))), .second] [(.int (2 : Int32)), (.ref b32), (.ref b32)])) t
      refine XS.lload X41.here hx rfl (hb hby d1_85) rfl ?_
      exact k
    obtain ⟨kq46, cl46, Ar46, q46, S46, Nn46, Hh46, G46⟩ := v42
    have hin46 : ¬ ((2 : Int32) < 0 ∨ cl46.slots.size ≤ ((2 : Int32)).toNatClampNeg) := inb_of S46 ⟨by decide, by decide⟩
    obtain ⟨T46, h46, X46, e46, W46, st46⟩ := stJ X41 hx hZ e41 Ar46 (j := (2 : Int32)) hin46 (g := (mkF m 87 #[.val (.long q0), .second, .val (.long q1), .second, .val (.long q2), .second, .val (.long (minL_r q0 q1)), .second, .val (.long (maxL_r q0 q1)), .second, .val (.long (if (maxL_r q0 q1) < (if q2 < ((minL_r q0 q1) - (1 : Int64)) then ((minL_r q0 q1) - (1 : Int64)) else q2) then (maxL_r q0 q1) else (if q2 < ((minL_r q0 q1) - (1 : Int64)) then ((minL_r q0 q1) - (1 : Int64)) else q2))), .second] [(.long (if (maxL_r q0 q1) < (if q2 < ((minL_r q0 q1) - (1 : Int64)) then ((minL_r q0 q1) - (1 : Int64)) else q2) then (maxL_r q0 q1) else (if q2 < ((minL_r q0 q1) - (1 : Int64)) then ((minL_r q0 q1) - (1 : Int64)) else q2))), (.int (2 : Int32)), (.ref b32), (.ref b32)])) rfl rfl (hb hby d1_87)
    have v47 : own_Arv Z h46 b32 .long (3 : Int32) [(.long (minL_r q0 q1)), (.long (maxL_r q0 q1)), (.long (if (maxL_r q0 q1) < (if q2 < ((minL_r q0 q1) - (1 : Int64)) then ((minL_r q0 q1) - (1 : Int64)) else q2) then (maxL_r q0 q1) else (if q2 < ((minL_r q0 q1) - (1 : Int64)) then ((minL_r q0 q1) - (1 : Int64)) else q2)))] (.long (0 : Int64)) := ⟨_, Arv.set Ar46 q46 S46 Nn46 Hh46 G46 rfl W46 2 rfl (Nat.le_of_ble_eq_true rfl)⟩
    have N48 := Fr.snoc X46 N43 g_b32
    have Z49 : n0 ≤ h46.size := Nat.le_trans Z44 (Keep.of_wr W46).1
    have K50 : Keep h0 h46 [] := K45.wr W46 (Or.inr sz_b32)
    refine own_go st46 ?_
    obtain ⟨fs, hr, hrun, hended, hW, hsame⟩ := X46.leave (v := some (.ref b32)) (fun h => by rw [Bd.returns] at h; cases h)
    refine own_end (v := some (.ref b32)) ?_ hrun hended ?_ hW (hsame.mono (by decide) (by decide))
    · show Steps p.tables e below (T46.setTop (mkF m 88 #[.val (.long q0), .second, .val (.long q1), .second, .val (.long q2), .second, .val (.long (minL_r q0 q1)), .second, .val (.long (maxL_r q0 q1)), .second, .val (.long (if (maxL_r q0 q1) < (if q2 < ((minL_r q0 q1) - (1 : Int64)) then ((minL_r q0 q1) - (1 : Int64)) else q2) then (maxL_r q0 q1) else (if q2 < ((minL_r q0 q1) - (1 : Int64)) then ((minL_r q0 q1) - (1 : Int64)) else q2))), .second] [(.ref b32)])) _
      jvm_step X46.here [X46.here.top, hx, (hb hby d1_88), X46.method', Bd.returns, Value.isRef, FieldType.isReference]
      first | (intro acts; rw [hr _ acts rfl rfl rfl]) | rw [hr _ _ rfl rfl rfl]
      exact Steps.refl _
    · show Qnorm Z q0 q1 q2 h0 n0 _ T46.heap _
      rw [e46]
      exact ⟨b32, rfl, N48, K50, sz_b32, (by simp only [norm_a_x0__0, norm_a_x0__1, norm_a_x0__2, if_neg hc20]; exact v47)⟩
theorem own_mm (x y : Int64) : ¬ maxL_r x y < minL_r x y := by
  unfold maxL_r minL_r
  simp only [Int64.lt_iff_toInt_lt]
  split <;> split <;> omega
theorem own_clamp (lo hi z : Int64) (h1 : ¬ hi < lo) (h2 : -2 ^ 63 < lo.toInt) : ¬ (if hi < (if z < (lo - (1 : Int64)) then (lo - (1 : Int64)) else z) then hi else (if z < (lo - (1 : Int64)) then (lo - (1 : Int64)) else z)) < lo - (1 : Int64) ∧ ¬ hi < (if hi < (if z < (lo - (1 : Int64)) then (lo - (1 : Int64)) else z) then hi else (if z < (lo - (1 : Int64)) then (lo - (1 : Int64)) else z)) := by
  have e1 : (1 : Int64).toInt = 1 := rfl
  have b1 := lo.toInt_lt
  rw [Int64.lt_iff_toInt_lt] at h1
  have s1 : (lo - (1 : Int64)).toInt = lo.toInt - 1 := by rw [Jvm.Kit.i64_sub (by omega) (by omega)]; omega
  generalize lo - (1 : Int64) = l1 at *
  simp only [Int64.lt_iff_toInt_lt]
  split <;> split <;> omega
theorem own_norm (x y z : Int64) : ¬ norm_a_x0__1 x y < norm_a_x0__0 x y ∧ ¬ norm_a_x0__2 x y z < norm_a_x0__0 x y - (1 : Int64) ∧ ¬ norm_a_x0__1 x y < norm_a_x0__2 x y z := by
  have mm := own_mm x y
  unfold norm_a_x0__0 norm_a_x0__1 norm_a_x0__2
  generalize minL_r x y = m at *
  generalize maxL_r x y = M at *
  by_cases h : m = (-9223372036854775808 : Int64)
  · subst h
    simp only [if_true]
    have hl : -2 ^ 63 < ((-9223372036854775808 : Int64) + (1 : Int64)).toInt := by decide
    have hm : ¬ maxL_r M ((-9223372036854775808 : Int64) + (1 : Int64)) < (-9223372036854775808 : Int64) + (1 : Int64) := by
      unfold maxL_r
      simp only [Int64.lt_iff_toInt_lt]
      split <;> omega
    generalize maxL_r M ((-9223372036854775808 : Int64) + (1 : Int64)) = H at *
    exact ⟨hm, own_clamp _ _ z hm hl⟩
  · simp only [if_neg h]
    have b := m.le_toInt
    have hl : -2 ^ 63 < m.toInt := by
      have : m.toInt ≠ -2 ^ 63 := fun e => h (Int64.toInt_inj.mp (by rw [e]; rfl))
      omega
    exact ⟨mm, own_clamp _ _ z mm hl⟩
theorem d4_0 : decode prog_7_method_1_code 0 = .ok (.aload_n 0, 1) := by decide +kernel
theorem d4_1 : decode prog_7_method_1_code 1 = .ok (.invokespecial 1, 3) := by decide +kernel
theorem d4_4 : decode prog_7_method_1_code 4 = .ok (.lload_n 1, 1) := by decide +kernel
theorem d4_5 : decode prog_7_method_1_code 5 = .ok (.lload_n 3, 1) := by decide +kernel
theorem d4_6 : decode prog_7_method_1_code 6 = .ok (.lcmp, 1) := by decide +kernel
theorem d4_7 : decode prog_7_method_1_code 7 = .ok (.ifCond .gt 19, 3) := by decide +kernel
theorem d4_10 : decode prog_7_method_1_code 10 = .ok (.lload 5, 2) := by decide +kernel
theorem d4_12 : decode prog_7_method_1_code 12 = .ok (.lload_n 1, 1) := by decide +kernel
theorem d4_13 : decode prog_7_method_1_code 13 = .ok (.lconst 1, 1) := by decide +kernel
theorem d4_14 : decode prog_7_method_1_code 14 = .ok (.lsub, 1) := by decide +kernel
theorem d4_15 : decode prog_7_method_1_code 15 = .ok (.lcmp, 1) := by decide +kernel
theorem d4_16 : decode prog_7_method_1_code 16 = .ok (.ifCond .lt 10, 3) := by decide +kernel
theorem d4_19 : decode prog_7_method_1_code 19 = .ok (.lload 5, 2) := by decide +kernel
theorem d4_21 : decode prog_7_method_1_code 21 = .ok (.lload_n 3, 1) := by decide +kernel
theorem d4_22 : decode prog_7_method_1_code 22 = .ok (.lcmp, 1) := by decide +kernel
theorem d4_23 : decode prog_7_method_1_code 23 = .ok (.ifCond .le 24, 3) := by decide +kernel
theorem d4_47 : decode prog_7_method_1_code 47 = .ok (.aload_n 0, 1) := by decide +kernel
theorem d4_48 : decode prog_7_method_1_code 48 = .ok (.lload_n 1, 1) := by decide +kernel
theorem d4_49 : decode prog_7_method_1_code 49 = .ok (.putfield 16, 3) := by decide +kernel
theorem d4_52 : decode prog_7_method_1_code 52 = .ok (.aload_n 0, 1) := by decide +kernel
theorem d4_53 : decode prog_7_method_1_code 53 = .ok (.lload_n 3, 1) := by decide +kernel
theorem d4_54 : decode prog_7_method_1_code 54 = .ok (.putfield 22, 3) := by decide +kernel
theorem d4_57 : decode prog_7_method_1_code 57 = .ok (.aload_n 0, 1) := by decide +kernel
theorem d4_58 : decode prog_7_method_1_code 58 = .ok (.lload 5, 2) := by decide +kernel
theorem d4_60 : decode prog_7_method_1_code 60 = .ok (.putfield 25, 3) := by decide +kernel
theorem d4_63 : decode prog_7_method_1_code 63 = .ok (.return_, 1) := by decide +kernel
theorem pn_97 : plainName "com/example/sure_sequence/suresequence/RegionRange" = true := by first | (simp [plainName, overriddenIn]; done) | decide +kernel
theorem ef_ini (m : MethodId) (x0 : Addr) (x1 : Int64) (x2 : Int64) (x3 : Int64) : entryFrame m #[(.ref x0), (.long x1), (.long x2), (.long x3)] 7 = mkF m 0 #[.val (.ref x0), .val (.long x1), .second, .val (.long x2), .second, .val (.long x3), .second] [] := by first | (simp [entryFrame, mkF, argsToLocals, Value.category]; done) | rfl
def Qini (Z : State) (o0 : Addr) (q1 : Int64) (q2 : Int64) (q3 : Int64) (w_o0_low : Int64) (w_o0_high : Int64) (w_o0_highWater : Int64) (h0 : Heap) (n0 : Nat) (v : Option Value) (h : Heap) (L : List Loc) : Prop := v = none ∧ Fr n0 L ∧ Keep h0 h [o0] ∧ Exa Z h o0 "com/example/sure_sequence/suresequence/RegionRange" ∧ Fld Z h o0 "com/example/sure_sequence/suresequence/RegionRange" "low" "J" (.long q1) ∧ Fld Z h o0 "com/example/sure_sequence/suresequence/RegionRange" "high" "J" (.long q2) ∧ Fld Z h o0 "com/example/sure_sequence/suresequence/RegionRange" "highWater" "J" (.long q3)
set_option maxRecDepth 65536 in
set_option maxHeartbeats 40000000 in
theorem ini (l : Launch) (Z : State) (a0 : Array Value) (hw : ∀ d ∈ tables_1, d.before a0 Z = true) (ws : List Jvm.Cond) (o0 : Addr) (q1 : Int64) (q2 : Int64) (q3 : Int64) (w_o0_low : Int64) (w_o0_high : Int64) (w_o0_highWater : Int64) (h0 : Heap) (n0 : Nat) (Z0 : n0 ≤ h0.size) (hc7 : ¬ (q2 < q1)) (hc16 : ¬ (q3 < (q1 - (1 : Int64)))) (hc23 : ¬ (q2 < q3)) (E_o0 : Exa Z h0 o0 "com/example/sure_sequence/suresequence/RegionRange") (F_o0_low : Fld Z h0 o0 "com/example/sure_sequence/suresequence/RegionRange" "low" "J" (.long w_o0_low)) (F_o0_high : Fld Z h0 o0 "com/example/sure_sequence/suresequence/RegionRange" "high" "J" (.long w_o0_high)) (F_o0_highWater : Fld Z h0 o0 "com/example/sure_sequence/suresequence/RegionRange" "highWater" "J" (.long w_o0_highWater)) (g_o0 : n0 ≤ o0) :
    MetFree l (⟨"com/example/sure_sequence/suresequence/RegionRange", "<init>", "(JJJ)V"⟩ : MethodName) (head1 (Jvm.Cond.code (⟨"com/example/sure_sequence/suresequence/RegionRange", "<init>", "(JJJ)V"⟩ : MethodName) prog_7_method_1_code 7 none :: ws) ({ frames := 1, cells := 0, slots := 0, locals := 12 } : Room)) (fun a U => a = #[(.ref o0), (.long q1), (.long q2), (.long q3)] ∧ Z.Warmed39 U.vm ∧ U.heap = h0) (fun _ _ _ _ _ => True) (fun _ U o U' => ∃ v L, o = .returned v ∧ Qini Z o0 q1 q2 q3 w_o0_low w_o0_high w_o0_highWater h0 n0 v U'.heap L ∧ FrameEnd U o U' L ({ frames := 1, cells := 0, slots := 0, locals := 12 } : Room).cells ({ frames := 1, cells := 0, slots := 0, locals := 12 } : Room).slots) := by
  refine MetFree.of_bodySF (plainFor_of_name pn_97) hisR ?_
  intro p e s m args below meth c s₁ Bd hml0 hP hK
  obtain ⟨rfl, hZ, hh⟩ := hP
  have hx := Bd.exec
  have hby := Bd.bytes
  have hml : c.maxLocals = 7 := hml0
  have hown : s.vm.findClass "com/example/sure_sequence/suresequence/RegionRange" = some m.cls := findClass_of_methodNamed Bd.named
  have hnm := (name_of_methodNamed Bd.named Bd.method).1
  have X0 : Stand p l e ({ frames := 1, cells := 0, slots := 0, locals := 12 } : Room) s m #[(.ref o0), (.long q1), (.long q2), (.long q3)] below meth c s₁ [] 0 0 := Stand.of_body Bd
  have e0 : s₁.heap = h0 := by rw [← hh, Bd.state]; rfl
  have N0 := Fr.nil n0
  show own_Go p e below s (Qini Z o0 q1 q2 q3 w_o0_low w_o0_high w_o0_highWater h0 n0) ({ frames := 1, cells := 0, slots := 0, locals := 12 } : Room).cells ({ frames := 1, cells := 0, slots := 0, locals := 12 } : Room).slots (s₁.setTop (entryFrame m #[(.ref o0), (.long q1), (.long q2), (.long q3)] 7))
  rw [ef_ini m o0 q1 q2 q3]
  have K0 : Keep h0 h0 [o0] := Keep.refl h0 [o0]
  refine own_go (S' := s₁.setTop (mkF m 1 #[.val (.ref o0), .val (.long q1), .second, .val (.long q2), .second, .val (.long q3), .second] [(.ref o0)])) (fun t k => ?_) ?_
  · show Steps p.tables e below (s₁.setTop (mkF m 0 #[.val (.ref o0), .val (.long q1), .second, .val (.long q2), .second, .val (.long q3), .second] [])) t
    refine XS.aloadN X0.here hx rfl (hb hby d4_0) rfl rfl ?_
    exact k
  obtain ⟨T51, X51, e51, st51⟩ := initO X0 hx hZ hown (hw _ (List.mem_of_getElem? (i := 19) rfl)) (hw _ (List.mem_of_getElem? (i := 20) rfl)) (hw _ (List.mem_of_getElem? (i := 21) rfl)) e0 (g := (mkF m 1 #[.val (.ref o0), .val (.long q1), .second, .val (.long q2), .second, .val (.long q3), .second] [(.ref o0)])) rfl (by rw [hml]; rfl) rfl (hb hby d4_1) (by decide) (W := 0) (by show 2 * 0 + _ ≤ _; exact Nat.le_of_eq rfl) (by decide)
  refine own_go st51 ?_
  refine own_go (S' := T51.setTop (mkF m 49 #[.val (.ref o0), .val (.long q1), .second, .val (.long q2), .second, .val (.long q3), .second] [(.long q1), (.ref o0)])) (fun t k => ?_) ?_
  · show Steps p.tables e below (T51.setTop (mkF m 4 #[.val (.ref o0), .val (.long q1), .second, .val (.long q2), .second, .val (.long q3), .second] [])) t
    refine XS.lloadN X51.here hx rfl (hb hby d4_4) rfl ?_
    show Steps p.tables e below (T51.setTop (mkF m 5 #[.val (.ref o0), .val (.long q1), .second, .val (.long q2), .second, .val (.long q3), .second] [(.long q1)])) t
    refine XS.lloadN X51.here hx rfl (hb hby d4_5) rfl ?_
    show Steps p.tables e below (T51.setTop (mkF m 6 #[.val (.ref o0), .val (.long q1), .second, .val (.long q2), .second, .val (.long q3), .second] [(.long q2), (.long q1)])) t
    refine XS.lcmp X51.here hx rfl (hb hby d4_6) rfl ?_
    show Steps p.tables e below (T51.setTop (mkF m 7 #[.val (.ref o0), .val (.long q1), .second, .val (.long q2), .second, .val (.long q3), .second] [(.int (Jvm.Free.XT.cmpL q1 q2))])) t
    refine XS.ifNo X51.here hx rfl (hb hby d4_7) rfl (Jvm.Free.XT.ll_gt_f hc7) ?_
    show Steps p.tables e below (T51.setTop (mkF m 10 #[.val (.ref o0), .val (.long q1), .second, .val (.long q2), .second, .val (.long q3), .second] [])) t
    refine XS.lload X51.here hx rfl (hb hby d4_10) rfl ?_
    show Steps p.tables e below (T51.setTop (mkF m 12 #[.val (.ref o0), .val (.long q1), .second, .val (.long q2), .second, .val (.long q3), .second] [(.long q3)])) t
    refine XS.lloadN X51.here hx rfl (hb hby d4_12) rfl ?_
    show Steps p.tables e below (T51.setTop (mkF m 13 #[.val (.ref o0), .val (.long q1), .second, .val (.long q2), .second, .val (.long q3), .second] [(.long q1), (.long q3)])) t
    refine XS.lconst X51.here hx rfl (hb hby d4_13) ?_
    show Steps p.tables e below (T51.setTop (mkF m 14 #[.val (.ref o0), .val (.long q1), .second, .val (.long q2), .second, .val (.long q3), .second] [(.long (1 : Int64)), (.long q1), (.long q3)])) t
    refine XS.lsub X51.here hx rfl (hb hby d4_14) rfl ?_
    show Steps p.tables e below (T51.setTop (mkF m 15 #[.val (.ref o0), .val (.long q1), .second, .val (.long q2), .second, .val (.long q3), .second] [(.long (q1 - (1 : Int64))), (.long q3)])) t
    refine XS.lcmp X51.here hx rfl (hb hby d4_15) rfl ?_
    show Steps p.tables e below (T51.setTop (mkF m 16 #[.val (.ref o0), .val (.long q1), .second, .val (.long q2), .second, .val (.long q3), .second] [(.int (Jvm.Free.XT.cmpL q3 (q1 - (1 : Int64))))])) t
    refine XS.ifNo X51.here hx rfl (hb hby d4_16) rfl (Jvm.Free.XT.ll_lt_f hc16) ?_
    show Steps p.tables e below (T51.setTop (mkF m 19 #[.val (.ref o0), .val (.long q1), .second, .val (.long q2), .second, .val (.long q3), .second] [])) t
    refine XS.lload X51.here hx rfl (hb hby d4_19) rfl ?_
    show Steps p.tables e below (T51.setTop (mkF m 21 #[.val (.ref o0), .val (.long q1), .second, .val (.long q2), .second, .val (.long q3), .second] [(.long q3)])) t
    refine XS.lloadN X51.here hx rfl (hb hby d4_21) rfl ?_
    show Steps p.tables e below (T51.setTop (mkF m 22 #[.val (.ref o0), .val (.long q1), .second, .val (.long q2), .second, .val (.long q3), .second] [(.long q2), (.long q3)])) t
    refine XS.lcmp X51.here hx rfl (hb hby d4_22) rfl ?_
    show Steps p.tables e below (T51.setTop (mkF m 23 #[.val (.ref o0), .val (.long q1), .second, .val (.long q2), .second, .val (.long q3), .second] [(.int (Jvm.Free.XT.cmpL q3 q2))])) t
    refine XS.ifYes X51.here hx rfl (pc0 := 23) (pc' := 47) rfl (hb hby d4_23) rfl (Jvm.Free.XT.ll_le_t hc23) (by decide) (by decide) ?_
    show Steps p.tables e below (T51.setTop (mkF m 47 #[.val (.ref o0), .val (.long q1), .second, .val (.long q2), .second, .val (.long q3), .second] [])) t
    refine XS.aloadN X51.here hx rfl (hb hby d4_47) rfl rfl ?_
    show Steps p.tables e below (T51.setTop (mkF m 48 #[.val (.ref o0), .val (.long q1), .second, .val (.long q2), .second, .val (.long q3), .second] [(.ref o0)])) t
    refine XS.lloadN X51.here hx rfl (hb hby d4_48) rfl ?_
    exact k
  obtain ⟨T52, h52, X52, e52, W52, st52⟩ := putF X51 hx hZ hown (host := "") (Or.inl (hw _ (List.mem_of_getElem? (i := 22) rfl))) Via.refl e51 F_o0_low E_o0 (Or.inr ⟨(hw _ (List.mem_of_getElem? (i := 23) rfl)), rfl, hnm⟩) (hw _ (List.mem_of_getElem? (i := 14) rfl)) (ty := .long) (by decide) rfl rfl (g := (mkF m 49 #[.val (.ref o0), .val (.long q1), .second, .val (.long q2), .second, .val (.long q3), .second] [(.long q1), (.ref o0)])) rfl rfl (hb hby d4_49)
  have f53 : Exa Z h52 o0 "com/example/sure_sequence/suresequence/RegionRange" := E_o0.wr W52
  have f54 : Fld Z h52 o0 "com/example/sure_sequence/suresequence/RegionRange" "high" "J" (.long w_o0_high) := F_o0_high.other W52 (Or.inr (slot_ne (Or.inr (hw _ (List.mem_of_getElem? (i := 25) rfl))) (Or.inr (hw _ (List.mem_of_getElem? (i := 23) rfl))) (by decide) (t := .long) (t' := .long) (by decide) (by decide)))
  have f55 : Fld Z h52 o0 "com/example/sure_sequence/suresequence/RegionRange" "highWater" "J" (.long w_o0_highWater) := F_o0_highWater.other W52 (Or.inr (slot_ne (Or.inr (hw _ (List.mem_of_getElem? (i := 27) rfl))) (Or.inr (hw _ (List.mem_of_getElem? (i := 23) rfl))) (by decide) (t := .long) (t' := .long) (by decide) (by decide)))
  have f56 : Fld Z h52 o0 "com/example/sure_sequence/suresequence/RegionRange" "low" "J" (.long q1) := F_o0_low.same W52
  have N57 := Fr.snoc X52 N0 g_o0
  have Z58 : n0 ≤ h52.size := Nat.le_trans Z0 (Keep.of_wr W52).1
  have K59 : Keep h0 h52 [o0] := K0.wr W52 (Or.inl (List.mem_of_getElem? (i := 0) rfl))
  refine own_go st52 ?_
  refine own_go (S' := T52.setTop (mkF m 54 #[.val (.ref o0), .val (.long q1), .second, .val (.long q2), .second, .val (.long q3), .second] [(.long q2), (.ref o0)])) (fun t k => ?_) ?_
  · show Steps p.tables e below (T52.setTop (mkF m 52 #[.val (.ref o0), .val (.long q1), .second, .val (.long q2), .second, .val (.long q3), .second] [])) t
    refine XS.aloadN X52.here hx rfl (hb hby d4_52) rfl rfl ?_
    show Steps p.tables e below (T52.setTop (mkF m 53 #[.val (.ref o0), .val (.long q1), .second, .val (.long q2), .second, .val (.long q3), .second] [(.ref o0)])) t
    refine XS.lloadN X52.here hx rfl (hb hby d4_53) rfl ?_
    exact k
  obtain ⟨T60, h60, X60, e60, W60, st60⟩ := putF X52 hx hZ hown (host := "") (Or.inl (hw _ (List.mem_of_getElem? (i := 24) rfl))) Via.refl e52 f54 f53 (Or.inr ⟨(hw _ (List.mem_of_getElem? (i := 25) rfl)), rfl, hnm⟩) (hw _ (List.mem_of_getElem? (i := 14) rfl)) (ty := .long) (by decide) rfl rfl (g := (mkF m 54 #[.val (.ref o0), .val (.long q1), .second, .val (.long q2), .second, .val (.long q3), .second] [(.long q2), (.ref o0)])) rfl rfl (hb hby d4_54)
  have f61 : Exa Z h60 o0 "com/example/sure_sequence/suresequence/RegionRange" := f53.wr W60
  have f62 : Fld Z h60 o0 "com/example/sure_sequence/suresequence/RegionRange" "highWater" "J" (.long w_o0_highWater) := f55.other W60 (Or.inr (slot_ne (Or.inr (hw _ (List.mem_of_getElem? (i := 27) rfl))) (Or.inr (hw _ (List.mem_of_getElem? (i := 25) rfl))) (by decide) (t := .long) (t' := .long) (by decide) (by decide)))
  have f63 : Fld Z h60 o0 "com/example/sure_sequence/suresequence/RegionRange" "low" "J" (.long q1) := f56.other W60 (Or.inr (slot_ne (Or.inr (hw _ (List.mem_of_getElem? (i := 23) rfl))) (Or.inr (hw _ (List.mem_of_getElem? (i := 25) rfl))) (by decide) (t := .long) (t' := .long) (by decide) (by decide)))
  have f64 : Fld Z h60 o0 "com/example/sure_sequence/suresequence/RegionRange" "high" "J" (.long q2) := f54.same W60
  have N65 := Fr.snoc X60 N57 g_o0
  have Z66 : n0 ≤ h60.size := Nat.le_trans Z58 (Keep.of_wr W60).1
  have K67 : Keep h0 h60 [o0] := K59.wr W60 (Or.inl (List.mem_of_getElem? (i := 0) rfl))
  refine own_go st60 ?_
  refine own_go (S' := T60.setTop (mkF m 60 #[.val (.ref o0), .val (.long q1), .second, .val (.long q2), .second, .val (.long q3), .second] [(.long q3), (.ref o0)])) (fun t k => ?_) ?_
  · show Steps p.tables e below (T60.setTop (mkF m 57 #[.val (.ref o0), .val (.long q1), .second, .val (.long q2), .second, .val (.long q3), .second] [])) t
    refine XS.aloadN X60.here hx rfl (hb hby d4_57) rfl rfl ?_
    show Steps p.tables e below (T60.setTop (mkF m 58 #[.val (.ref o0), .val (.long q1), .second, .val (.long q2), .second, .val (.long q3), .second] [(.ref o0)])) t
    refine XS.lload X60.here hx rfl (hb hby d4_58) rfl ?_
    exact k
  obtain ⟨T68, h68, X68, e68, W68, st68⟩ := putF X60 hx hZ hown (host := "") (Or.inl (hw _ (List.mem_of_getElem? (i := 26) rfl))) Via.refl e60 f62 f61 (Or.inr ⟨(hw _ (List.mem_of_getElem? (i := 27) rfl)), rfl, hnm⟩) (hw _ (List.mem_of_getElem? (i := 14) rfl)) (ty := .long) (by decide) rfl rfl (g := (mkF m 60 #[.val (.ref o0), .val (.long q1), .second, .val (.long q2), .second, .val (.long q3), .second] [(.long q3), (.ref o0)])) rfl rfl (hb hby d4_60)
  have f69 : Exa Z h68 o0 "com/example/sure_sequence/suresequence/RegionRange" := f61.wr W68
  have f70 : Fld Z h68 o0 "com/example/sure_sequence/suresequence/RegionRange" "low" "J" (.long q1) := f63.other W68 (Or.inr (slot_ne (Or.inr (hw _ (List.mem_of_getElem? (i := 23) rfl))) (Or.inr (hw _ (List.mem_of_getElem? (i := 27) rfl))) (by decide) (t := .long) (t' := .long) (by decide) (by decide)))
  have f71 : Fld Z h68 o0 "com/example/sure_sequence/suresequence/RegionRange" "high" "J" (.long q2) := f64.other W68 (Or.inr (slot_ne (Or.inr (hw _ (List.mem_of_getElem? (i := 25) rfl))) (Or.inr (hw _ (List.mem_of_getElem? (i := 27) rfl))) (by decide) (t := .long) (t' := .long) (by decide) (by decide)))
  have f72 : Fld Z h68 o0 "com/example/sure_sequence/suresequence/RegionRange" "highWater" "J" (.long q3) := f62.same W68
  have N73 := Fr.snoc X68 N65 g_o0
  have Z74 : n0 ≤ h68.size := Nat.le_trans Z66 (Keep.of_wr W68).1
  have K75 : Keep h0 h68 [o0] := K67.wr W68 (Or.inl (List.mem_of_getElem? (i := 0) rfl))
  refine own_go st68 ?_
  obtain ⟨fs, hr, hrun, hended, hW, hsame⟩ := X68.leave (v := none) (fun _ => rfl)
  refine own_end (v := none) ?_ hrun hended ?_ hW (hsame.mono (by decide) (by decide))
  · show Steps p.tables e below (T68.setTop (mkF m 63 #[.val (.ref o0), .val (.long q1), .second, .val (.long q2), .second, .val (.long q3), .second] [])) _
    exact X68.returnOut hx Bd.returns (hb hby d4_63) hr
  · show Qini Z o0 q1 q2 q3 w_o0_low w_o0_high w_o0_highWater h0 n0 _ T68.heap _
    rw [e68]
    exact ⟨rfl, N73, K75, f69, f70, f71, f72⟩
theorem d6_0 : decode prog_7_method_10_code 0 = .ok (.aload_n 1, 1) := by decide +kernel
theorem d6_1 : decode prog_7_method_10_code 1 = .ok (.instanceof 17, 3) := by decide +kernel
theorem d6_4 : decode prog_7_method_10_code 4 = .ok (.ifCond .eq 52, 3) := by decide +kernel
theorem d6_7 : decode prog_7_method_10_code 7 = .ok (.aload_n 0, 1) := by decide +kernel
theorem d6_8 : decode prog_7_method_10_code 8 = .ok (.getfield 16, 3) := by decide +kernel
theorem d6_11 : decode prog_7_method_10_code 11 = .ok (.aload_n 1, 1) := by decide +kernel
theorem d6_12 : decode prog_7_method_10_code 12 = .ok (.checkcast 17, 3) := by decide +kernel
theorem d6_15 : decode prog_7_method_10_code 15 = .ok (.getfield 16, 3) := by decide +kernel
theorem d6_18 : decode prog_7_method_10_code 18 = .ok (.lcmp, 1) := by decide +kernel
theorem d6_19 : decode prog_7_method_10_code 19 = .ok (.ifCond .ne 37, 3) := by decide +kernel
theorem d6_22 : decode prog_7_method_10_code 22 = .ok (.aload_n 0, 1) := by decide +kernel
theorem d6_23 : decode prog_7_method_10_code 23 = .ok (.getfield 22, 3) := by decide +kernel
theorem d6_26 : decode prog_7_method_10_code 26 = .ok (.aload_n 1, 1) := by decide +kernel
theorem d6_27 : decode prog_7_method_10_code 27 = .ok (.checkcast 17, 3) := by decide +kernel
theorem d6_30 : decode prog_7_method_10_code 30 = .ok (.getfield 22, 3) := by decide +kernel
theorem d6_33 : decode prog_7_method_10_code 33 = .ok (.lcmp, 1) := by decide +kernel
theorem d6_34 : decode prog_7_method_10_code 34 = .ok (.ifCond .ne 22, 3) := by decide +kernel
theorem d6_37 : decode prog_7_method_10_code 37 = .ok (.aload_n 0, 1) := by decide +kernel
theorem d6_38 : decode prog_7_method_10_code 38 = .ok (.getfield 25, 3) := by decide +kernel
theorem d6_41 : decode prog_7_method_10_code 41 = .ok (.aload_n 1, 1) := by decide +kernel
theorem d6_42 : decode prog_7_method_10_code 42 = .ok (.checkcast 17, 3) := by decide +kernel
theorem d6_45 : decode prog_7_method_10_code 45 = .ok (.getfield 25, 3) := by decide +kernel
theorem d6_48 : decode prog_7_method_10_code 48 = .ok (.lcmp, 1) := by decide +kernel
theorem d6_49 : decode prog_7_method_10_code 49 = .ok (.ifCond .ne 7, 3) := by decide +kernel
theorem d6_52 : decode prog_7_method_10_code 52 = .ok (.iconst 1, 1) := by decide +kernel
theorem d6_53 : decode prog_7_method_10_code 53 = .ok (.goto 4, 3) := by decide +kernel
theorem d6_57 : decode prog_7_method_10_code 57 = .ok (.ireturn, 1) := by decide +kernel
theorem d6_56 : decode prog_7_method_10_code 56 = .ok (.iconst 0, 1) := by decide +kernel
theorem ef_eqRR (m : MethodId) (x0 : Addr) (x1 : Addr) : entryFrame m #[(.ref x0), (.ref x1)] 2 = mkF m 0 #[.val (.ref x0), .val (.ref x1)] [] := by first | (simp [entryFrame, mkF, argsToLocals, Value.category]; done) | rfl
def eqRR_r (w_o0_low : Int64) (w_o1_low : Int64) (w_o0_high : Int64) (w_o1_high : Int64) (w_o0_highWater : Int64) (w_o1_highWater : Int64) : Int32 := (if w_o0_low = w_o1_low then (if w_o0_high = w_o1_high then (if w_o0_highWater = w_o1_highWater then (1 : Int32) else (0 : Int32)) else (0 : Int32)) else (0 : Int32))
def QeqRR (Z : State) (o0 : Addr) (o1 : Addr) (w_o0_low : Int64) (w_o1_low : Int64) (w_o0_high : Int64) (w_o1_high : Int64) (w_o0_highWater : Int64) (w_o1_highWater : Int64) (h0 : Heap) (n0 : Nat) (v : Option Value) (h : Heap) (L : List Loc) : Prop := v = some (.int (eqRR_r w_o0_low w_o1_low w_o0_high w_o1_high w_o0_highWater w_o1_highWater)) ∧ Fr n0 L ∧ h = h0
set_option maxRecDepth 65536 in
set_option maxHeartbeats 40000000 in
theorem eqRR (l : Launch) (Z : State) (a0 : Array Value) (hw : ∀ d ∈ tables_1, d.before a0 Z = true) (ws : List Jvm.Cond) (o0 : Addr) (o1 : Addr) (w_o0_low : Int64) (w_o1_low : Int64) (w_o0_high : Int64) (w_o1_high : Int64) (w_o0_highWater : Int64) (w_o1_highWater : Int64) (h0 : Heap) (n0 : Nat) (Z0 : n0 ≤ h0.size) (E_o1 : Exa Z h0 o1 "com/example/sure_sequence/suresequence/RegionRange") (F_o0_low : Fld Z h0 o0 "com/example/sure_sequence/suresequence/RegionRange" "low" "J" (.long w_o0_low)) (F_o1_low : Fld Z h0 o1 "com/example/sure_sequence/suresequence/RegionRange" "low" "J" (.long w_o1_low)) (F_o0_high : Fld Z h0 o0 "com/example/sure_sequence/suresequence/RegionRange" "high" "J" (.long w_o0_high)) (F_o1_high : Fld Z h0 o1 "com/example/sure_sequence/suresequence/RegionRange" "high" "J" (.long w_o1_high)) (F_o0_highWater : Fld Z h0 o0 "com/example/sure_sequence/suresequence/RegionRange" "highWater" "J" (.long w_o0_highWater)) (F_o1_highWater : Fld Z h0 o1 "com/example/sure_sequence/suresequence/RegionRange" "highWater" "J" (.long w_o1_highWater)) :
    MetFree l (⟨"com/example/sure_sequence/suresequence/RegionRange", "equals", "(Ljava/lang/Object;)Z"⟩ : MethodName) (head1 (Jvm.Cond.code (⟨"com/example/sure_sequence/suresequence/RegionRange", "equals", "(Ljava/lang/Object;)Z"⟩ : MethodName) prog_7_method_10_code 2 (some .boolean) :: ws) ({ frames := 0, cells := 0, slots := 0, locals := 0 } : Room)) (fun a U => a = #[(.ref o0), (.ref o1)] ∧ Z.Warmed39 U.vm ∧ U.heap = h0) (fun _ _ _ _ _ => True) (fun _ U o U' => ∃ v L, o = .returned v ∧ QeqRR Z o0 o1 w_o0_low w_o1_low w_o0_high w_o1_high w_o0_highWater w_o1_highWater h0 n0 v U'.heap L ∧ FrameEnd U o U' L ({ frames := 0, cells := 0, slots := 0, locals := 0 } : Room).cells ({ frames := 0, cells := 0, slots := 0, locals := 0 } : Room).slots) := by
  refine MetFree.of_bodySF (plainFor_of_name pn_97) hisR ?_
  intro p e s m args below meth c s₁ Bd hml0 hP hK
  obtain ⟨rfl, hZ, hh⟩ := hP
  have hx := Bd.exec
  have hby := Bd.bytes
  have hml : c.maxLocals = 2 := hml0
  have hown : s.vm.findClass "com/example/sure_sequence/suresequence/RegionRange" = some m.cls := findClass_of_methodNamed Bd.named
  have hnm := (name_of_methodNamed Bd.named Bd.method).1
  have X0 : Stand p l e ({ frames := 0, cells := 0, slots := 0, locals := 0 } : Room) s m #[(.ref o0), (.ref o1)] below meth c s₁ [] 0 0 := Stand.of_body Bd
  have e0 : s₁.heap = h0 := by rw [← hh, Bd.state]; rfl
  have N0 := Fr.nil n0
  show own_Go p e below s (QeqRR Z o0 o1 w_o0_low w_o1_low w_o0_high w_o1_high w_o0_highWater w_o1_highWater h0 n0) ({ frames := 0, cells := 0, slots := 0, locals := 0 } : Room).cells ({ frames := 0, cells := 0, slots := 0, locals := 0 } : Room).slots (s₁.setTop (entryFrame m #[(.ref o0), (.ref o1)] 2))
  rw [ef_eqRR m o0 o1]
  have K0 : Keep h0 h0 [] := Keep.refl h0 []
  refine own_go (S' := s₁.setTop (mkF m 1 #[.val (.ref o0), .val (.ref o1)] [(.ref o1)])) (fun t k => ?_) ?_
  · show Steps p.tables e below (s₁.setTop (mkF m 0 #[.val (.ref o0), .val (.ref o1)] [])) t
    refine XS.aloadN X0.here hx rfl (hb hby d6_0) rfl rfl ?_
    exact k
  obtain ⟨T76, X76, e76, st76⟩ := instY X0 hx hZ hown (hw _ (List.mem_of_getElem? (i := 33) rfl)) e0 (Ins.self E_o1) (g := (mkF m 1 #[.val (.ref o0), .val (.ref o1)] [(.ref o1)])) rfl rfl (hb hby d6_1)
  refine own_go st76 ?_
  refine own_go (S' := T76.setTop (mkF m 8 #[.val (.ref o0), .val (.ref o1)] [(.ref o0)])) (fun t k => ?_) ?_
  · show Steps p.tables e below (T76.setTop (mkF m 4 #[.val (.ref o0), .val (.ref o1)] [(.int (1 : Int32))])) t
    refine XS.ifNo X76.here hx rfl (hb hby d6_4) rfl ((if0 _ _).trans (feq (by decide)).1) ?_
    show Steps p.tables e below (T76.setTop (mkF m 7 #[.val (.ref o0), .val (.ref o1)] [])) t
    refine XS.aloadN X76.here hx rfl (hb hby d6_7) rfl rfl ?_
    exact k
  obtain ⟨T77, X77, e77, st77⟩ := getF X76 hx hZ hown (host := "") (Or.inl (hw _ (List.mem_of_getElem? (i := 22) rfl))) Via.refl e76 F_o0_low (g := (mkF m 8 #[.val (.ref o0), .val (.ref o1)] [(.ref o0)])) rfl rfl (hb hby d6_8)
  refine own_go st77 ?_
  refine own_go (S' := T77.setTop (mkF m 12 #[.val (.ref o0), .val (.ref o1)] [(.ref o1), (.long w_o0_low)])) (fun t k => ?_) ?_
  · show Steps p.tables e below (T77.setTop (mkF m 11 #[.val (.ref o0), .val (.ref o1)] [(.long w_o0_low)])) t
    refine XS.aloadN X77.here hx rfl (hb hby d6_11) rfl rfl ?_
    exact k
  obtain ⟨T78, X78, e78, st78⟩ := castY X77 hx hZ hown (hw _ (List.mem_of_getElem? (i := 33) rfl)) e77 (Ins.self E_o1) (g := (mkF m 12 #[.val (.ref o0), .val (.ref o1)] [(.ref o1), (.long w_o0_low)])) rfl rfl (hb hby d6_12)
  refine own_go st78 ?_
  obtain ⟨T79, X79, e79, st79⟩ := getF X78 hx hZ hown (host := "") (Or.inl (hw _ (List.mem_of_getElem? (i := 22) rfl))) Via.refl e78 F_o1_low (g := (mkF m 15 #[.val (.ref o0), .val (.ref o1)] [(.ref o1), (.long w_o0_low)])) rfl rfl (hb hby d6_15)
  refine own_go st79 ?_
  refine own_go (S' := T79.setTop (mkF m 19 #[.val (.ref o0), .val (.ref o1)] [(.int (Jvm.Free.XT.cmpL w_o0_low w_o1_low))])) (fun t k => ?_) ?_
  · show Steps p.tables e below (T79.setTop (mkF m 18 #[.val (.ref o0), .val (.ref o1)] [(.long w_o1_low), (.long w_o0_low)])) t
    refine XS.lcmp X79.here hx rfl (hb hby d6_18) rfl ?_
    exact k
  by_cases hc19 : w_o0_low = w_o1_low
  · skip
    refine own_go (S' := T79.setTop (mkF m 23 #[.val (.ref o0), .val (.ref o1)] [(.ref o0)])) (fun t k => ?_) ?_
    · show Steps p.tables e below (T79.setTop (mkF m 19 #[.val (.ref o0), .val (.ref o1)] [(.int (Jvm.Free.XT.cmpL w_o0_low w_o1_low))])) t
      refine XS.ifNo X79.here hx rfl (hb hby d6_19) rfl (Jvm.Free.XT.ll_ne_f hc19) ?_
      show Steps p.tables e below (T79.setTop (mkF m 22 #[.val (.ref o0), .val (.ref o1)] [])) t
      refine XS.aloadN X79.here hx rfl (hb hby d6_22) rfl rfl ?_
      exact k
    obtain ⟨T80, X80, e80, st80⟩ := getF X79 hx hZ hown (host := "") (Or.inl (hw _ (List.mem_of_getElem? (i := 24) rfl))) Via.refl e79 F_o0_high (g := (mkF m 23 #[.val (.ref o0), .val (.ref o1)] [(.ref o0)])) rfl rfl (hb hby d6_23)
    refine own_go st80 ?_
    refine own_go (S' := T80.setTop (mkF m 27 #[.val (.ref o0), .val (.ref o1)] [(.ref o1), (.long w_o0_high)])) (fun t k => ?_) ?_
    · show Steps p.tables e below (T80.setTop (mkF m 26 #[.val (.ref o0), .val (.ref o1)] [(.long w_o0_high)])) t
      refine XS.aloadN X80.here hx rfl (hb hby d6_26) rfl rfl ?_
      exact k
    obtain ⟨T81, X81, e81, st81⟩ := castY X80 hx hZ hown (hw _ (List.mem_of_getElem? (i := 33) rfl)) e80 (Ins.self E_o1) (g := (mkF m 27 #[.val (.ref o0), .val (.ref o1)] [(.ref o1), (.long w_o0_high)])) rfl rfl (hb hby d6_27)
    refine own_go st81 ?_
    obtain ⟨T82, X82, e82, st82⟩ := getF X81 hx hZ hown (host := "") (Or.inl (hw _ (List.mem_of_getElem? (i := 24) rfl))) Via.refl e81 F_o1_high (g := (mkF m 30 #[.val (.ref o0), .val (.ref o1)] [(.ref o1), (.long w_o0_high)])) rfl rfl (hb hby d6_30)
    refine own_go st82 ?_
    refine own_go (S' := T82.setTop (mkF m 34 #[.val (.ref o0), .val (.ref o1)] [(.int (Jvm.Free.XT.cmpL w_o0_high w_o1_high))])) (fun t k => ?_) ?_
    · show Steps p.tables e below (T82.setTop (mkF m 33 #[.val (.ref o0), .val (.ref o1)] [(.long w_o1_high), (.long w_o0_high)])) t
      refine XS.lcmp X82.here hx rfl (hb hby d6_33) rfl ?_
      exact k
    by_cases hc34 : w_o0_high = w_o1_high
    · skip
      refine own_go (S' := T82.setTop (mkF m 38 #[.val (.ref o0), .val (.ref o1)] [(.ref o0)])) (fun t k => ?_) ?_
      · show Steps p.tables e below (T82.setTop (mkF m 34 #[.val (.ref o0), .val (.ref o1)] [(.int (Jvm.Free.XT.cmpL w_o0_high w_o1_high))])) t
        refine XS.ifNo X82.here hx rfl (hb hby d6_34) rfl (Jvm.Free.XT.ll_ne_f hc34) ?_
        show Steps p.tables e below (T82.setTop (mkF m 37 #[.val (.ref o0), .val (.ref o1)] [])) t
        refine XS.aloadN X82.here hx rfl (hb hby d6_37) rfl rfl ?_
        exact k
      obtain ⟨T83, X83, e83, st83⟩ := getF X82 hx hZ hown (host := "") (Or.inl (hw _ (List.mem_of_getElem? (i := 26) rfl))) Via.refl e82 F_o0_highWater (g := (mkF m 38 #[.val (.ref o0), .val (.ref o1)] [(.ref o0)])) rfl rfl (hb hby d6_38)
      refine own_go st83 ?_
      refine own_go (S' := T83.setTop (mkF m 42 #[.val (.ref o0), .val (.ref o1)] [(.ref o1), (.long w_o0_highWater)])) (fun t k => ?_) ?_
      · show Steps p.tables e below (T83.setTop (mkF m 41 #[.val (.ref o0), .val (.ref o1)] [(.long w_o0_highWater)])) t
        refine XS.aloadN X83.here hx rfl (hb hby d6_41) rfl rfl ?_
        exact k
      obtain ⟨T84, X84, e84, st84⟩ := castY X83 hx hZ hown (hw _ (List.mem_of_getElem? (i := 33) rfl)) e83 (Ins.self E_o1) (g := (mkF m 42 #[.val (.ref o0), .val (.ref o1)] [(.ref o1), (.long w_o0_highWater)])) rfl rfl (hb hby d6_42)
      refine own_go st84 ?_
      obtain ⟨T85, X85, e85, st85⟩ := getF X84 hx hZ hown (host := "") (Or.inl (hw _ (List.mem_of_getElem? (i := 26) rfl))) Via.refl e84 F_o1_highWater (g := (mkF m 45 #[.val (.ref o0), .val (.ref o1)] [(.ref o1), (.long w_o0_highWater)])) rfl rfl (hb hby d6_45)
      refine own_go st85 ?_
      refine own_go (S' := T85.setTop (mkF m 49 #[.val (.ref o0), .val (.ref o1)] [(.int (Jvm.Free.XT.cmpL w_o0_highWater w_o1_highWater))])) (fun t k => ?_) ?_
      · show Steps p.tables e below (T85.setTop (mkF m 48 #[.val (.ref o0), .val (.ref o1)] [(.long w_o1_highWater), (.long w_o0_highWater)])) t
        refine XS.lcmp X85.here hx rfl (hb hby d6_48) rfl ?_
        exact k
      by_cases hc49 : w_o0_highWater = w_o1_highWater
      · skip
        refine own_go (S' := T85.setTop (mkF m 57 #[.val (.ref o0), .val (.ref o1)] [(.int (1 : Int32))])) (fun t k => ?_) ?_
        · show Steps p.tables e below (T85.setTop (mkF m 49 #[.val (.ref o0), .val (.ref o1)] [(.int (Jvm.Free.XT.cmpL w_o0_highWater w_o1_highWater))])) t
          refine XS.ifNo X85.here hx rfl (hb hby d6_49) rfl (Jvm.Free.XT.ll_ne_f hc49) ?_
          show Steps p.tables e below (T85.setTop (mkF m 52 #[.val (.ref o0), .val (.ref o1)] [])) t
          refine XS.iconst X85.here hx rfl (hb hby d6_52) ?_
          show Steps p.tables e below (T85.setTop (mkF m 53 #[.val (.ref o0), .val (.ref o1)] [(.int (1 : Int32))])) t
          refine XS.goto X85.here hx rfl (pc0 := 53) (pc' := 57) rfl (hb hby d6_53) (by decide) (by decide) ?_
          exact k
        obtain ⟨fs, hr, hrun, hended, hW, hsame⟩ := X85.leave (v := some (.int (1 : Int32))) (fun h => by rw [Bd.returns] at h; cases h)
        refine own_end (v := some (.int (1 : Int32))) ?_ hrun hended ?_ hW (hsame.mono (by decide) (by decide))
        · show Steps p.tables e below (T85.setTop (mkF m 57 #[.val (.ref o0), .val (.ref o1)] [(.int (1 : Int32))])) _
          exact retN X85 hx (t := .boolean) Bd.returns (by simp) (hb hby d6_57) hr
        · show QeqRR Z o0 o1 w_o0_low w_o1_low w_o0_high w_o1_high w_o0_highWater w_o1_highWater h0 n0 _ T85.heap _
          rw [e85]
          exact ⟨(by simp only [eqRR_r, if_pos hc19, if_pos hc34, if_pos hc49]), N0, rfl⟩
      · skip
        refine own_go (S' := T85.setTop (mkF m 57 #[.val (.ref o0), .val (.ref o1)] [(.int (0 : Int32))])) (fun t k => ?_) ?_
        · show Steps p.tables e below (T85.setTop (mkF m 49 #[.val (.ref o0), .val (.ref o1)] [(.int (Jvm.Free.XT.cmpL w_o0_highWater w_o1_highWater))])) t
          refine XS.ifYes X85.here hx rfl (pc0 := 49) (pc' := 56) rfl (hb hby d6_49) rfl (Jvm.Free.XT.ll_ne_t hc49) (by decide) (by decide) ?_
          show Steps p.tables e below (T85.setTop (mkF m 56 #[.val (.ref o0), .val (.ref o1)] [])) t
          refine XS.iconst X85.here hx rfl (hb hby d6_56) ?_
          exact k
        obtain ⟨fs, hr, hrun, hended, hW, hsame⟩ := X85.leave (v := some (.int (0 : Int32))) (fun h => by rw [Bd.returns] at h; cases h)
        refine own_end (v := some (.int (0 : Int32))) ?_ hrun hended ?_ hW (hsame.mono (by decide) (by decide))
        · show Steps p.tables e below (T85.setTop (mkF m 57 #[.val (.ref o0), .val (.ref o1)] [(.int (0 : Int32))])) _
          exact retN X85 hx (t := .boolean) Bd.returns (by simp) (hb hby d6_57) hr
        · show QeqRR Z o0 o1 w_o0_low w_o1_low w_o0_high w_o1_high w_o0_highWater w_o1_highWater h0 n0 _ T85.heap _
          rw [e85]
          exact ⟨(by simp only [eqRR_r, if_pos hc19, if_pos hc34, if_neg hc49]), N0, rfl⟩
    · skip
      refine own_go (S' := T82.setTop (mkF m 57 #[.val (.ref o0), .val (.ref o1)] [(.int (0 : Int32))])) (fun t k => ?_) ?_
      · show Steps p.tables e below (T82.setTop (mkF m 34 #[.val (.ref o0), .val (.ref o1)] [(.int (Jvm.Free.XT.cmpL w_o0_high w_o1_high))])) t
        refine XS.ifYes X82.here hx rfl (pc0 := 34) (pc' := 56) rfl (hb hby d6_34) rfl (Jvm.Free.XT.ll_ne_t hc34) (by decide) (by decide) ?_
        show Steps p.tables e below (T82.setTop (mkF m 56 #[.val (.ref o0), .val (.ref o1)] [])) t
        refine XS.iconst X82.here hx rfl (hb hby d6_56) ?_
        exact k
      obtain ⟨fs, hr, hrun, hended, hW, hsame⟩ := X82.leave (v := some (.int (0 : Int32))) (fun h => by rw [Bd.returns] at h; cases h)
      refine own_end (v := some (.int (0 : Int32))) ?_ hrun hended ?_ hW (hsame.mono (by decide) (by decide))
      · show Steps p.tables e below (T82.setTop (mkF m 57 #[.val (.ref o0), .val (.ref o1)] [(.int (0 : Int32))])) _
        exact retN X82 hx (t := .boolean) Bd.returns (by simp) (hb hby d6_57) hr
      · show QeqRR Z o0 o1 w_o0_low w_o1_low w_o0_high w_o1_high w_o0_highWater w_o1_highWater h0 n0 _ T82.heap _
        rw [e82]
        exact ⟨(by simp only [eqRR_r, if_pos hc19, if_neg hc34]), N0, rfl⟩
  · skip
    refine own_go (S' := T79.setTop (mkF m 57 #[.val (.ref o0), .val (.ref o1)] [(.int (0 : Int32))])) (fun t k => ?_) ?_
    · show Steps p.tables e below (T79.setTop (mkF m 19 #[.val (.ref o0), .val (.ref o1)] [(.int (Jvm.Free.XT.cmpL w_o0_low w_o1_low))])) t
      refine XS.ifYes X79.here hx rfl (pc0 := 19) (pc' := 56) rfl (hb hby d6_19) rfl (Jvm.Free.XT.ll_ne_t hc19) (by decide) (by decide) ?_
      show Steps p.tables e below (T79.setTop (mkF m 56 #[.val (.ref o0), .val (.ref o1)] [])) t
      refine XS.iconst X79.here hx rfl (hb hby d6_56) ?_
      exact k
    obtain ⟨fs, hr, hrun, hended, hW, hsame⟩ := X79.leave (v := some (.int (0 : Int32))) (fun h => by rw [Bd.returns] at h; cases h)
    refine own_end (v := some (.int (0 : Int32))) ?_ hrun hended ?_ hW (hsame.mono (by decide) (by decide))
    · show Steps p.tables e below (T79.setTop (mkF m 57 #[.val (.ref o0), .val (.ref o1)] [(.int (0 : Int32))])) _
      exact retN X79 hx (t := .boolean) Bd.returns (by simp) (hb hby d6_57) hr
    · show QeqRR Z o0 o1 w_o0_low w_o1_low w_o0_high w_o1_high w_o0_highWater w_o1_highWater h0 n0 _ T79.heap _
      rw [e79]
      exact ⟨(by simp only [eqRR_r, if_neg hc19]), N0, rfl⟩
theorem ef_eqNull (m : MethodId) (x0 : Addr) : entryFrame m #[(.ref x0), .null] 2 = mkF m 0 #[.val (.ref x0), .val .null] [] := by first | (simp [entryFrame, mkF, argsToLocals, Value.category]; done) | rfl
def QeqNull (Z : State) (o0 : Addr) (h0 : Heap) (n0 : Nat) (v : Option Value) (h : Heap) (L : List Loc) : Prop := v = some (.int (0 : Int32)) ∧ Fr n0 L ∧ h = h0
set_option maxRecDepth 65536 in
set_option maxHeartbeats 40000000 in
theorem eqNull (l : Launch) (Z : State) (a0 : Array Value) (hw : ∀ d ∈ tables_1, d.before a0 Z = true) (ws : List Jvm.Cond) (o0 : Addr) (h0 : Heap) (n0 : Nat) (Z0 : n0 ≤ h0.size) :
    MetFree l (⟨"com/example/sure_sequence/suresequence/RegionRange", "equals", "(Ljava/lang/Object;)Z"⟩ : MethodName) (head1 (Jvm.Cond.code (⟨"com/example/sure_sequence/suresequence/RegionRange", "equals", "(Ljava/lang/Object;)Z"⟩ : MethodName) prog_7_method_10_code 2 (some .boolean) :: ws) ({ frames := 0, cells := 0, slots := 0, locals := 0 } : Room)) (fun a U => a = #[(.ref o0), .null] ∧ Z.Warmed39 U.vm ∧ U.heap = h0) (fun _ _ _ _ _ => True) (fun _ U o U' => ∃ v L, o = .returned v ∧ QeqNull Z o0 h0 n0 v U'.heap L ∧ FrameEnd U o U' L ({ frames := 0, cells := 0, slots := 0, locals := 0 } : Room).cells ({ frames := 0, cells := 0, slots := 0, locals := 0 } : Room).slots) := by
  refine MetFree.of_bodySF (plainFor_of_name pn_97) hisR ?_
  intro p e s m args below meth c s₁ Bd hml0 hP hK
  obtain ⟨rfl, hZ, hh⟩ := hP
  have hx := Bd.exec
  have hby := Bd.bytes
  have hml : c.maxLocals = 2 := hml0
  have hown : s.vm.findClass "com/example/sure_sequence/suresequence/RegionRange" = some m.cls := findClass_of_methodNamed Bd.named
  have hnm := (name_of_methodNamed Bd.named Bd.method).1
  have X0 : Stand p l e ({ frames := 0, cells := 0, slots := 0, locals := 0 } : Room) s m #[(.ref o0), .null] below meth c s₁ [] 0 0 := Stand.of_body Bd
  have e0 : s₁.heap = h0 := by rw [← hh, Bd.state]; rfl
  have N0 := Fr.nil n0
  show own_Go p e below s (QeqNull Z o0 h0 n0) ({ frames := 0, cells := 0, slots := 0, locals := 0 } : Room).cells ({ frames := 0, cells := 0, slots := 0, locals := 0 } : Room).slots (s₁.setTop (entryFrame m #[(.ref o0), .null] 2))
  rw [ef_eqNull m o0]
  have K0 : Keep h0 h0 [] := Keep.refl h0 []
  refine own_go (S' := s₁.setTop (mkF m 1 #[.val (.ref o0), .val .null] [.null])) (fun t k => ?_) ?_
  · show Steps p.tables e below (s₁.setTop (mkF m 0 #[.val (.ref o0), .val .null] [])) t
    refine XS.aloadN X0.here hx rfl (hb hby d6_0) rfl rfl ?_
    exact k
  refine own_go (fun t k => X0.instanceofNull hx (g := (mkF m 1 #[.val (.ref o0), .val .null] [.null])) rfl rfl (hb hby d6_1) _ k) ?_
  refine own_go (S' := s₁.setTop (mkF m 57 #[.val (.ref o0), .val .null] [(.int (0 : Int32))])) (fun t k => ?_) ?_
  · show Steps p.tables e below (s₁.setTop (mkF m 4 #[.val (.ref o0), .val .null] [(.int (0 : Int32))])) t
    refine XS.ifYes X0.here hx rfl (pc0 := 4) (pc' := 56) rfl (hb hby d6_4) rfl ((if0 _ _).trans (teq (by decide)).1) (by decide) (by decide) ?_
    show Steps p.tables e below (s₁.setTop (mkF m 56 #[.val (.ref o0), .val .null] [])) t
    refine XS.iconst X0.here hx rfl (hb hby d6_56) ?_
    exact k
  obtain ⟨fs, hr, hrun, hended, hW, hsame⟩ := X0.leave (v := some (.int (0 : Int32))) (fun h => by rw [Bd.returns] at h; cases h)
  refine own_end (v := some (.int (0 : Int32))) ?_ hrun hended ?_ hW (hsame.mono (by decide) (by decide))
  · show Steps p.tables e below (s₁.setTop (mkF m 57 #[.val (.ref o0), .val .null] [(.int (0 : Int32))])) _
    exact retN X0 hx (t := .boolean) Bd.returns (by simp) (hb hby d6_57) hr
  · show QeqNull Z o0 h0 n0 _ s₁.heap _
    rw [e0]
    exact ⟨rfl, N0, rfl⟩
theorem ef_eqLong (m : MethodId) (x0 : Addr) (x1 : Addr) : entryFrame m #[(.ref x0), (.ref x1)] 2 = mkF m 0 #[.val (.ref x0), .val (.ref x1)] [] := by first | (simp [entryFrame, mkF, argsToLocals, Value.category]; done) | rfl
def QeqLong (Z : State) (o0 : Addr) (o1 : Addr) (h0 : Heap) (n0 : Nat) (v : Option Value) (h : Heap) (L : List Loc) : Prop := v = some (.int (0 : Int32)) ∧ Fr n0 L ∧ h = h0
set_option maxRecDepth 65536 in
set_option maxHeartbeats 40000000 in
theorem eqLong (l : Launch) (Z : State) (a0 : Array Value) (hw : ∀ d ∈ tables_1, d.before a0 Z = true) (ws : List Jvm.Cond) (o0 : Addr) (o1 : Addr) (h0 : Heap) (n0 : Nat) (Z0 : n0 ≤ h0.size) (E_o1 : Exa Z h0 o1 "java/lang/Long") :
    MetFree l (⟨"com/example/sure_sequence/suresequence/RegionRange", "equals", "(Ljava/lang/Object;)Z"⟩ : MethodName) (head1 (Jvm.Cond.code (⟨"com/example/sure_sequence/suresequence/RegionRange", "equals", "(Ljava/lang/Object;)Z"⟩ : MethodName) prog_7_method_10_code 2 (some .boolean) :: ws) ({ frames := 0, cells := 0, slots := 0, locals := 0 } : Room)) (fun a U => a = #[(.ref o0), (.ref o1)] ∧ Z.Warmed39 U.vm ∧ U.heap = h0) (fun _ _ _ _ _ => True) (fun _ U o U' => ∃ v L, o = .returned v ∧ QeqLong Z o0 o1 h0 n0 v U'.heap L ∧ FrameEnd U o U' L ({ frames := 0, cells := 0, slots := 0, locals := 0 } : Room).cells ({ frames := 0, cells := 0, slots := 0, locals := 0 } : Room).slots) := by
  refine MetFree.of_bodySF (plainFor_of_name pn_97) hisR ?_
  intro p e s m args below meth c s₁ Bd hml0 hP hK
  obtain ⟨rfl, hZ, hh⟩ := hP
  have hx := Bd.exec
  have hby := Bd.bytes
  have hml : c.maxLocals = 2 := hml0
  have hown : s.vm.findClass "com/example/sure_sequence/suresequence/RegionRange" = some m.cls := findClass_of_methodNamed Bd.named
  have hnm := (name_of_methodNamed Bd.named Bd.method).1
  have X0 : Stand p l e ({ frames := 0, cells := 0, slots := 0, locals := 0 } : Room) s m #[(.ref o0), (.ref o1)] below meth c s₁ [] 0 0 := Stand.of_body Bd
  have e0 : s₁.heap = h0 := by rw [← hh, Bd.state]; rfl
  have N0 := Fr.nil n0
  show own_Go p e below s (QeqLong Z o0 o1 h0 n0) ({ frames := 0, cells := 0, slots := 0, locals := 0 } : Room).cells ({ frames := 0, cells := 0, slots := 0, locals := 0 } : Room).slots (s₁.setTop (entryFrame m #[(.ref o0), (.ref o1)] 2))
  rw [ef_eqLong m o0 o1]
  have K0 : Keep h0 h0 [] := Keep.refl h0 []
  refine own_go (S' := s₁.setTop (mkF m 1 #[.val (.ref o0), .val (.ref o1)] [(.ref o1)])) (fun t k => ?_) ?_
  · show Steps p.tables e below (s₁.setTop (mkF m 0 #[.val (.ref o0), .val (.ref o1)] [])) t
    refine XS.aloadN X0.here hx rfl (hb hby d6_0) rfl rfl ?_
    exact k
  obtain ⟨T86, X86, e86, st86⟩ := instNo X0 hx hZ hown (hw _ (List.mem_of_getElem? (i := 33) rfl)) e0 E_o1 (own_no (hw _ (List.mem_of_getElem? (i := 43) rfl)) (hw _ (List.mem_of_getElem? (i := 44) rfl)) (hw _ (List.mem_of_getElem? (i := 45) rfl)) (hw _ (List.mem_of_getElem? (i := 14) rfl)) (by decide) (by decide) (by decide)) (g := (mkF m 1 #[.val (.ref o0), .val (.ref o1)] [(.ref o1)])) rfl rfl (hb hby d6_1)
  refine own_go st86 ?_
  refine own_go (S' := T86.setTop (mkF m 57 #[.val (.ref o0), .val (.ref o1)] [(.int (0 : Int32))])) (fun t k => ?_) ?_
  · show Steps p.tables e below (T86.setTop (mkF m 4 #[.val (.ref o0), .val (.ref o1)] [(.int (0 : Int32))])) t
    refine XS.ifYes X86.here hx rfl (pc0 := 4) (pc' := 56) rfl (hb hby d6_4) rfl ((if0 _ _).trans (teq (by decide)).1) (by decide) (by decide) ?_
    show Steps p.tables e below (T86.setTop (mkF m 56 #[.val (.ref o0), .val (.ref o1)] [])) t
    refine XS.iconst X86.here hx rfl (hb hby d6_56) ?_
    exact k
  obtain ⟨fs, hr, hrun, hended, hW, hsame⟩ := X86.leave (v := some (.int (0 : Int32))) (fun h => by rw [Bd.returns] at h; cases h)
  refine own_end (v := some (.int (0 : Int32))) ?_ hrun hended ?_ hW (hsame.mono (by decide) (by decide))
  · show Steps p.tables e below (T86.setTop (mkF m 57 #[.val (.ref o0), .val (.ref o1)] [(.int (0 : Int32))])) _
    exact retN X86 hx (t := .boolean) Bd.returns (by simp) (hb hby d6_57) hr
  · show QeqLong Z o0 o1 h0 n0 _ T86.heap _
    rw [e86]
    exact ⟨rfl, N0, rfl⟩
theorem d9_0 : decode jdk_18_method_1_code 0 = .ok (.aload_n 0, 1) := by decide +kernel
theorem d9_1 : decode jdk_18_method_1_code 1 = .ok (.invokespecial 1, 3) := by decide +kernel
theorem d9_4 : decode jdk_18_method_1_code 4 = .ok (.return_, 1) := by decide +kernel
theorem pn_129 : plainName "java/lang/Number" = true := by first | (simp [plainName, overriddenIn]; done) | decide +kernel
theorem ef_numInit (m : MethodId) (x0 : Addr) : entryFrame m #[(.ref x0)] 1 = mkF m 0 #[.val (.ref x0)] [] := by first | (simp [entryFrame, mkF, argsToLocals, Value.category]; done) | rfl
def QnumInit (Z : State) (o0 : Addr) (h0 : Heap) (n0 : Nat) (v : Option Value) (h : Heap) (L : List Loc) : Prop := v = none ∧ Fr n0 L ∧ h = h0
set_option maxRecDepth 65536 in
set_option maxHeartbeats 40000000 in
theorem numInit (l : Launch) (Z : State) (a0 : Array Value) (hw : ∀ d ∈ tables_1, d.before a0 Z = true) (ws : List Jvm.Cond) (o0 : Addr) (h0 : Heap) (n0 : Nat) (Z0 : n0 ≤ h0.size) :
    MetFree l (⟨"java/lang/Number", "<init>", "()V"⟩ : MethodName) (head1 (Jvm.Cond.code (⟨"java/lang/Number", "<init>", "()V"⟩ : MethodName) jdk_18_method_1_code 1 none :: ws) ({ frames := 1, cells := 0, slots := 0, locals := 12 } : Room)) (fun a U => a = #[(.ref o0)] ∧ Z.Warmed39 U.vm ∧ U.heap = h0) (fun _ _ _ _ _ => True) (fun _ U o U' => ∃ v L, o = .returned v ∧ QnumInit Z o0 h0 n0 v U'.heap L ∧ FrameEnd U o U' L ({ frames := 1, cells := 0, slots := 0, locals := 12 } : Room).cells ({ frames := 1, cells := 0, slots := 0, locals := 12 } : Room).slots) := by
  refine MetFree.of_bodySF (plainFor_of_name pn_129) hisR ?_
  intro p e s m args below meth c s₁ Bd hml0 hP hK
  obtain ⟨rfl, hZ, hh⟩ := hP
  have hx := Bd.exec
  have hby := Bd.bytes
  have hml : c.maxLocals = 1 := hml0
  have hown : s.vm.findClass "java/lang/Number" = some m.cls := findClass_of_methodNamed Bd.named
  have hnm := (name_of_methodNamed Bd.named Bd.method).1
  have X0 : Stand p l e ({ frames := 1, cells := 0, slots := 0, locals := 12 } : Room) s m #[(.ref o0)] below meth c s₁ [] 0 0 := Stand.of_body Bd
  have e0 : s₁.heap = h0 := by rw [← hh, Bd.state]; rfl
  have N0 := Fr.nil n0
  show own_Go p e below s (QnumInit Z o0 h0 n0) ({ frames := 1, cells := 0, slots := 0, locals := 12 } : Room).cells ({ frames := 1, cells := 0, slots := 0, locals := 12 } : Room).slots (s₁.setTop (entryFrame m #[(.ref o0)] 1))
  rw [ef_numInit m o0]
  have K0 : Keep h0 h0 [] := Keep.refl h0 []
  refine own_go (S' := s₁.setTop (mkF m 1 #[.val (.ref o0)] [(.ref o0)])) (fun t k => ?_) ?_
  · show Steps p.tables e below (s₁.setTop (mkF m 0 #[.val (.ref o0)] [])) t
    refine XS.aloadN X0.here hx rfl (hb hby d9_0) rfl rfl ?_
    exact k
  obtain ⟨T87, X87, e87, st87⟩ := initO X0 hx hZ hown (hw _ (List.mem_of_getElem? (i := 58) rfl)) (hw _ (List.mem_of_getElem? (i := 20) rfl)) (hw _ (List.mem_of_getElem? (i := 21) rfl)) e0 (g := (mkF m 1 #[.val (.ref o0)] [(.ref o0)])) rfl (by rw [hml]; rfl) rfl (hb hby d9_1) (by decide) (W := 0) (by show 2 * 0 + _ ≤ _; exact Nat.le_of_eq rfl) (by decide)
  refine own_go st87 ?_
  obtain ⟨fs, hr, hrun, hended, hW, hsame⟩ := X87.leave (v := none) (fun _ => rfl)
  refine own_end (v := none) ?_ hrun hended ?_ hW (hsame.mono (by decide) (by decide))
  · show Steps p.tables e below (T87.setTop (mkF m 4 #[.val (.ref o0)] [])) _
    exact X87.returnOut hx Bd.returns (hb hby d9_4) hr
  · show QnumInit Z o0 h0 n0 _ T87.heap _
    rw [e87]
    exact ⟨rfl, N0, rfl⟩
theorem d8_0 : decode jdk_35_method_26_code 0 = .ok (.aload_n 0, 1) := by decide +kernel
theorem d8_1 : decode jdk_35_method_26_code 1 = .ok (.invokespecial 270, 3) := by decide +kernel
theorem pd_132 : parseMethodDescriptor "()V" = some ⟨[], none⟩ := by decide +kernel
theorem d8_4 : decode jdk_35_method_26_code 4 = .ok (.aload_n 0, 1) := by decide +kernel
theorem d8_5 : decode jdk_35_method_26_code 5 = .ok (.lload_n 1, 1) := by decide +kernel
theorem d8_6 : decode jdk_35_method_26_code 6 = .ok (.putfield 273, 3) := by decide +kernel
theorem d8_9 : decode jdk_35_method_26_code 9 = .ok (.return_, 1) := by decide +kernel
theorem pn_137 : plainName "java/lang/Long" = true := by first | (simp [plainName, overriddenIn]; done) | decide +kernel
theorem ef_longInit (m : MethodId) (x0 : Addr) (x1 : Int64) : entryFrame m #[(.ref x0), (.long x1)] 3 = mkF m 0 #[.val (.ref x0), .val (.long x1), .second] [] := by first | (simp [entryFrame, mkF, argsToLocals, Value.category]; done) | rfl
def QlongInit (Z : State) (o0 : Addr) (q1 : Int64) (w_o0_value : Int64) (h0 : Heap) (n0 : Nat) (v : Option Value) (h : Heap) (L : List Loc) : Prop := v = none ∧ Fr n0 L ∧ Keep h0 h [o0] ∧ Exa Z h o0 "java/lang/Long" ∧ Fld Z h o0 "java/lang/Long" "value" "J" (.long q1)
set_option maxRecDepth 65536 in
set_option maxHeartbeats 40000000 in
theorem longInit (l : Launch) (Z : State) (a0 : Array Value) (hw : ∀ d ∈ tables_1, d.before a0 Z = true) (ws : List Jvm.Cond) (o0 : Addr) (q1 : Int64) (w_o0_value : Int64) (h0 : Heap) (n0 : Nat) (Z0 : n0 ≤ h0.size) (E_o0 : Exa Z h0 o0 "java/lang/Long") (F_o0_value : Fld Z h0 o0 "java/lang/Long" "value" "J" (.long w_o0_value)) (g_o0 : n0 ≤ o0) :
    MetFree l (⟨"java/lang/Long", "<init>", "(J)V"⟩ : MethodName) (head1 (Jvm.Cond.code (⟨"java/lang/Long", "<init>", "(J)V"⟩ : MethodName) jdk_35_method_26_code 3 none :: ws) ({ frames := 2, cells := 0, slots := 0, locals := 24 } : Room)) (fun a U => a = #[(.ref o0), (.long q1)] ∧ Z.Warmed39 U.vm ∧ U.heap = h0) (fun _ _ _ _ _ => True) (fun _ U o U' => ∃ v L, o = .returned v ∧ QlongInit Z o0 q1 w_o0_value h0 n0 v U'.heap L ∧ FrameEnd U o U' L ({ frames := 2, cells := 0, slots := 0, locals := 24 } : Room).cells ({ frames := 2, cells := 0, slots := 0, locals := 24 } : Room).slots) := by
  refine MetFree.of_bodySF (plainFor_of_name pn_137) hisR ?_
  intro p e s m args below meth c s₁ Bd hml0 hP hK
  obtain ⟨rfl, hZ, hh⟩ := hP
  have hx := Bd.exec
  have hby := Bd.bytes
  have hml : c.maxLocals = 3 := hml0
  have hown : s.vm.findClass "java/lang/Long" = some m.cls := findClass_of_methodNamed Bd.named
  have hnm := (name_of_methodNamed Bd.named Bd.method).1
  have X0 : Stand p l e ({ frames := 2, cells := 0, slots := 0, locals := 24 } : Room) s m #[(.ref o0), (.long q1)] below meth c s₁ [] 0 0 := Stand.of_body Bd
  have e0 : s₁.heap = h0 := by rw [← hh, Bd.state]; rfl
  have N0 := Fr.nil n0
  show own_Go p e below s (QlongInit Z o0 q1 w_o0_value h0 n0) ({ frames := 2, cells := 0, slots := 0, locals := 24 } : Room).cells ({ frames := 2, cells := 0, slots := 0, locals := 24 } : Room).slots (s₁.setTop (entryFrame m #[(.ref o0), (.long q1)] 3))
  rw [ef_longInit m o0 q1]
  have K0 : Keep h0 h0 [o0] := Keep.refl h0 [o0]
  refine own_go (S' := s₁.setTop (mkF m 1 #[.val (.ref o0), .val (.long q1), .second] [(.ref o0)])) (fun t k => ?_) ?_
  · show Steps p.tables e below (s₁.setTop (mkF m 0 #[.val (.ref o0), .val (.long q1), .second] [])) t
    refine XS.aloadN X0.here hx rfl (hb hby d8_0) rfl rfl ?_
    exact k
  obtain ⟨_, _, ⟨T88, L88, kk88, nn88⟩, -, X88, ⟨Lc88, hQ88, l88, y88, z88⟩, st88⟩ := X0.specialBack hx (y := (⟨"java/lang/Number", "<init>", "()V"⟩ : MethodName)) rfl hown (mvT hZ (hw _ (List.mem_of_getElem? (i := 52) rfl))) (mvT hZ (hw _ (List.mem_of_getElem? (i := 53) rfl))) (mvT hZ (hw _ (List.mem_of_getElem? (i := 57) rfl))) (by decide) (backOf (W := 0) (numInit l Z a0 hw [] o0 h0 n0 Z0 ) hZ (hw _ (List.mem_of_getElem? (i := 57) rfl)) (hw _ (List.mem_of_getElem? (i := 56) rfl)) (by decide) (by decide)) (g := (mkF m 1 #[.val (.ref o0), .val (.long q1), .second] [(.ref o0)])) rfl (by rw [hml]; rfl) (Steps.refl _) (a := o0) (argsL := []) (rest := []) (lenOf pd_132 rfl) rfl (by show 2 * 0 + _ ≤ _; exact Nat.le_of_eq rfl) (hb hby d8_1) (fun _ _ => ⟨rfl, e0, (by decide : 0 + 0 ≤ _), (by decide : 0 + 0 ≤ _)⟩)
  dsimp only [Pt.U, Pt.locs, Pt.cells, Pt.slots] at X88 l88 y88 z88 st88 hQ88
  subst l88 y88 z88
  obtain ⟨rfl, N89, e88⟩ := hQ88
  have N91 := Fr.app N0 N89
  refine own_goT st88 ?_
  refine own_go (S' := T88.setTop (mkF m 6 #[.val (.ref o0), .val (.long q1), .second] [(.long q1), (.ref o0)])) (fun t k => ?_) ?_
  · show Steps p.tables e below (T88.setTop (mkF m 4 #[.val (.ref o0), .val (.long q1), .second] [])) t
    refine XS.aloadN X88.here hx rfl (hb hby d8_4) rfl rfl ?_
    show Steps p.tables e below (T88.setTop (mkF m 5 #[.val (.ref o0), .val (.long q1), .second] [(.ref o0)])) t
    refine XS.lloadN X88.here hx rfl (hb hby d8_5) rfl ?_
    exact k
  obtain ⟨T92, h92, X92, e92, W92, st92⟩ := putF X88 hx hZ hown (host := "") (Or.inl (hw _ (List.mem_of_getElem? (i := 59) rfl))) Via.refl e88 F_o0_value E_o0 (Or.inr ⟨(hw _ (List.mem_of_getElem? (i := 60) rfl)), rfl, hnm⟩) (hw _ (List.mem_of_getElem? (i := 47) rfl)) (ty := .long) (by decide) rfl rfl (g := (mkF m 6 #[.val (.ref o0), .val (.long q1), .second] [(.long q1), (.ref o0)])) rfl rfl (hb hby d8_6)
  have f93 : Exa Z h92 o0 "java/lang/Long" := E_o0.wr W92
  have f94 : Fld Z h92 o0 "java/lang/Long" "value" "J" (.long q1) := F_o0_value.same W92
  have N95 := Fr.snoc X92 N91 g_o0
  have Z96 : n0 ≤ h92.size := Nat.le_trans Z0 (Keep.of_wr W92).1
  have K97 : Keep h0 h92 [o0] := K0.wr W92 (Or.inl (List.mem_of_getElem? (i := 0) rfl))
  refine own_go st92 ?_
  obtain ⟨fs, hr, hrun, hended, hW, hsame⟩ := X92.leave (v := none) (fun _ => rfl)
  refine own_end (v := none) ?_ hrun hended ?_ hW (hsame.mono (by decide) (by decide))
  · show Steps p.tables e below (T92.setTop (mkF m 9 #[.val (.ref o0), .val (.long q1), .second] [])) _
    exact X92.returnOut hx Bd.returns (hb hby d8_9) hr
  · show QlongInit Z o0 q1 w_o0_value h0 n0 _ T92.heap _
    rw [e92]
    exact ⟨rfl, N95, K97, f93, f94⟩
theorem d7_0 : decode jdk_35_method_24_code 0 = .ok (.sipush 128, 3) := by decide +kernel
theorem d7_3 : decode jdk_35_method_24_code 3 = .ok (.istore_n 2, 1) := by decide +kernel
theorem d7_4 : decode jdk_35_method_24_code 4 = .ok (.lload_n 0, 1) := by decide +kernel
theorem d7_5 : decode jdk_35_method_24_code 5 = .ok (.ldc2_w 230, 3) := by decide +kernel
theorem d7_8 : decode jdk_35_method_24_code 8 = .ok (.lcmp, 1) := by decide +kernel
theorem d7_9 : decode jdk_35_method_24_code 9 = .ok (.ifCond .lt 22, 3) := by decide +kernel
theorem d7_31 : decode jdk_35_method_24_code 31 = .ok (.new 1, 3) := by decide +kernel
theorem d7_34 : decode jdk_35_method_24_code 34 = .ok (.dup, 1) := by decide +kernel
theorem d7_35 : decode jdk_35_method_24_code 35 = .ok (.lload_n 0, 1) := by decide +kernel
theorem d7_36 : decode jdk_35_method_24_code 36 = .ok (.invokespecial 240, 3) := by decide +kernel
theorem pd_148 : parseMethodDescriptor "(J)V" = some ⟨[.long], none⟩ := by decide +kernel
theorem d7_39 : decode jdk_35_method_24_code 39 = .ok (.areturn, 1) := by decide +kernel
theorem d7_12 : decode jdk_35_method_24_code 12 = .ok (.lload_n 0, 1) := by decide +kernel
theorem d7_13 : decode jdk_35_method_24_code 13 = .ok (.ldc2_w 232, 3) := by decide +kernel
theorem d7_16 : decode jdk_35_method_24_code 16 = .ok (.lcmp, 1) := by decide +kernel
theorem d7_17 : decode jdk_35_method_24_code 17 = .ok (.ifCond .gt 14, 3) := by decide +kernel
theorem d7_20 : decode jdk_35_method_24_code 20 = .ok (.getstatic 234, 3) := by decide +kernel
theorem d7_23 : decode jdk_35_method_24_code 23 = .ok (.lload_n 0, 1) := by decide +kernel
theorem d7_24 : decode jdk_35_method_24_code 24 = .ok (.l2i, 1) := by decide +kernel
theorem d7_25 : decode jdk_35_method_24_code 25 = .ok (.sipush 128, 3) := by decide +kernel
theorem d7_28 : decode jdk_35_method_24_code 28 = .ok (.iadd, 1) := by decide +kernel
theorem d7_29 : decode jdk_35_method_24_code 29 = .ok (.aaload, 1) := by decide +kernel
theorem d7_30 : decode jdk_35_method_24_code 30 = .ok (.areturn, 1) := by decide +kernel
theorem ef_valueOf (m : MethodId) (x0 : Int64) : entryFrame m #[(.long x0)] 3 = mkF m 0 #[.val (.long x0), .second, .unset] [] := by first | (simp [entryFrame, mkF, argsToLocals, Value.category]; done) | rfl
def QvalueOf (Z : State) (q0 : Int64) (w_s_cache : Addr) (h0 : Heap) (n0 : Nat) (v : Option Value) (h : Heap) (L : List Loc) : Prop := ∃ x0_ : Addr, v = some (.ref x0_) ∧ Fr n0 L ∧ Keep h0 h [] ∧ Exa Z h x0_ "java/lang/Long"
set_option maxRecDepth 65536 in
set_option maxHeartbeats 40000000 in
theorem valueOf (l : Launch) (Z : State) (a0 : Array Value) (hw : ∀ d ∈ tables_1, d.before a0 Z = true) (ws : List Jvm.Cond) (q0 : Int64) (w_s_cache : Addr) (h0 : Heap) (n0 : Nat) (Z0 : n0 ≤ h0.size) (Old0 : Old Z n0 h0) (HC : own_Cache Z w_s_cache) (S_cache : Sta Z h0 "java/lang/Long$LongCache" "cache" "[Ljava/lang/Long;" (.ref w_s_cache)) :
    MetFree l (⟨"java/lang/Long", "valueOf", "(J)Ljava/lang/Long;"⟩ : MethodName) (head1 (Jvm.Cond.code (⟨"java/lang/Long", "valueOf", "(J)Ljava/lang/Long;"⟩ : MethodName) jdk_35_method_24_code 3 (some (.object "java/lang/Long")) :: ws) ({ frames := 3, cells := 1, slots := 1, locals := 39 } : Room)) (fun a U => a = #[(.long q0)] ∧ Z.Warmed39 U.vm ∧ U.heap = h0) (fun _ _ _ _ _ => True) (fun _ U o U' => ∃ v L, o = .returned v ∧ QvalueOf Z q0 w_s_cache h0 n0 v U'.heap L ∧ FrameEnd U o U' L ({ frames := 3, cells := 1, slots := 1, locals := 39 } : Room).cells ({ frames := 3, cells := 1, slots := 1, locals := 39 } : Room).slots) := by
  refine MetFree.of_bodySF (plainFor_of_name pn_137) hisR ?_
  intro p e s m args below meth c s₁ Bd hml0 hP hK
  obtain ⟨rfl, hZ, hh⟩ := hP
  have hx := Bd.exec
  have hby := Bd.bytes
  have hml : c.maxLocals = 3 := hml0
  have hown : s.vm.findClass "java/lang/Long" = some m.cls := findClass_of_methodNamed Bd.named
  have hnm := (name_of_methodNamed Bd.named Bd.method).1
  have X0 : Stand p l e ({ frames := 3, cells := 1, slots := 1, locals := 39 } : Room) s m #[(.long q0)] below meth c s₁ [] 0 0 := Stand.of_body Bd
  have e0 : s₁.heap = h0 := by rw [← hh, Bd.state]; rfl
  have N0 := Fr.nil n0
  show own_Go p e below s (QvalueOf Z q0 w_s_cache h0 n0) ({ frames := 3, cells := 1, slots := 1, locals := 39 } : Room).cells ({ frames := 3, cells := 1, slots := 1, locals := 39 } : Room).slots (s₁.setTop (entryFrame m #[(.long q0)] 3))
  rw [ef_valueOf m q0]
  have K0 : Keep h0 h0 [] := Keep.refl h0 []
  refine own_go (S' := s₁.setTop (mkF m 9 #[.val (.long q0), .second, .val (.int (128 : Int32))] [(.int (Jvm.Free.XT.cmpL q0 (-128 : Int64)))])) (fun t k => ?_) ?_
  · show Steps p.tables e below (s₁.setTop (mkF m 0 #[.val (.long q0), .second, .unset] [])) t
    refine XS.sipush X0.here hx rfl (hb hby d7_0) ?_
    show Steps p.tables e below (s₁.setTop (mkF m 3 #[.val (.long q0), .second, .unset] [(.int (128 : Int32))])) t
    refine XS.istoreN X0.here hx rfl (hb hby d7_3) rfl (l' := #[.val (.long q0), .second, .val (.int (128 : Int32))]) rfl ?_
    show Steps p.tables e below (s₁.setTop (mkF m 4 #[.val (.long q0), .second, .val (.int (128 : Int32))] [])) t
    refine XS.lloadN X0.here hx rfl (hb hby d7_4) rfl ?_
    show Steps p.tables e below (s₁.setTop (mkF m 5 #[.val (.long q0), .second, .val (.int (128 : Int32))] [(.long q0)])) t
    refine X0.ldc2Long hx hown (mvT hZ (hw _ (List.mem_of_getElem? (i := 39) rfl))) (g := (mkF m 5 #[.val (.long q0), .second, .val (.int (128 : Int32))] [(.long q0)])) rfl (hb hby d7_5) _ ?_
    show Steps p.tables e below (s₁.setTop (mkF m 8 #[.val (.long q0), .second, .val (.int (128 : Int32))] [(.long (-128 : Int64)), (.long q0)])) t
    refine XS.lcmp X0.here hx rfl (hb hby d7_8) rfl ?_
    exact k
  by_cases hc9 : q0 < (-128 : Int64)
  · skip
    refine own_go (S' := s₁.setTop (mkF m 31 #[.val (.long q0), .second, .val (.int (128 : Int32))] [])) (fun t k => ?_) ?_
    · show Steps p.tables e below (s₁.setTop (mkF m 9 #[.val (.long q0), .second, .val (.int (128 : Int32))] [(.int (Jvm.Free.XT.cmpL q0 (-128 : Int64)))])) t
      refine XS.ifYes X0.here hx rfl (pc0 := 9) (pc' := 31) rfl (hb hby d7_9) rfl (Jvm.Free.XT.ll_lt_t hc9) (by decide) (by decide) ?_
      exact k
    obtain ⟨T98, h98, X98, e98, E98, A98, D98, -, st98⟩ := newO X0 hx hZ hown (hw _ (List.mem_of_getElem? (i := 46) rfl)) (hw _ (List.mem_of_getElem? (i := 47) rfl)) (hw _ (List.mem_of_getElem? (i := 37) rfl)) e0 (g := (mkF m 31 #[.val (.long q0), .second, .val (.int (128 : Int32))] [])) rfl (hb hby d7_31) (by decide) (by decide)
    obtain ⟨b98, g98⟩ : ∃ z, z = h0.size := ⟨_, rfl⟩
    rw [← g98] at A98 D98 st98
    have g_b98 : n0 ≤ b98 := Nat.le_trans Z0 (Nat.le_of_eq g98.symm)
    have sz_b98 : h0.size ≤ b98 := Nat.le_trans K0.1 (Nat.le_of_eq g98.symm)
    have K99 : Keep h0 h98 [] := K0.ext E98
    have Z100 : n0 ≤ h98.size := Nat.le_trans Z0 E98.1
    have f101 : Old Z n0 h98 := Old0.ext E98
    have f102 : Sta Z h98 "java/lang/Long$LongCache" "cache" "[Ljava/lang/Long;" (.ref w_s_cache) := Sta.ext E98 S_cache
    have f103 : Fld Z h98 b98 "java/lang/Long" "value" "J" (.long (0 : Int64)) := D98 (Or.inr (hw _ (List.mem_of_getElem? (i := 60) rfl))) (ty := .long) (by decide)
    refine own_go st98 ?_
    refine own_go (S' := T98.setTop (mkF m 36 #[.val (.long q0), .second, .val (.int (128 : Int32))] [(.long q0), (.ref b98), (.ref b98)])) (fun t k => ?_) ?_
    · show Steps p.tables e below (T98.setTop (mkF m 34 #[.val (.long q0), .second, .val (.int (128 : Int32))] [(.ref b98)])) t
      refine XS.dup X98.here hx rfl (hb hby d7_34) rfl rfl ?_
      show Steps p.tables e below (T98.setTop (mkF m 35 #[.val (.long q0), .second, .val (.int (128 : Int32))] [(.ref b98), (.ref b98)])) t
      refine XS.lloadN X98.here hx rfl (hb hby d7_35) rfl ?_
      exact k
    obtain ⟨_, _, ⟨T104, L104, kk104, nn104⟩, -, X104, ⟨Lc104, hQ104, l104, y104, z104⟩, st104⟩ := X98.specialBack hx (y := (⟨"java/lang/Long", "<init>", "(J)V"⟩ : MethodName)) rfl hown (mvT hZ (hw _ (List.mem_of_getElem? (i := 48) rfl))) (mvT hZ (hw _ (List.mem_of_getElem? (i := 49) rfl))) (mvT hZ (hw _ (List.mem_of_getElem? (i := 51) rfl))) (by decide) (backOf (W := 1) (longInit l Z a0 hw [] b98 q0 (0 : Int64) h98 n0 Z100 A98 f103 g_b98) hZ (hw _ (List.mem_of_getElem? (i := 51) rfl)) (hw _ (List.mem_of_getElem? (i := 37) rfl)) (by decide) (by decide)) (g := (mkF m 36 #[.val (.long q0), .second, .val (.int (128 : Int32))] [(.long q0), (.ref b98), (.ref b98)])) rfl (by rw [hml]; rfl) (Steps.refl _) (a := b98) (argsL := [(.long q0)]) (rest := [(.ref b98)]) (lenOf pd_148 rfl) rfl (by show 2 * 0 + _ ≤ _; exact Nat.le_of_eq rfl) (hb hby d7_36) (fun _ _ => ⟨rfl, e98, (by decide : 1 + 0 ≤ _), (by decide : 1 + 0 ≤ _)⟩)
    dsimp only [Pt.U, Pt.locs, Pt.cells, Pt.slots] at X104 l104 y104 z104 st104 hQ104
    subst l104 y104 z104
    obtain ⟨rfl, N105, K106, p107, p108⟩ := hQ104
    have N109 := Fr.app N0 N105
    have f110 : Old Z n0 T104.heap := f101.keep K106 (allS g_b98 all0)
    have f111 : Sta Z T104.heap "java/lang/Long$LongCache" "cache" "[Ljava/lang/Long;" (.ref w_s_cache) := own_sta_keep f102 K106 (allS (own_plain A98) all0)
    have f112 : Exa Z T104.heap b98 "java/lang/Long" := A98.keep K106
    have Z113 : n0 ≤ T104.heap.size := Nat.le_trans Z100 K106.1
    have K114 : Keep h0 T104.heap [] := K99.trans K106 (allS (Or.inr sz_b98) all0)
    refine own_goT st104 ?_
    obtain ⟨fs, hr, hrun, hended, hW, hsame⟩ := X104.leave (v := some (.ref b98)) (fun h => by rw [Bd.returns] at h; cases h)
    refine own_end (v := some (.ref b98)) ?_ hrun hended ?_ hW (hsame.mono (by decide) (by decide))
    · show Steps p.tables e below (T104.setTop (mkF m 39 #[.val (.long q0), .second, .val (.int (128 : Int32))] [(.ref b98)])) _
      jvm_step X104.here [X104.here.top, hx, (hb hby d7_39), X104.method', Bd.returns, Value.isRef, FieldType.isReference]
      first | (intro acts; rw [hr _ acts rfl rfl rfl]) | rw [hr _ _ rfl rfl rfl]
      exact Steps.refl _
    · show QvalueOf Z q0 w_s_cache h0 n0 _ T104.heap _
      exact ⟨b98, rfl, N109, K114, p107⟩
  · skip
    refine own_go (S' := s₁.setTop (mkF m 17 #[.val (.long q0), .second, .val (.int (128 : Int32))] [(.int (Jvm.Free.XT.cmpL q0 (127 : Int64)))])) (fun t k => ?_) ?_
    · show Steps p.tables e below (s₁.setTop (mkF m 9 #[.val (.long q0), .second, .val (.int (128 : Int32))] [(.int (Jvm.Free.XT.cmpL q0 (-128 : Int64)))])) t
      refine XS.ifNo X0.here hx rfl (hb hby d7_9) rfl (Jvm.Free.XT.ll_lt_f hc9) ?_
      show Steps p.tables e below (s₁.setTop (mkF m 12 #[.val (.long q0), .second, .val (.int (128 : Int32))] [])) t
      refine XS.lloadN X0.here hx rfl (hb hby d7_12) rfl ?_
      show Steps p.tables e below (s₁.setTop (mkF m 13 #[.val (.long q0), .second, .val (.int (128 : Int32))] [(.long q0)])) t
      refine X0.ldc2Long hx hown (mvT hZ (hw _ (List.mem_of_getElem? (i := 40) rfl))) (g := (mkF m 13 #[.val (.long q0), .second, .val (.int (128 : Int32))] [(.long q0)])) rfl (hb hby d7_13) _ ?_
      show Steps p.tables e below (s₁.setTop (mkF m 16 #[.val (.long q0), .second, .val (.int (128 : Int32))] [(.long (127 : Int64)), (.long q0)])) t
      refine XS.lcmp X0.here hx rfl (hb hby d7_16) rfl ?_
      exact k
    by_cases hc17 : (127 : Int64) < q0
    · skip
      refine own_go (S' := s₁.setTop (mkF m 31 #[.val (.long q0), .second, .val (.int (128 : Int32))] [])) (fun t k => ?_) ?_
      · show Steps p.tables e below (s₁.setTop (mkF m 17 #[.val (.long q0), .second, .val (.int (128 : Int32))] [(.int (Jvm.Free.XT.cmpL q0 (127 : Int64)))])) t
        refine XS.ifYes X0.here hx rfl (pc0 := 17) (pc' := 31) rfl (hb hby d7_17) rfl (Jvm.Free.XT.ll_gt_t hc17) (by decide) (by decide) ?_
        exact k
      obtain ⟨T115, h115, X115, e115, E115, A115, D115, -, st115⟩ := newO X0 hx hZ hown (hw _ (List.mem_of_getElem? (i := 46) rfl)) (hw _ (List.mem_of_getElem? (i := 47) rfl)) (hw _ (List.mem_of_getElem? (i := 37) rfl)) e0 (g := (mkF m 31 #[.val (.long q0), .second, .val (.int (128 : Int32))] [])) rfl (hb hby d7_31) (by decide) (by decide)
      obtain ⟨b115, g115⟩ : ∃ z, z = h0.size := ⟨_, rfl⟩
      rw [← g115] at A115 D115 st115
      have g_b115 : n0 ≤ b115 := Nat.le_trans Z0 (Nat.le_of_eq g115.symm)
      have sz_b115 : h0.size ≤ b115 := Nat.le_trans K0.1 (Nat.le_of_eq g115.symm)
      have K116 : Keep h0 h115 [] := K0.ext E115
      have Z117 : n0 ≤ h115.size := Nat.le_trans Z0 E115.1
      have f118 : Old Z n0 h115 := Old0.ext E115
      have f119 : Sta Z h115 "java/lang/Long$LongCache" "cache" "[Ljava/lang/Long;" (.ref w_s_cache) := Sta.ext E115 S_cache
      have f120 : Fld Z h115 b115 "java/lang/Long" "value" "J" (.long (0 : Int64)) := D115 (Or.inr (hw _ (List.mem_of_getElem? (i := 60) rfl))) (ty := .long) (by decide)
      refine own_go st115 ?_
      refine own_go (S' := T115.setTop (mkF m 36 #[.val (.long q0), .second, .val (.int (128 : Int32))] [(.long q0), (.ref b115), (.ref b115)])) (fun t k => ?_) ?_
      · show Steps p.tables e below (T115.setTop (mkF m 34 #[.val (.long q0), .second, .val (.int (128 : Int32))] [(.ref b115)])) t
        refine XS.dup X115.here hx rfl (hb hby d7_34) rfl rfl ?_
        show Steps p.tables e below (T115.setTop (mkF m 35 #[.val (.long q0), .second, .val (.int (128 : Int32))] [(.ref b115), (.ref b115)])) t
        refine XS.lloadN X115.here hx rfl (hb hby d7_35) rfl ?_
        exact k
      obtain ⟨_, _, ⟨T121, L121, kk121, nn121⟩, -, X121, ⟨Lc121, hQ121, l121, y121, z121⟩, st121⟩ := X115.specialBack hx (y := (⟨"java/lang/Long", "<init>", "(J)V"⟩ : MethodName)) rfl hown (mvT hZ (hw _ (List.mem_of_getElem? (i := 48) rfl))) (mvT hZ (hw _ (List.mem_of_getElem? (i := 49) rfl))) (mvT hZ (hw _ (List.mem_of_getElem? (i := 51) rfl))) (by decide) (backOf (W := 1) (longInit l Z a0 hw [] b115 q0 (0 : Int64) h115 n0 Z117 A115 f120 g_b115) hZ (hw _ (List.mem_of_getElem? (i := 51) rfl)) (hw _ (List.mem_of_getElem? (i := 37) rfl)) (by decide) (by decide)) (g := (mkF m 36 #[.val (.long q0), .second, .val (.int (128 : Int32))] [(.long q0), (.ref b115), (.ref b115)])) rfl (by rw [hml]; rfl) (Steps.refl _) (a := b115) (argsL := [(.long q0)]) (rest := [(.ref b115)]) (lenOf pd_148 rfl) rfl (by show 2 * 0 + _ ≤ _; exact Nat.le_of_eq rfl) (hb hby d7_36) (fun _ _ => ⟨rfl, e115, (by decide : 1 + 0 ≤ _), (by decide : 1 + 0 ≤ _)⟩)
      dsimp only [Pt.U, Pt.locs, Pt.cells, Pt.slots] at X121 l121 y121 z121 st121 hQ121
      subst l121 y121 z121
      obtain ⟨rfl, N122, K123, p124, p125⟩ := hQ121
      have N126 := Fr.app N0 N122
      have f127 : Old Z n0 T121.heap := f118.keep K123 (allS g_b115 all0)
      have f128 : Sta Z T121.heap "java/lang/Long$LongCache" "cache" "[Ljava/lang/Long;" (.ref w_s_cache) := own_sta_keep f119 K123 (allS (own_plain A115) all0)
      have f129 : Exa Z T121.heap b115 "java/lang/Long" := A115.keep K123
      have Z130 : n0 ≤ T121.heap.size := Nat.le_trans Z117 K123.1
      have K131 : Keep h0 T121.heap [] := K116.trans K123 (allS (Or.inr sz_b115) all0)
      refine own_goT st121 ?_
      obtain ⟨fs, hr, hrun, hended, hW, hsame⟩ := X121.leave (v := some (.ref b115)) (fun h => by rw [Bd.returns] at h; cases h)
      refine own_end (v := some (.ref b115)) ?_ hrun hended ?_ hW (hsame.mono (by decide) (by decide))
      · show Steps p.tables e below (T121.setTop (mkF m 39 #[.val (.long q0), .second, .val (.int (128 : Int32))] [(.ref b115)])) _
        jvm_step X121.here [X121.here.top, hx, (hb hby d7_39), X121.method', Bd.returns, Value.isRef, FieldType.isReference]
        first | (intro acts; rw [hr _ acts rfl rfl rfl]) | rw [hr _ _ rfl rfl rfl]
        exact Steps.refl _
      · show QvalueOf Z q0 w_s_cache h0 n0 _ T121.heap _
        exact ⟨b115, rfl, N126, K131, p124⟩
    · skip
      refine own_go (S' := s₁.setTop (mkF m 20 #[.val (.long q0), .second, .val (.int (128 : Int32))] [])) (fun t k => ?_) ?_
      · show Steps p.tables e below (s₁.setTop (mkF m 17 #[.val (.long q0), .second, .val (.int (128 : Int32))] [(.int (Jvm.Free.XT.cmpL q0 (127 : Int64)))])) t
        refine XS.ifNo X0.here hx rfl (hb hby d7_17) rfl (Jvm.Free.XT.ll_gt_f hc17) ?_
        exact k
      obtain ⟨T132, X132, e132, st132⟩ := getS2 X0 hx hZ hown (host := "") (Or.inl (hw _ (List.mem_of_getElem? (i := 41) rfl))) Via.refl e0 S_cache (g := (mkF m 20 #[.val (.long q0), .second, .val (.int (128 : Int32))] [])) rfl (hb hby d7_20)
      refine own_go st132 ?_
      refine own_go (S' := T132.setTop (mkF m 29 #[.val (.long q0), .second, .val (.int (128 : Int32))] [(.int ((q0.toInt32) + (128 : Int32))), (.ref w_s_cache)])) (fun t k => ?_) ?_
      · show Steps p.tables e below (T132.setTop (mkF m 23 #[.val (.long q0), .second, .val (.int (128 : Int32))] [(.ref w_s_cache)])) t
        refine XS.lloadN X132.here hx rfl (hb hby d7_23) rfl ?_
        show Steps p.tables e below (T132.setTop (mkF m 24 #[.val (.long q0), .second, .val (.int (128 : Int32))] [(.long q0), (.ref w_s_cache)])) t
        refine XS.l2i X132.here hx rfl (hb hby d7_24) rfl ?_
        show Steps p.tables e below (T132.setTop (mkF m 25 #[.val (.long q0), .second, .val (.int (128 : Int32))] [(.int (q0.toInt32)), (.ref w_s_cache)])) t
        refine XS.sipush X132.here hx rfl (hb hby d7_25) ?_
        show Steps p.tables e below (T132.setTop (mkF m 28 #[.val (.long q0), .second, .val (.int (128 : Int32))] [(.int (128 : Int32)), (.int (q0.toInt32)), (.ref w_s_cache)])) t
        refine XS.iadd X132.here hx rfl (hb hby d7_28) rfl ?_
        exact k
      obtain ⟨cl133, Ar133, sz133, el133⟩ := HC
      obtain ⟨hj133, hk133⟩ := own_idx q0 hc9 hc17
      obtain ⟨b133, hb133, Eb133⟩ := el133 _ hk133
      have Ah133 := Ar133.ext Old0.2
      have Ex133 : Exa Z h0 b133 "java/lang/Long" := Exa.ext Old0.2 Eb133
      refine own_go (S' := T132.setTop (mkF m 30 #[.val (.long q0), .second, .val (.int (128 : Int32))] [(.ref b133)])) (fun t k => ?_) ?_
      · show Steps p.tables e below (T132.setTop (mkF m 29 #[.val (.long q0), .second, .val (.int (128 : Int32))] [(.int ((q0.toInt32) + (128 : Int32))), (.ref w_s_cache)])) t
        exact X132.aaload hx (j := ((q0.toInt32) + (128 : Int32))) (v := (.ref b133)) (by (try rw [e132]); exact Ah133.1) (State.isArrayOf_alike hZ.alike Ah133.2.1) rfl Ah133.2.2 (fun q => q.elim hj133 fun q' => Nat.not_lt.mpr (sz133 ▸ q') hk133) hb133 (g := (mkF m 29 #[.val (.long q0), .second, .val (.int (128 : Int32))] [(.int ((q0.toInt32) + (128 : Int32))), (.ref w_s_cache)])) rfl rfl (hb hby d7_29) _ k
      obtain ⟨fs, hr, hrun, hended, hW, hsame⟩ := X132.leave (v := some (.ref b133)) (fun h => by rw [Bd.returns] at h; cases h)
      refine own_end (v := some (.ref b133)) ?_ hrun hended ?_ hW (hsame.mono (by decide) (by decide))
      · show Steps p.tables e below (T132.setTop (mkF m 30 #[.val (.long q0), .second, .val (.int (128 : Int32))] [(.ref b133)])) _
        jvm_step X132.here [X132.here.top, hx, (hb hby d7_30), X132.method', Bd.returns, Value.isRef, FieldType.isReference]
        first | (intro acts; rw [hr _ acts rfl rfl rfl]) | rw [hr _ _ rfl rfl rfl]
        exact Steps.refl _
      · show QvalueOf Z q0 w_s_cache h0 n0 _ T132.heap _
        rw [e132]
        exact ⟨b133, rfl, N0, K0, Ex133⟩
theorem own_eq2 (a b c d e f : Int64) : eqRR_r b a d c f e = (if a = b then (if c = d then (if e = f then (1 : Int32) else (0 : Int32)) else (0 : Int32)) else (0 : Int32)) := by
  unfold eqRR_r
  simp only [eq_comm (a := b) (b := a), eq_comm (a := d) (b := c), eq_comm (a := f) (b := e)]
theorem pd_161 : parseMethodDescriptor "(JJJ)[J" = some ⟨[.long, .long, .long], some (.array .long)⟩ := by decide +kernel
theorem pd_162 : parseMethodDescriptor "(JJJ)V" = some ⟨[.long, .long, .long], none⟩ := by decide +kernel
theorem pd_163 : parseMethodDescriptor "(Ljava/lang/Object;)Z" = some ⟨[(.object "java/lang/Object")], some .boolean⟩ := by decide +kernel
theorem pd_164 : parseMethodDescriptor "(J)Ljava/lang/Long;" = some ⟨[.long], some (.object "java/lang/Long")⟩ := by decide +kernel
theorem ef_rm0 (m : MethodId) (x0 : Int64) (x1 : Int64) (x2 : Int64) (x3 : Int64) (x4 : Int32) : entryFrame m #[(.long x0), (.long x1), (.long x2), (.long x3), (.int x4)] maxLocals = mkF m 0 #[.val (.long x0), .second, .val (.long x1), .second, .val (.long x2), .second, .val (.long x3), .second, .val (.int x4), .unset, .unset, .unset, .unset, .unset, .unset, .unset, .unset, .unset, .unset, .unset] [] := by first | (simp [entryFrame, mkF, argsToLocals, Value.category, maxLocals]; done) | rfl
def Qrm0 (Z : State) (q0 : Int64) (q1 : Int64) (q2 : Int64) (q3 : Int64) (p4 : Int32) (w_s_cache : Addr) (h0 : Heap) (n0 : Nat) (v : Option Value) (h : Heap) (L : List Loc) : Prop := v = some (.int 1) ∧ Fr n0 L
set_option maxRecDepth 65536 in
set_option maxHeartbeats 40000000 in
theorem rm0 (l : Launch) (Z : State) (a0 : Array Value) (hw : ∀ d ∈ tables_1, d.before a0 Z = true) (ws : List Jvm.Cond) (q0 : Int64) (q1 : Int64) (q2 : Int64) (q3 : Int64) (p4 : Int32) (w_s_cache : Addr) (h0 : Heap) (n0 : Nat) (Z0 : n0 ≤ h0.size) (Old0 : Old Z n0 h0) (HC : own_Cache Z w_s_cache) (S_cache : Sta Z h0 "java/lang/Long$LongCache" "cache" "[Ljava/lang/Long;" (.ref w_s_cache)) :
    MetFree l x (head1 (Jvm.Cond.code x code maxLocals ret :: ws) room_1) (fun a U => a = #[(.long q0), (.long q1), (.long q2), (.long q3), (.int p4)] ∧ Z.Warmed39 U.vm ∧ U.heap = h0) (fun _ _ _ _ _ => True) (fun _ U o U' => ∃ v L, o = .returned v ∧ Qrm0 Z q0 q1 q2 q3 p4 w_s_cache h0 n0 v U'.heap L ∧ FrameEnd U o U' L room_1.cells room_1.slots) := by
  refine MetFree.of_bodySF (plainFor_of_name pn_70) hisR ?_
  intro p e s m args below meth c s₁ Bd hml0 hP hK
  obtain ⟨rfl, hZ, hh⟩ := hP
  have hx := Bd.exec
  have hby := Bd.bytes
  have hml : c.maxLocals = 20 := hml0
  have hown : s.vm.findClass "com/example/sure_sequence/suresequence/RegionRangeEqualsPinLaw" = some m.cls := findClass_of_methodNamed Bd.named
  have hnm := (name_of_methodNamed Bd.named Bd.method).1
  have X0 : Stand p l e room_1 s m #[(.long q0), (.long q1), (.long q2), (.long q3), (.int p4)] below meth c s₁ [] 0 0 := Stand.of_body Bd
  have e0 : s₁.heap = h0 := by rw [← hh, Bd.state]; rfl
  have N0 := Fr.nil n0
  show own_Go p e below s (Qrm0 Z q0 q1 q2 q3 p4 w_s_cache h0 n0) room_1.cells room_1.slots (s₁.setTop (entryFrame m #[(.long q0), (.long q1), (.long q2), (.long q3), (.int p4)] maxLocals))
  rw [ef_rm0 m q0 q1 q2 q3 p4]
  refine own_go (S' := s₁.setTop (mkF m 4 #[.val (.long q0), .second, .val (.long q1), .second, .val (.long q2), .second, .val (.long q3), .second, .val (.int p4), .unset, .unset, .unset, .unset, .unset, .unset, .unset, .unset, .unset, .unset, .unset] [(.long q2), (.long q1), (.long q0)])) (fun t k => ?_) ?_
  · show Steps p.tables e below (s₁.setTop (mkF m 0 #[.val (.long q0), .second, .val (.long q1), .second, .val (.long q2), .second, .val (.long q3), .second, .val (.int p4), .unset, .unset, .unset, .unset, .unset, .unset, .unset, .unset, .unset, .unset, .unset] [])) t
    refine XS.lloadN X0.here hx rfl (hb hby at_0) rfl ?_
    show Steps p.tables e below (s₁.setTop (mkF m 1 #[.val (.long q0), .second, .val (.long q1), .second, .val (.long q2), .second, .val (.long q3), .second, .val (.int p4), .unset, .unset, .unset, .unset, .unset, .unset, .unset, .unset, .unset, .unset, .unset] [(.long q0)])) t
    refine XS.lloadN X0.here hx rfl (hb hby at_1) rfl ?_
    show Steps p.tables e below (s₁.setTop (mkF m 2 #[.val (.long q0), .second, .val (.long q1), .second, .val (.long q2), .second, .val (.long q3), .second, .val (.int p4), .unset, .unset, .unset, .unset, .unset, .unset, .unset, .unset, .unset, .unset, .unset] [(.long q1), (.long q0)])) t
    refine XS.lload X0.here hx rfl (hb hby at_2) rfl ?_
    exact k
  obtain ⟨_, _, ⟨T134, L134, kk134, nn134⟩, -, X134, ⟨Lc134, hQ134, l134, y134, z134⟩, st134⟩ := Jvm.LawKit.callS X0 hx (y := (⟨"com/example/sure_sequence/suresequence/RegionRangeEqualsPinLaw", "norm", "(JJJ)[J"⟩ : MethodName)) hown (mvT hZ (hw _ (List.mem_of_getElem? (i := 0) rfl))) (mvT hZ (hw _ (List.mem_of_getElem? (i := 1) rfl))) (mvT hZ (hw _ (List.mem_of_getElem? (i := 2) rfl))) (mvT hZ (hw _ (List.mem_of_getElem? (i := 3) rfl))) (by decide) (backOf (W := 0) (norm l Z a0 hw [] q0 q1 q2 h0 n0 Z0 ) hZ (hw _ (List.mem_of_getElem? (i := 3) rfl)) (hw _ (List.mem_of_getElem? (i := 2) rfl)) (by decide) (by decide)) (g := (mkF m 4 #[.val (.long q0), .second, .val (.long q1), .second, .val (.long q2), .second, .val (.long q3), .second, .val (.int p4), .unset, .unset, .unset, .unset, .unset, .unset, .unset, .unset, .unset, .unset, .unset] [(.long q2), (.long q1), (.long q0)])) rfl (by rw [hml]; rfl) (argsL := [(.long q0), (.long q1), (.long q2)]) (rest := []) (lenOf pd_161 rfl) rfl (by show 2 * 0 + _ ≤ _; exact Nat.le_of_eq rfl) (hb hby at_4) (fun _ _ => ⟨rfl, e0, (by decide : 0 + 1 ≤ _), (by decide : 0 + 3 ≤ _)⟩)
  dsimp only [Pt.U, Pt.locs, Pt.cells, Pt.slots] at X134 l134 y134 z134 st134 hQ134
  subst l134 y134 z134
  obtain ⟨b135, rfl, N136, K137, p138, p139⟩ := hQ134
  have N140 := Fr.app N0 N136
  have g_b135 : n0 ≤ b135 := Nat.le_trans Z0 p138
  have f141 : Old Z n0 T134.heap := Old0.keep K137 all0
  have f142 : Sta Z T134.heap "java/lang/Long$LongCache" "cache" "[Ljava/lang/Long;" (.ref w_s_cache) := own_sta_keep S_cache K137 all0
  have Z143 : n0 ≤ T134.heap.size := Nat.le_trans Z0 K137.1
  refine own_go st134 ?_
  refine own_go (S' := T134.setTop (mkF m 13 #[.val (.long q0), .second, .val (.long q1), .second, .val (.long q2), .second, .val (.long q3), .second, .val (.int p4), .val (.ref b135), .unset, .unset, .unset, .unset, .unset, .unset, .unset, .unset, .unset, .unset] [(.int (p4 &&& (1 : Int32)))])) (fun t k => ?_) ?_
  · show Steps p.tables e below (T134.setTop (mkF m 7 #[.val (.long q0), .second, .val (.long q1), .second, .val (.long q2), .second, .val (.long q3), .second, .val (.int p4), .unset, .unset, .unset, .unset, .unset, .unset, .unset, .unset, .unset, .unset, .unset] [(.ref b135)])) t
    refine XS.astore X134.here hx rfl (hb hby at_7) rfl rfl (l' := #[.val (.long q0), .second, .val (.long q1), .second, .val (.long q2), .second, .val (.long q3), .second, .val (.int p4), .val (.ref b135), .unset, .unset, .unset, .unset, .unset, .unset, .unset, .unset, .unset, .unset]) rfl ?_
    show Steps p.tables e below (T134.setTop (mkF m 9 #[.val (.long q0), .second, .val (.long q1), .second, .val (.long q2), .second, .val (.long q3), .second, .val (.int p4), .val (.ref b135), .unset, .unset, .unset, .unset, .unset, .unset, .unset, .unset, .unset, .unset] [])) t
    refine XS.iload X134.here hx rfl (hb hby at_9) rfl ?_
    show Steps p.tables e below (T134.setTop (mkF m 11 #[.val (.long q0), .second, .val (.long q1), .second, .val (.long q2), .second, .val (.long q3), .second, .val (.int p4), .val (.ref b135), .unset, .unset, .unset, .unset, .unset, .unset, .unset, .unset, .unset, .unset] [(.int p4)])) t
    refine XS.iconst X134.here hx rfl (hb hby at_11) ?_
    show Steps p.tables e below (T134.setTop (mkF m 12 #[.val (.long q0), .second, .val (.long q1), .second, .val (.long q2), .second, .val (.long q3), .second, .val (.int p4), .val (.ref b135), .unset, .unset, .unset, .unset, .unset, .unset, .unset, .unset, .unset, .unset] [(.int (1 : Int32)), (.int p4)])) t
    refine XS.iand X134.here hx rfl (hb hby at_12) rfl ?_
    exact k
  obtain ⟨kq144, cl144, Ar144, q144, S144, Nn144, Hh144, G144⟩ := id p139
  refine own_go (S' := T134.setTop (mkF m 25 #[.val (.long q0), .second, .val (.long q1), .second, .val (.long q2), .second, .val (.long q3), .second, .val (.int p4), .val (.ref b135), .unset, .unset, .unset, .unset, .unset, .unset, .unset, .unset, .unset, .unset] [(.long (if (p4 &&& (1 : Int32)) = (0 : Int32) then q3 else (norm_a_x0__0 q0 q1)))])) (fun t k => ?_) ?_
  · show Steps p.tables e below (T134.setTop (mkF m 13 #[.val (.long q0), .second, .val (.long q1), .second, .val (.long q2), .second, .val (.long q3), .second, .val (.int p4), .val (.ref b135), .unset, .unset, .unset, .unset, .unset, .unset, .unset, .unset, .unset, .unset] [(.int (p4 &&& (1 : Int32)))])) t
    by_cases hc13 : (p4 &&& (1 : Int32)) = (0 : Int32)
    · show Steps p.tables e below (T134.setTop (mkF m 13 #[.val (.long q0), .second, .val (.long q1), .second, .val (.long q2), .second, .val (.long q3), .second, .val (.int p4), .val (.ref b135), .unset, .unset, .unset, .unset, .unset, .unset, .unset, .unset, .unset, .unset] [(.int (p4 &&& (1 : Int32)))])) t
      refine XS.ifYes X134.here hx rfl (pc0 := 13) (pc' := 23) rfl (hb hby at_13) rfl ((if0 _ _).trans (teq hc13).1) (by decide) (by decide) ?_
      show Steps p.tables e below (T134.setTop (mkF m 23 #[.val (.long q0), .second, .val (.long q1), .second, .val (.long q2), .second, .val (.long q3), .second, .val (.int p4), .val (.ref b135), .unset, .unset, .unset, .unset, .unset, .unset, .unset, .unset, .unset, .unset] [])) t
      refine XS.lload X134.here hx rfl (hb hby at_23) rfl ?_
      try simp only [if_pos hc13] at k
      try simp only [if_pos hc13]
      exact k
    · show Steps p.tables e below (T134.setTop (mkF m 13 #[.val (.long q0), .second, .val (.long q1), .second, .val (.long q2), .second, .val (.long q3), .second, .val (.int p4), .val (.ref b135), .unset, .unset, .unset, .unset, .unset, .unset, .unset, .unset, .unset, .unset] [(.int (p4 &&& (1 : Int32)))])) t
      refine XS.ifNo X134.here hx rfl (hb hby at_13) rfl ((if0 _ _).trans (feq hc13).1) ?_
      show Steps p.tables e below (T134.setTop (mkF m 16 #[.val (.long q0), .second, .val (.long q1), .second, .val (.long q2), .second, .val (.long q3), .second, .val (.int p4), .val (.ref b135), .unset, .unset, .unset, .unset, .unset, .unset, .unset, .unset, .unset, .unset] [])) t
      refine XS.aload X134.here hx rfl (hb hby at_16) rfl rfl ?_
      show Steps p.tables e below (T134.setTop (mkF m 18 #[.val (.long q0), .second, .val (.long q1), .second, .val (.long q2), .second, .val (.long q3), .second, .val (.int p4), .val (.ref b135), .unset, .unset, .unset, .unset, .unset, .unset, .unset, .unset, .unset, .unset] [(.ref b135)])) t
      refine XS.iconst X134.here hx rfl (hb hby at_18) ?_
      show Steps p.tables e below (T134.setTop (mkF m 19 #[.val (.long q0), .second, .val (.long q1), .second, .val (.long q2), .second, .val (.long q3), .second, .val (.int p4), .val (.ref b135), .unset, .unset, .unset, .unset, .unset, .unset, .unset, .unset, .unset, .unset] [(.int (0 : Int32)), (.ref b135)])) t
      refine X134.laload hx (j := (0 : Int32)) (v := (.long (norm_a_x0__0 q0 q1))) (by (try rw [rfl]); exact Ar144.1) (State.isArrayOf_alike hZ.alike Ar144.2.1) Ar144.2.2 (inb_of S144 ⟨by decide, by decide⟩) (Hh144.at (inb_of S144 ⟨by decide, by decide⟩) rfl) (g := (mkF m 19 #[.val (.long q0), .second, .val (.long q1), .second, .val (.long q2), .second, .val (.long q3), .second, .val (.int p4), .val (.ref b135), .unset, .unset, .unset, .unset, .unset, .unset, .unset, .unset, .unset, .unset] [(.int (0 : Int32)), (.ref b135)])) rfl rfl (hb hby at_19) _ ?_
      show Steps p.tables e below (T134.setTop (mkF m 20 #[.val (.long q0), .second, .val (.long q1), .second, .val (.long q2), .second, .val (.long q3), .second, .val (.int p4), .val (.ref b135), .unset, .unset, .unset, .unset, .unset, .unset, .unset, .unset, .unset, .unset] [(.long (norm_a_x0__0 q0 q1))])) t
      refine XS.goto X134.here hx rfl (pc0 := 20) (pc' := 25) rfl (hb hby at_20) (by decide) (by decide) ?_
      try simp only [if_neg hc13] at k
      try simp only [if_neg hc13]
      exact k
  refine own_go (S' := T134.setTop (mkF m 31 #[.val (.long q0), .second, .val (.long q1), .second, .val (.long q2), .second, .val (.long q3), .second, .val (.int p4), .val (.ref b135), .val (.long (if (p4 &&& (1 : Int32)) = (0 : Int32) then q3 else (norm_a_x0__0 q0 q1))), .second, .unset, .unset, .unset, .unset, .unset, .unset, .unset, .unset] [(.int (p4 &&& (2 : Int32)))])) (fun t k => ?_) ?_
  · show Steps p.tables e below (T134.setTop (mkF m 25 #[.val (.long q0), .second, .val (.long q1), .second, .val (.long q2), .second, .val (.long q3), .second, .val (.int p4), .val (.ref b135), .unset, .unset, .unset, .unset, .unset, .unset, .unset, .unset, .unset, .unset] [(.long (if (p4 &&& (1 : Int32)) = (0 : Int32) then q3 else (norm_a_x0__0 q0 q1)))])) t
    refine XS.lstore X134.here hx rfl (hb hby at_25) rfl (l' := #[.val (.long q0), .second, .val (.long q1), .second, .val (.long q2), .second, .val (.long q3), .second, .val (.int p4), .val (.ref b135), .val (.long (if (p4 &&& (1 : Int32)) = (0 : Int32) then q3 else (norm_a_x0__0 q0 q1))), .second, .unset, .unset, .unset, .unset, .unset, .unset, .unset, .unset]) rfl ?_
    show Steps p.tables e below (T134.setTop (mkF m 27 #[.val (.long q0), .second, .val (.long q1), .second, .val (.long q2), .second, .val (.long q3), .second, .val (.int p4), .val (.ref b135), .val (.long (if (p4 &&& (1 : Int32)) = (0 : Int32) then q3 else (norm_a_x0__0 q0 q1))), .second, .unset, .unset, .unset, .unset, .unset, .unset, .unset, .unset] [])) t
    refine XS.iload X134.here hx rfl (hb hby at_27) rfl ?_
    show Steps p.tables e below (T134.setTop (mkF m 29 #[.val (.long q0), .second, .val (.long q1), .second, .val (.long q2), .second, .val (.long q3), .second, .val (.int p4), .val (.ref b135), .val (.long (if (p4 &&& (1 : Int32)) = (0 : Int32) then q3 else (norm_a_x0__0 q0 q1))), .second, .unset, .unset, .unset, .unset, .unset, .unset, .unset, .unset] [(.int p4)])) t
    refine XS.iconst X134.here hx rfl (hb hby at_29) ?_
    show Steps p.tables e below (T134.setTop (mkF m 30 #[.val (.long q0), .second, .val (.long q1), .second, .val (.long q2), .second, .val (.long q3), .second, .val (.int p4), .val (.ref b135), .val (.long (if (p4 &&& (1 : Int32)) = (0 : Int32) then q3 else (norm_a_x0__0 q0 q1))), .second, .unset, .unset, .unset, .unset, .unset, .unset, .unset, .unset] [(.int (2 : Int32)), (.int p4)])) t
    refine XS.iand X134.here hx rfl (hb hby at_30) rfl ?_
    exact k
  refine own_go (S' := T134.setTop (mkF m 43 #[.val (.long q0), .second, .val (.long q1), .second, .val (.long q2), .second, .val (.long q3), .second, .val (.int p4), .val (.ref b135), .val (.long (if (p4 &&& (1 : Int32)) = (0 : Int32) then q3 else (norm_a_x0__0 q0 q1))), .second, .unset, .unset, .unset, .unset, .unset, .unset, .unset, .unset] [(.long (if (p4 &&& (2 : Int32)) = (0 : Int32) then q3 else (norm_a_x0__1 q0 q1)))])) (fun t k => ?_) ?_
  · show Steps p.tables e below (T134.setTop (mkF m 31 #[.val (.long q0), .second, .val (.long q1), .second, .val (.long q2), .second, .val (.long q3), .second, .val (.int p4), .val (.ref b135), .val (.long (if (p4 &&& (1 : Int32)) = (0 : Int32) then q3 else (norm_a_x0__0 q0 q1))), .second, .unset, .unset, .unset, .unset, .unset, .unset, .unset, .unset] [(.int (p4 &&& (2 : Int32)))])) t
    by_cases hc31 : (p4 &&& (2 : Int32)) = (0 : Int32)
    · show Steps p.tables e below (T134.setTop (mkF m 31 #[.val (.long q0), .second, .val (.long q1), .second, .val (.long q2), .second, .val (.long q3), .second, .val (.int p4), .val (.ref b135), .val (.long (if (p4 &&& (1 : Int32)) = (0 : Int32) then q3 else (norm_a_x0__0 q0 q1))), .second, .unset, .unset, .unset, .unset, .unset, .unset, .unset, .unset] [(.int (p4 &&& (2 : Int32)))])) t
      refine XS.ifYes X134.here hx rfl (pc0 := 31) (pc' := 41) rfl (hb hby at_31) rfl ((if0 _ _).trans (teq hc31).1) (by decide) (by decide) ?_
      show Steps p.tables e below (T134.setTop (mkF m 41 #[.val (.long q0), .second, .val (.long q1), .second, .val (.long q2), .second, .val (.long q3), .second, .val (.int p4), .val (.ref b135), .val (.long (if (p4 &&& (1 : Int32)) = (0 : Int32) then q3 else (norm_a_x0__0 q0 q1))), .second, .unset, .unset, .unset, .unset, .unset, .unset, .unset, .unset] [])) t
      refine XS.lload X134.here hx rfl (hb hby at_41) rfl ?_
      try simp only [if_pos hc31] at k
      try simp only [if_pos hc31]
      exact k
    · show Steps p.tables e below (T134.setTop (mkF m 31 #[.val (.long q0), .second, .val (.long q1), .second, .val (.long q2), .second, .val (.long q3), .second, .val (.int p4), .val (.ref b135), .val (.long (if (p4 &&& (1 : Int32)) = (0 : Int32) then q3 else (norm_a_x0__0 q0 q1))), .second, .unset, .unset, .unset, .unset, .unset, .unset, .unset, .unset] [(.int (p4 &&& (2 : Int32)))])) t
      refine XS.ifNo X134.here hx rfl (hb hby at_31) rfl ((if0 _ _).trans (feq hc31).1) ?_
      show Steps p.tables e below (T134.setTop (mkF m 34 #[.val (.long q0), .second, .val (.long q1), .second, .val (.long q2), .second, .val (.long q3), .second, .val (.int p4), .val (.ref b135), .val (.long (if (p4 &&& (1 : Int32)) = (0 : Int32) then q3 else (norm_a_x0__0 q0 q1))), .second, .unset, .unset, .unset, .unset, .unset, .unset, .unset, .unset] [])) t
      refine XS.aload X134.here hx rfl (hb hby at_34) rfl rfl ?_
      show Steps p.tables e below (T134.setTop (mkF m 36 #[.val (.long q0), .second, .val (.long q1), .second, .val (.long q2), .second, .val (.long q3), .second, .val (.int p4), .val (.ref b135), .val (.long (if (p4 &&& (1 : Int32)) = (0 : Int32) then q3 else (norm_a_x0__0 q0 q1))), .second, .unset, .unset, .unset, .unset, .unset, .unset, .unset, .unset] [(.ref b135)])) t
      refine XS.iconst X134.here hx rfl (hb hby at_36) ?_
      show Steps p.tables e below (T134.setTop (mkF m 37 #[.val (.long q0), .second, .val (.long q1), .second, .val (.long q2), .second, .val (.long q3), .second, .val (.int p4), .val (.ref b135), .val (.long (if (p4 &&& (1 : Int32)) = (0 : Int32) then q3 else (norm_a_x0__0 q0 q1))), .second, .unset, .unset, .unset, .unset, .unset, .unset, .unset, .unset] [(.int (1 : Int32)), (.ref b135)])) t
      refine X134.laload hx (j := (1 : Int32)) (v := (.long (norm_a_x0__1 q0 q1))) (by (try rw [rfl]); exact Ar144.1) (State.isArrayOf_alike hZ.alike Ar144.2.1) Ar144.2.2 (inb_of S144 ⟨by decide, by decide⟩) (Hh144.at (inb_of S144 ⟨by decide, by decide⟩) rfl) (g := (mkF m 37 #[.val (.long q0), .second, .val (.long q1), .second, .val (.long q2), .second, .val (.long q3), .second, .val (.int p4), .val (.ref b135), .val (.long (if (p4 &&& (1 : Int32)) = (0 : Int32) then q3 else (norm_a_x0__0 q0 q1))), .second, .unset, .unset, .unset, .unset, .unset, .unset, .unset, .unset] [(.int (1 : Int32)), (.ref b135)])) rfl rfl (hb hby at_37) _ ?_
      show Steps p.tables e below (T134.setTop (mkF m 38 #[.val (.long q0), .second, .val (.long q1), .second, .val (.long q2), .second, .val (.long q3), .second, .val (.int p4), .val (.ref b135), .val (.long (if (p4 &&& (1 : Int32)) = (0 : Int32) then q3 else (norm_a_x0__0 q0 q1))), .second, .unset, .unset, .unset, .unset, .unset, .unset, .unset, .unset] [(.long (norm_a_x0__1 q0 q1))])) t
      refine XS.goto X134.here hx rfl (pc0 := 38) (pc' := 43) rfl (hb hby at_38) (by decide) (by decide) ?_
      try simp only [if_neg hc31] at k
      try simp only [if_neg hc31]
      exact k
  refine own_go (S' := T134.setTop (mkF m 49 #[.val (.long q0), .second, .val (.long q1), .second, .val (.long q2), .second, .val (.long q3), .second, .val (.int p4), .val (.ref b135), .val (.long (if (p4 &&& (1 : Int32)) = (0 : Int32) then q3 else (norm_a_x0__0 q0 q1))), .second, .val (.long (if (p4 &&& (2 : Int32)) = (0 : Int32) then q3 else (norm_a_x0__1 q0 q1))), .second, .unset, .unset, .unset, .unset, .unset, .unset] [(.int (p4 &&& (4 : Int32)))])) (fun t k => ?_) ?_
  · show Steps p.tables e below (T134.setTop (mkF m 43 #[.val (.long q0), .second, .val (.long q1), .second, .val (.long q2), .second, .val (.long q3), .second, .val (.int p4), .val (.ref b135), .val (.long (if (p4 &&& (1 : Int32)) = (0 : Int32) then q3 else (norm_a_x0__0 q0 q1))), .second, .unset, .unset, .unset, .unset, .unset, .unset, .unset, .unset] [(.long (if (p4 &&& (2 : Int32)) = (0 : Int32) then q3 else (norm_a_x0__1 q0 q1)))])) t
    refine XS.lstore X134.here hx rfl (hb hby at_43) rfl (l' := #[.val (.long q0), .second, .val (.long q1), .second, .val (.long q2), .second, .val (.long q3), .second, .val (.int p4), .val (.ref b135), .val (.long (if (p4 &&& (1 : Int32)) = (0 : Int32) then q3 else (norm_a_x0__0 q0 q1))), .second, .val (.long (if (p4 &&& (2 : Int32)) = (0 : Int32) then q3 else (norm_a_x0__1 q0 q1))), .second, .unset, .unset, .unset, .unset, .unset, .unset]) rfl ?_
    show Steps p.tables e below (T134.setTop (mkF m 45 #[.val (.long q0), .second, .val (.long q1), .second, .val (.long q2), .second, .val (.long q3), .second, .val (.int p4), .val (.ref b135), .val (.long (if (p4 &&& (1 : Int32)) = (0 : Int32) then q3 else (norm_a_x0__0 q0 q1))), .second, .val (.long (if (p4 &&& (2 : Int32)) = (0 : Int32) then q3 else (norm_a_x0__1 q0 q1))), .second, .unset, .unset, .unset, .unset, .unset, .unset] [])) t
    refine XS.iload X134.here hx rfl (hb hby at_45) rfl ?_
    show Steps p.tables e below (T134.setTop (mkF m 47 #[.val (.long q0), .second, .val (.long q1), .second, .val (.long q2), .second, .val (.long q3), .second, .val (.int p4), .val (.ref b135), .val (.long (if (p4 &&& (1 : Int32)) = (0 : Int32) then q3 else (norm_a_x0__0 q0 q1))), .second, .val (.long (if (p4 &&& (2 : Int32)) = (0 : Int32) then q3 else (norm_a_x0__1 q0 q1))), .second, .unset, .unset, .unset, .unset, .unset, .unset] [(.int p4)])) t
    refine XS.iconst X134.here hx rfl (hb hby at_47) ?_
    show Steps p.tables e below (T134.setTop (mkF m 48 #[.val (.long q0), .second, .val (.long q1), .second, .val (.long q2), .second, .val (.long q3), .second, .val (.int p4), .val (.ref b135), .val (.long (if (p4 &&& (1 : Int32)) = (0 : Int32) then q3 else (norm_a_x0__0 q0 q1))), .second, .val (.long (if (p4 &&& (2 : Int32)) = (0 : Int32) then q3 else (norm_a_x0__1 q0 q1))), .second, .unset, .unset, .unset, .unset, .unset, .unset] [(.int (4 : Int32)), (.int p4)])) t
    refine XS.iand X134.here hx rfl (hb hby at_48) rfl ?_
    exact k
  refine own_go (S' := T134.setTop (mkF m 61 #[.val (.long q0), .second, .val (.long q1), .second, .val (.long q2), .second, .val (.long q3), .second, .val (.int p4), .val (.ref b135), .val (.long (if (p4 &&& (1 : Int32)) = (0 : Int32) then q3 else (norm_a_x0__0 q0 q1))), .second, .val (.long (if (p4 &&& (2 : Int32)) = (0 : Int32) then q3 else (norm_a_x0__1 q0 q1))), .second, .unset, .unset, .unset, .unset, .unset, .unset] [(.long (if (p4 &&& (4 : Int32)) = (0 : Int32) then q3 else (norm_a_x0__2 q0 q1 q2)))])) (fun t k => ?_) ?_
  · show Steps p.tables e below (T134.setTop (mkF m 49 #[.val (.long q0), .second, .val (.long q1), .second, .val (.long q2), .second, .val (.long q3), .second, .val (.int p4), .val (.ref b135), .val (.long (if (p4 &&& (1 : Int32)) = (0 : Int32) then q3 else (norm_a_x0__0 q0 q1))), .second, .val (.long (if (p4 &&& (2 : Int32)) = (0 : Int32) then q3 else (norm_a_x0__1 q0 q1))), .second, .unset, .unset, .unset, .unset, .unset, .unset] [(.int (p4 &&& (4 : Int32)))])) t
    by_cases hc49 : (p4 &&& (4 : Int32)) = (0 : Int32)
    · show Steps p.tables e below (T134.setTop (mkF m 49 #[.val (.long q0), .second, .val (.long q1), .second, .val (.long q2), .second, .val (.long q3), .second, .val (.int p4), .val (.ref b135), .val (.long (if (p4 &&& (1 : Int32)) = (0 : Int32) then q3 else (norm_a_x0__0 q0 q1))), .second, .val (.long (if (p4 &&& (2 : Int32)) = (0 : Int32) then q3 else (norm_a_x0__1 q0 q1))), .second, .unset, .unset, .unset, .unset, .unset, .unset] [(.int (p4 &&& (4 : Int32)))])) t
      refine XS.ifYes X134.here hx rfl (pc0 := 49) (pc' := 59) rfl (hb hby at_49) rfl ((if0 _ _).trans (teq hc49).1) (by decide) (by decide) ?_
      show Steps p.tables e below (T134.setTop (mkF m 59 #[.val (.long q0), .second, .val (.long q1), .second, .val (.long q2), .second, .val (.long q3), .second, .val (.int p4), .val (.ref b135), .val (.long (if (p4 &&& (1 : Int32)) = (0 : Int32) then q3 else (norm_a_x0__0 q0 q1))), .second, .val (.long (if (p4 &&& (2 : Int32)) = (0 : Int32) then q3 else (norm_a_x0__1 q0 q1))), .second, .unset, .unset, .unset, .unset, .unset, .unset] [])) t
      refine XS.lload X134.here hx rfl (hb hby at_59) rfl ?_
      try simp only [if_pos hc49] at k
      try simp only [if_pos hc49]
      exact k
    · show Steps p.tables e below (T134.setTop (mkF m 49 #[.val (.long q0), .second, .val (.long q1), .second, .val (.long q2), .second, .val (.long q3), .second, .val (.int p4), .val (.ref b135), .val (.long (if (p4 &&& (1 : Int32)) = (0 : Int32) then q3 else (norm_a_x0__0 q0 q1))), .second, .val (.long (if (p4 &&& (2 : Int32)) = (0 : Int32) then q3 else (norm_a_x0__1 q0 q1))), .second, .unset, .unset, .unset, .unset, .unset, .unset] [(.int (p4 &&& (4 : Int32)))])) t
      refine XS.ifNo X134.here hx rfl (hb hby at_49) rfl ((if0 _ _).trans (feq hc49).1) ?_
      show Steps p.tables e below (T134.setTop (mkF m 52 #[.val (.long q0), .second, .val (.long q1), .second, .val (.long q2), .second, .val (.long q3), .second, .val (.int p4), .val (.ref b135), .val (.long (if (p4 &&& (1 : Int32)) = (0 : Int32) then q3 else (norm_a_x0__0 q0 q1))), .second, .val (.long (if (p4 &&& (2 : Int32)) = (0 : Int32) then q3 else (norm_a_x0__1 q0 q1))), .second, .unset, .unset, .unset, .unset, .unset, .unset] [])) t
      refine XS.aload X134.here hx rfl (hb hby at_52) rfl rfl ?_
      show Steps p.tables e below (T134.setTop (mkF m 54 #[.val (.long q0), .second, .val (.long q1), .second, .val (.long q2), .second, .val (.long q3), .second, .val (.int p4), .val (.ref b135), .val (.long (if (p4 &&& (1 : Int32)) = (0 : Int32) then q3 else (norm_a_x0__0 q0 q1))), .second, .val (.long (if (p4 &&& (2 : Int32)) = (0 : Int32) then q3 else (norm_a_x0__1 q0 q1))), .second, .unset, .unset, .unset, .unset, .unset, .unset] [(.ref b135)])) t
      refine XS.iconst X134.here hx rfl (hb hby at_54) ?_
      show Steps p.tables e below (T134.setTop (mkF m 55 #[.val (.long q0), .second, .val (.long q1), .second, .val (.long q2), .second, .val (.long q3), .second, .val (.int p4), .val (.ref b135), .val (.long (if (p4 &&& (1 : Int32)) = (0 : Int32) then q3 else (norm_a_x0__0 q0 q1))), .second, .val (.long (if (p4 &&& (2 : Int32)) = (0 : Int32) then q3 else (norm_a_x0__1 q0 q1))), .second, .unset, .unset, .unset, .unset, .unset, .unset] [(.int (2 : Int32)), (.ref b135)])) t
      refine X134.laload hx (j := (2 : Int32)) (v := (.long (norm_a_x0__2 q0 q1 q2))) (by (try rw [rfl]); exact Ar144.1) (State.isArrayOf_alike hZ.alike Ar144.2.1) Ar144.2.2 (inb_of S144 ⟨by decide, by decide⟩) (Hh144.at (inb_of S144 ⟨by decide, by decide⟩) rfl) (g := (mkF m 55 #[.val (.long q0), .second, .val (.long q1), .second, .val (.long q2), .second, .val (.long q3), .second, .val (.int p4), .val (.ref b135), .val (.long (if (p4 &&& (1 : Int32)) = (0 : Int32) then q3 else (norm_a_x0__0 q0 q1))), .second, .val (.long (if (p4 &&& (2 : Int32)) = (0 : Int32) then q3 else (norm_a_x0__1 q0 q1))), .second, .unset, .unset, .unset, .unset, .unset, .unset] [(.int (2 : Int32)), (.ref b135)])) rfl rfl (hb hby at_55) _ ?_
      show Steps p.tables e below (T134.setTop (mkF m 56 #[.val (.long q0), .second, .val (.long q1), .second, .val (.long q2), .second, .val (.long q3), .second, .val (.int p4), .val (.ref b135), .val (.long (if (p4 &&& (1 : Int32)) = (0 : Int32) then q3 else (norm_a_x0__0 q0 q1))), .second, .val (.long (if (p4 &&& (2 : Int32)) = (0 : Int32) then q3 else (norm_a_x0__1 q0 q1))), .second, .unset, .unset, .unset, .unset, .unset, .unset] [(.long (norm_a_x0__2 q0 q1 q2))])) t
      refine XS.goto X134.here hx rfl (pc0 := 56) (pc' := 61) rfl (hb hby at_56) (by decide) (by decide) ?_
      try simp only [if_neg hc49] at k
      try simp only [if_neg hc49]
      exact k
  refine own_go (S' := T134.setTop (mkF m 69 #[.val (.long q0), .second, .val (.long q1), .second, .val (.long q2), .second, .val (.long q3), .second, .val (.int p4), .val (.ref b135), .val (.long (if (p4 &&& (1 : Int32)) = (0 : Int32) then q3 else (norm_a_x0__0 q0 q1))), .second, .val (.long (if (p4 &&& (2 : Int32)) = (0 : Int32) then q3 else (norm_a_x0__1 q0 q1))), .second, .val (.long (if (p4 &&& (4 : Int32)) = (0 : Int32) then q3 else (norm_a_x0__2 q0 q1 q2))), .second, .unset, .unset, .unset, .unset] [(.long (if (p4 &&& (4 : Int32)) = (0 : Int32) then q3 else (norm_a_x0__2 q0 q1 q2))), (.long (if (p4 &&& (2 : Int32)) = (0 : Int32) then q3 else (norm_a_x0__1 q0 q1))), (.long (if (p4 &&& (1 : Int32)) = (0 : Int32) then q3 else (norm_a_x0__0 q0 q1)))])) (fun t k => ?_) ?_
  · show Steps p.tables e below (T134.setTop (mkF m 61 #[.val (.long q0), .second, .val (.long q1), .second, .val (.long q2), .second, .val (.long q3), .second, .val (.int p4), .val (.ref b135), .val (.long (if (p4 &&& (1 : Int32)) = (0 : Int32) then q3 else (norm_a_x0__0 q0 q1))), .second, .val (.long (if (p4 &&& (2 : Int32)) = (0 : Int32) then q3 else (norm_a_x0__1 q0 q1))), .second, .unset, .unset, .unset, .unset, .unset, .unset] [(.long (if (p4 &&& (4 : Int32)) = (0 : Int32) then q3 else (norm_a_x0__2 q0 q1 q2)))])) t
    refine XS.lstore X134.here hx rfl (hb hby at_61) rfl (l' := #[.val (.long q0), .second, .val (.long q1), .second, .val (.long q2), .second, .val (.long q3), .second, .val (.int p4), .val (.ref b135), .val (.long (if (p4 &&& (1 : Int32)) = (0 : Int32) then q3 else (norm_a_x0__0 q0 q1))), .second, .val (.long (if (p4 &&& (2 : Int32)) = (0 : Int32) then q3 else (norm_a_x0__1 q0 q1))), .second, .val (.long (if (p4 &&& (4 : Int32)) = (0 : Int32) then q3 else (norm_a_x0__2 q0 q1 q2))), .second, .unset, .unset, .unset, .unset]) rfl ?_
    show Steps p.tables e below (T134.setTop (mkF m 63 #[.val (.long q0), .second, .val (.long q1), .second, .val (.long q2), .second, .val (.long q3), .second, .val (.int p4), .val (.ref b135), .val (.long (if (p4 &&& (1 : Int32)) = (0 : Int32) then q3 else (norm_a_x0__0 q0 q1))), .second, .val (.long (if (p4 &&& (2 : Int32)) = (0 : Int32) then q3 else (norm_a_x0__1 q0 q1))), .second, .val (.long (if (p4 &&& (4 : Int32)) = (0 : Int32) then q3 else (norm_a_x0__2 q0 q1 q2))), .second, .unset, .unset, .unset, .unset] [])) t
    refine XS.lload X134.here hx rfl (hb hby at_63) rfl ?_
    show Steps p.tables e below (T134.setTop (mkF m 65 #[.val (.long q0), .second, .val (.long q1), .second, .val (.long q2), .second, .val (.long q3), .second, .val (.int p4), .val (.ref b135), .val (.long (if (p4 &&& (1 : Int32)) = (0 : Int32) then q3 else (norm_a_x0__0 q0 q1))), .second, .val (.long (if (p4 &&& (2 : Int32)) = (0 : Int32) then q3 else (norm_a_x0__1 q0 q1))), .second, .val (.long (if (p4 &&& (4 : Int32)) = (0 : Int32) then q3 else (norm_a_x0__2 q0 q1 q2))), .second, .unset, .unset, .unset, .unset] [(.long (if (p4 &&& (1 : Int32)) = (0 : Int32) then q3 else (norm_a_x0__0 q0 q1)))])) t
    refine XS.lload X134.here hx rfl (hb hby at_65) rfl ?_
    show Steps p.tables e below (T134.setTop (mkF m 67 #[.val (.long q0), .second, .val (.long q1), .second, .val (.long q2), .second, .val (.long q3), .second, .val (.int p4), .val (.ref b135), .val (.long (if (p4 &&& (1 : Int32)) = (0 : Int32) then q3 else (norm_a_x0__0 q0 q1))), .second, .val (.long (if (p4 &&& (2 : Int32)) = (0 : Int32) then q3 else (norm_a_x0__1 q0 q1))), .second, .val (.long (if (p4 &&& (4 : Int32)) = (0 : Int32) then q3 else (norm_a_x0__2 q0 q1 q2))), .second, .unset, .unset, .unset, .unset] [(.long (if (p4 &&& (2 : Int32)) = (0 : Int32) then q3 else (norm_a_x0__1 q0 q1))), (.long (if (p4 &&& (1 : Int32)) = (0 : Int32) then q3 else (norm_a_x0__0 q0 q1)))])) t
    refine XS.lload X134.here hx rfl (hb hby at_67) rfl ?_
    exact k
  obtain ⟨_, _, ⟨T145, L145, kk145, nn145⟩, -, X145, ⟨Lc145, hQ145, l145, y145, z145⟩, st145⟩ := Jvm.LawKit.callS X134 hx (y := (⟨"com/example/sure_sequence/suresequence/RegionRangeEqualsPinLaw", "norm", "(JJJ)[J"⟩ : MethodName)) hown (mvT hZ (hw _ (List.mem_of_getElem? (i := 0) rfl))) (mvT hZ (hw _ (List.mem_of_getElem? (i := 1) rfl))) (mvT hZ (hw _ (List.mem_of_getElem? (i := 2) rfl))) (mvT hZ (hw _ (List.mem_of_getElem? (i := 3) rfl))) (by decide) (backOf (W := 0) (norm l Z a0 hw [] (if (p4 &&& (1 : Int32)) = (0 : Int32) then q3 else (norm_a_x0__0 q0 q1)) (if (p4 &&& (2 : Int32)) = (0 : Int32) then q3 else (norm_a_x0__1 q0 q1)) (if (p4 &&& (4 : Int32)) = (0 : Int32) then q3 else (norm_a_x0__2 q0 q1 q2)) T134.heap n0 Z143 ) hZ (hw _ (List.mem_of_getElem? (i := 3) rfl)) (hw _ (List.mem_of_getElem? (i := 2) rfl)) (by decide) (by decide)) (g := (mkF m 69 #[.val (.long q0), .second, .val (.long q1), .second, .val (.long q2), .second, .val (.long q3), .second, .val (.int p4), .val (.ref b135), .val (.long (if (p4 &&& (1 : Int32)) = (0 : Int32) then q3 else (norm_a_x0__0 q0 q1))), .second, .val (.long (if (p4 &&& (2 : Int32)) = (0 : Int32) then q3 else (norm_a_x0__1 q0 q1))), .second, .val (.long (if (p4 &&& (4 : Int32)) = (0 : Int32) then q3 else (norm_a_x0__2 q0 q1 q2))), .second, .unset, .unset, .unset, .unset] [(.long (if (p4 &&& (4 : Int32)) = (0 : Int32) then q3 else (norm_a_x0__2 q0 q1 q2))), (.long (if (p4 &&& (2 : Int32)) = (0 : Int32) then q3 else (norm_a_x0__1 q0 q1))), (.long (if (p4 &&& (1 : Int32)) = (0 : Int32) then q3 else (norm_a_x0__0 q0 q1)))])) rfl (by rw [hml]; rfl) (argsL := [(.long (if (p4 &&& (1 : Int32)) = (0 : Int32) then q3 else (norm_a_x0__0 q0 q1))), (.long (if (p4 &&& (2 : Int32)) = (0 : Int32) then q3 else (norm_a_x0__1 q0 q1))), (.long (if (p4 &&& (4 : Int32)) = (0 : Int32) then q3 else (norm_a_x0__2 q0 q1 q2)))]) (rest := []) (lenOf pd_161 rfl) rfl (by show 2 * 0 + _ ≤ _; exact Nat.le_of_eq rfl) (hb hby at_69) (fun _ _ => ⟨rfl, rfl, (by decide : 1 + 1 ≤ _), (by decide : 3 + 3 ≤ _)⟩)
  dsimp only [Pt.U, Pt.locs, Pt.cells, Pt.slots] at X145 l145 y145 z145 st145 hQ145
  subst l145 y145 z145
  obtain ⟨b146, rfl, N147, K148, p149, p150⟩ := hQ145
  have N151 := Fr.app N140 N147
  have ne152 : b135 ≠ b146 := Nat.ne_of_lt (Nat.lt_of_lt_of_le p139.lt p149)
  have g_b146 : n0 ≤ b146 := Nat.le_trans Z143 p149
  have f153 : Old Z n0 T145.heap := f141.keep K148 all0
  have f154 : Sta Z T145.heap "java/lang/Long$LongCache" "cache" "[Ljava/lang/Long;" (.ref w_s_cache) := own_sta_keep f142 K148 all0
  have f155 : own_Arv Z T145.heap b135 .long (3 : Int32) [(.long (norm_a_x0__0 q0 q1)), (.long (norm_a_x0__1 q0 q1)), (.long (norm_a_x0__2 q0 q1 q2))] (.long (0 : Int64)) := p139.keep K148 nin0
  have Z156 : n0 ≤ T145.heap.size := Nat.le_trans Z143 K148.1
  refine own_go st145 ?_
  refine own_go (S' := T145.setTop (mkF m 74 #[.val (.long q0), .second, .val (.long q1), .second, .val (.long q2), .second, .val (.long q3), .second, .val (.int p4), .val (.ref b135), .val (.long (if (p4 &&& (1 : Int32)) = (0 : Int32) then q3 else (norm_a_x0__0 q0 q1))), .second, .val (.long (if (p4 &&& (2 : Int32)) = (0 : Int32) then q3 else (norm_a_x0__1 q0 q1))), .second, .val (.long (if (p4 &&& (4 : Int32)) = (0 : Int32) then q3 else (norm_a_x0__2 q0 q1 q2))), .second, .val (.ref b146), .unset, .unset, .unset] [])) (fun t k => ?_) ?_
  · show Steps p.tables e below (T145.setTop (mkF m 72 #[.val (.long q0), .second, .val (.long q1), .second, .val (.long q2), .second, .val (.long q3), .second, .val (.int p4), .val (.ref b135), .val (.long (if (p4 &&& (1 : Int32)) = (0 : Int32) then q3 else (norm_a_x0__0 q0 q1))), .second, .val (.long (if (p4 &&& (2 : Int32)) = (0 : Int32) then q3 else (norm_a_x0__1 q0 q1))), .second, .val (.long (if (p4 &&& (4 : Int32)) = (0 : Int32) then q3 else (norm_a_x0__2 q0 q1 q2))), .second, .unset, .unset, .unset, .unset] [(.ref b146)])) t
    refine XS.astore X145.here hx rfl (hb hby at_72) rfl rfl (l' := #[.val (.long q0), .second, .val (.long q1), .second, .val (.long q2), .second, .val (.long q3), .second, .val (.int p4), .val (.ref b135), .val (.long (if (p4 &&& (1 : Int32)) = (0 : Int32) then q3 else (norm_a_x0__0 q0 q1))), .second, .val (.long (if (p4 &&& (2 : Int32)) = (0 : Int32) then q3 else (norm_a_x0__1 q0 q1))), .second, .val (.long (if (p4 &&& (4 : Int32)) = (0 : Int32) then q3 else (norm_a_x0__2 q0 q1 q2))), .second, .val (.ref b146), .unset, .unset, .unset]) rfl ?_
    exact k
  obtain ⟨T157, h157, X157, e157, E157, A157, D157, -, st157⟩ := newO X145 hx hZ hown (hw _ (List.mem_of_getElem? (i := 13) rfl)) (hw _ (List.mem_of_getElem? (i := 14) rfl)) (hw _ (List.mem_of_getElem? (i := 15) rfl)) rfl (g := (mkF m 74 #[.val (.long q0), .second, .val (.long q1), .second, .val (.long q2), .second, .val (.long q3), .second, .val (.int p4), .val (.ref b135), .val (.long (if (p4 &&& (1 : Int32)) = (0 : Int32) then q3 else (norm_a_x0__0 q0 q1))), .second, .val (.long (if (p4 &&& (2 : Int32)) = (0 : Int32) then q3 else (norm_a_x0__1 q0 q1))), .second, .val (.long (if (p4 &&& (4 : Int32)) = (0 : Int32) then q3 else (norm_a_x0__2 q0 q1 q2))), .second, .val (.ref b146), .unset, .unset, .unset] [])) rfl (hb hby at_74) (by decide) (by decide)
  obtain ⟨b157, g157⟩ : ∃ z, z = T145.heap.size := ⟨_, rfl⟩
  rw [← g157] at A157 D157 st157
  have ne158 : b135 ≠ b157 := Nat.ne_of_lt (Nat.lt_of_lt_of_le f155.lt (Nat.le_of_eq g157.symm))
  have ne159 : b146 ≠ b157 := Nat.ne_of_lt (Nat.lt_of_lt_of_le p150.lt (Nat.le_of_eq g157.symm))
  have g_b157 : n0 ≤ b157 := Nat.le_trans Z156 (Nat.le_of_eq g157.symm)
  have Z160 : n0 ≤ h157.size := Nat.le_trans Z156 E157.1
  have f161 : Old Z n0 h157 := f153.ext E157
  have f162 : Sta Z h157 "java/lang/Long$LongCache" "cache" "[Ljava/lang/Long;" (.ref w_s_cache) := Sta.ext E157 f154
  have f163 : own_Arv Z h157 b135 .long (3 : Int32) [(.long (norm_a_x0__0 q0 q1)), (.long (norm_a_x0__1 q0 q1)), (.long (norm_a_x0__2 q0 q1 q2))] (.long (0 : Int64)) := f155.ext E157
  have f164 : own_Arv Z h157 b146 .long (3 : Int32) [(.long (norm_a_x0__0 (if (p4 &&& (1 : Int32)) = (0 : Int32) then q3 else (norm_a_x0__0 q0 q1)) (if (p4 &&& (2 : Int32)) = (0 : Int32) then q3 else (norm_a_x0__1 q0 q1)))), (.long (norm_a_x0__1 (if (p4 &&& (1 : Int32)) = (0 : Int32) then q3 else (norm_a_x0__0 q0 q1)) (if (p4 &&& (2 : Int32)) = (0 : Int32) then q3 else (norm_a_x0__1 q0 q1)))), (.long (norm_a_x0__2 (if (p4 &&& (1 : Int32)) = (0 : Int32) then q3 else (norm_a_x0__0 q0 q1)) (if (p4 &&& (2 : Int32)) = (0 : Int32) then q3 else (norm_a_x0__1 q0 q1)) (if (p4 &&& (4 : Int32)) = (0 : Int32) then q3 else (norm_a_x0__2 q0 q1 q2))))] (.long (0 : Int64)) := p150.ext E157
  have f165 : Fld Z h157 b157 "com/example/sure_sequence/suresequence/RegionRange" "low" "J" (.long (0 : Int64)) := D157 (Or.inr (hw _ (List.mem_of_getElem? (i := 23) rfl))) (ty := .long) (by decide)
  have f166 : Fld Z h157 b157 "com/example/sure_sequence/suresequence/RegionRange" "high" "J" (.long (0 : Int64)) := D157 (Or.inr (hw _ (List.mem_of_getElem? (i := 25) rfl))) (ty := .long) (by decide)
  have f167 : Fld Z h157 b157 "com/example/sure_sequence/suresequence/RegionRange" "highWater" "J" (.long (0 : Int64)) := D157 (Or.inr (hw _ (List.mem_of_getElem? (i := 27) rfl))) (ty := .long) (by decide)
  refine own_go st157 ?_
  obtain ⟨kq168, cl168, Ar168, q168, S168, Nn168, Hh168, G168⟩ := id f163
  refine own_go (S' := T157.setTop (mkF m 90 #[.val (.long q0), .second, .val (.long q1), .second, .val (.long q2), .second, .val (.long q3), .second, .val (.int p4), .val (.ref b135), .val (.long (if (p4 &&& (1 : Int32)) = (0 : Int32) then q3 else (norm_a_x0__0 q0 q1))), .second, .val (.long (if (p4 &&& (2 : Int32)) = (0 : Int32) then q3 else (norm_a_x0__1 q0 q1))), .second, .val (.long (if (p4 &&& (4 : Int32)) = (0 : Int32) then q3 else (norm_a_x0__2 q0 q1 q2))), .second, .val (.ref b146), .unset, .unset, .unset] [(.long (norm_a_x0__2 q0 q1 q2)), (.long (norm_a_x0__1 q0 q1)), (.long (norm_a_x0__0 q0 q1)), (.ref b157), (.ref b157)])) (fun t k => ?_) ?_
  · show Steps p.tables e below (T157.setTop (mkF m 77 #[.val (.long q0), .second, .val (.long q1), .second, .val (.long q2), .second, .val (.long q3), .second, .val (.int p4), .val (.ref b135), .val (.long (if (p4 &&& (1 : Int32)) = (0 : Int32) then q3 else (norm_a_x0__0 q0 q1))), .second, .val (.long (if (p4 &&& (2 : Int32)) = (0 : Int32) then q3 else (norm_a_x0__1 q0 q1))), .second, .val (.long (if (p4 &&& (4 : Int32)) = (0 : Int32) then q3 else (norm_a_x0__2 q0 q1 q2))), .second, .val (.ref b146), .unset, .unset, .unset] [(.ref b157)])) t
    refine XS.dup X157.here hx rfl (hb hby at_77) rfl rfl ?_
    show Steps p.tables e below (T157.setTop (mkF m 78 #[.val (.long q0), .second, .val (.long q1), .second, .val (.long q2), .second, .val (.long q3), .second, .val (.int p4), .val (.ref b135), .val (.long (if (p4 &&& (1 : Int32)) = (0 : Int32) then q3 else (norm_a_x0__0 q0 q1))), .second, .val (.long (if (p4 &&& (2 : Int32)) = (0 : Int32) then q3 else (norm_a_x0__1 q0 q1))), .second, .val (.long (if (p4 &&& (4 : Int32)) = (0 : Int32) then q3 else (norm_a_x0__2 q0 q1 q2))), .second, .val (.ref b146), .unset, .unset, .unset] [(.ref b157), (.ref b157)])) t
    refine XS.aload X157.here hx rfl (hb hby at_78) rfl rfl ?_
    show Steps p.tables e below (T157.setTop (mkF m 80 #[.val (.long q0), .second, .val (.long q1), .second, .val (.long q2), .second, .val (.long q3), .second, .val (.int p4), .val (.ref b135), .val (.long (if (p4 &&& (1 : Int32)) = (0 : Int32) then q3 else (norm_a_x0__0 q0 q1))), .second, .val (.long (if (p4 &&& (2 : Int32)) = (0 : Int32) then q3 else (norm_a_x0__1 q0 q1))), .second, .val (.long (if (p4 &&& (4 : Int32)) = (0 : Int32) then q3 else (norm_a_x0__2 q0 q1 q2))), .second, .val (.ref b146), .unset, .unset, .unset] [(.ref b135), (.ref b157), (.ref b157)])) t
    refine XS.iconst X157.here hx rfl (hb hby at_80) ?_
    show Steps p.tables e below (T157.setTop (mkF m 81 #[.val (.long q0), .second, .val (.long q1), .second, .val (.long q2), .second, .val (.long q3), .second, .val (.int p4), .val (.ref b135), .val (.long (if (p4 &&& (1 : Int32)) = (0 : Int32) then q3 else (norm_a_x0__0 q0 q1))), .second, .val (.long (if (p4 &&& (2 : Int32)) = (0 : Int32) then q3 else (norm_a_x0__1 q0 q1))), .second, .val (.long (if (p4 &&& (4 : Int32)) = (0 : Int32) then q3 else (norm_a_x0__2 q0 q1 q2))), .second, .val (.ref b146), .unset, .unset, .unset] [(.int (0 : Int32)), (.ref b135), (.ref b157), (.ref b157)])) t
    refine X157.laload hx (j := (0 : Int32)) (v := (.long (norm_a_x0__0 q0 q1))) (by (try rw [e157]); exact Ar168.1) (State.isArrayOf_alike hZ.alike Ar168.2.1) Ar168.2.2 (inb_of S168 ⟨by decide, by decide⟩) (Hh168.at (inb_of S168 ⟨by decide, by decide⟩) rfl) (g := (mkF m 81 #[.val (.long q0), .second, .val (.long q1), .second, .val (.long q2), .second, .val (.long q3), .second, .val (.int p4), .val (.ref b135), .val (.long (if (p4 &&& (1 : Int32)) = (0 : Int32) then q3 else (norm_a_x0__0 q0 q1))), .second, .val (.long (if (p4 &&& (2 : Int32)) = (0 : Int32) then q3 else (norm_a_x0__1 q0 q1))), .second, .val (.long (if (p4 &&& (4 : Int32)) = (0 : Int32) then q3 else (norm_a_x0__2 q0 q1 q2))), .second, .val (.ref b146), .unset, .unset, .unset] [(.int (0 : Int32)), (.ref b135), (.ref b157), (.ref b157)])) rfl rfl (hb hby at_81) _ ?_
    show Steps p.tables e below (T157.setTop (mkF m 82 #[.val (.long q0), .second, .val (.long q1), .second, .val (.long q2), .second, .val (.long q3), .second, .val (.int p4), .val (.ref b135), .val (.long (if (p4 &&& (1 : Int32)) = (0 : Int32) then q3 else (norm_a_x0__0 q0 q1))), .second, .val (.long (if (p4 &&& (2 : Int32)) = (0 : Int32) then q3 else (norm_a_x0__1 q0 q1))), .second, .val (.long (if (p4 &&& (4 : Int32)) = (0 : Int32) then q3 else (norm_a_x0__2 q0 q1 q2))), .second, .val (.ref b146), .unset, .unset, .unset] [(.long (norm_a_x0__0 q0 q1)), (.ref b157), (.ref b157)])) t
    refine XS.aload X157.here hx rfl (hb hby at_82) rfl rfl ?_
    show Steps p.tables e below (T157.setTop (mkF m 84 #[.val (.long q0), .second, .val (.long q1), .second, .val (.long q2), .second, .val (.long q3), .second, .val (.int p4), .val (.ref b135), .val (.long (if (p4 &&& (1 : Int32)) = (0 : Int32) then q3 else (norm_a_x0__0 q0 q1))), .second, .val (.long (if (p4 &&& (2 : Int32)) = (0 : Int32) then q3 else (norm_a_x0__1 q0 q1))), .second, .val (.long (if (p4 &&& (4 : Int32)) = (0 : Int32) then q3 else (norm_a_x0__2 q0 q1 q2))), .second, .val (.ref b146), .unset, .unset, .unset] [(.ref b135), (.long (norm_a_x0__0 q0 q1)), (.ref b157), (.ref b157)])) t
    refine XS.iconst X157.here hx rfl (hb hby at_84) ?_
    show Steps p.tables e below (T157.setTop (mkF m 85 #[.val (.long q0), .second, .val (.long q1), .second, .val (.long q2), .second, .val (.long q3), .second, .val (.int p4), .val (.ref b135), .val (.long (if (p4 &&& (1 : Int32)) = (0 : Int32) then q3 else (norm_a_x0__0 q0 q1))), .second, .val (.long (if (p4 &&& (2 : Int32)) = (0 : Int32) then q3 else (norm_a_x0__1 q0 q1))), .second, .val (.long (if (p4 &&& (4 : Int32)) = (0 : Int32) then q3 else (norm_a_x0__2 q0 q1 q2))), .second, .val (.ref b146), .unset, .unset, .unset] [(.int (1 : Int32)), (.ref b135), (.long (norm_a_x0__0 q0 q1)), (.ref b157), (.ref b157)])) t
    refine X157.laload hx (j := (1 : Int32)) (v := (.long (norm_a_x0__1 q0 q1))) (by (try rw [e157]); exact Ar168.1) (State.isArrayOf_alike hZ.alike Ar168.2.1) Ar168.2.2 (inb_of S168 ⟨by decide, by decide⟩) (Hh168.at (inb_of S168 ⟨by decide, by decide⟩) rfl) (g := (mkF m 85 #[.val (.long q0), .second, .val (.long q1), .second, .val (.long q2), .second, .val (.long q3), .second, .val (.int p4), .val (.ref b135), .val (.long (if (p4 &&& (1 : Int32)) = (0 : Int32) then q3 else (norm_a_x0__0 q0 q1))), .second, .val (.long (if (p4 &&& (2 : Int32)) = (0 : Int32) then q3 else (norm_a_x0__1 q0 q1))), .second, .val (.long (if (p4 &&& (4 : Int32)) = (0 : Int32) then q3 else (norm_a_x0__2 q0 q1 q2))), .second, .val (.ref b146), .unset, .unset, .unset] [(.int (1 : Int32)), (.ref b135), (.long (norm_a_x0__0 q0 q1)), (.ref b157), (.ref b157)])) rfl rfl (hb hby at_85) _ ?_
    show Steps p.tables e below (T157.setTop (mkF m 86 #[.val (.long q0), .second, .val (.long q1), .second, .val (.long q2), .second, .val (.long q3), .second, .val (.int p4), .val (.ref b135), .val (.long (if (p4 &&& (1 : Int32)) = (0 : Int32) then q3 else (norm_a_x0__0 q0 q1))), .second, .val (.long (if (p4 &&& (2 : Int32)) = (0 : Int32) then q3 else (norm_a_x0__1 q0 q1))), .second, .val (.long (if (p4 &&& (4 : Int32)) = (0 : Int32) then q3 else (norm_a_x0__2 q0 q1 q2))), .second, .val (.ref b146), .unset, .unset, .unset] [(.long (norm_a_x0__1 q0 q1)), (.long (norm_a_x0__0 q0 q1)), (.ref b157), (.ref b157)])) t
    refine XS.aload X157.here hx rfl (hb hby at_86) rfl rfl ?_
    show Steps p.tables e below (T157.setTop (mkF m 88 #[.val (.long q0), .second, .val (.long q1), .second, .val (.long q2), .second, .val (.long q3), .second, .val (.int p4), .val (.ref b135), .val (.long (if (p4 &&& (1 : Int32)) = (0 : Int32) then q3 else (norm_a_x0__0 q0 q1))), .second, .val (.long (if (p4 &&& (2 : Int32)) = (0 : Int32) then q3 else (norm_a_x0__1 q0 q1))), .second, .val (.long (if (p4 &&& (4 : Int32)) = (0 : Int32) then q3 else (norm_a_x0__2 q0 q1 q2))), .second, .val (.ref b146), .unset, .unset, .unset] [(.ref b135), (.long (norm_a_x0__1 q0 q1)), (.long (norm_a_x0__0 q0 q1)), (.ref b157), (.ref b157)])) t
    refine XS.iconst X157.here hx rfl (hb hby at_88) ?_
    show Steps p.tables e below (T157.setTop (mkF m 89 #[.val (.long q0), .second, .val (.long q1), .second, .val (.long q2), .second, .val (.long q3), .second, .val (.int p4), .val (.ref b135), .val (.long (if (p4 &&& (1 : Int32)) = (0 : Int32) then q3 else (norm_a_x0__0 q0 q1))), .second, .val (.long (if (p4 &&& (2 : Int32)) = (0 : Int32) then q3 else (norm_a_x0__1 q0 q1))), .second, .val (.long (if (p4 &&& (4 : Int32)) = (0 : Int32) then q3 else (norm_a_x0__2 q0 q1 q2))), .second, .val (.ref b146), .unset, .unset, .unset] [(.int (2 : Int32)), (.ref b135), (.long (norm_a_x0__1 q0 q1)), (.long (norm_a_x0__0 q0 q1)), (.ref b157), (.ref b157)])) t
    refine X157.laload hx (j := (2 : Int32)) (v := (.long (norm_a_x0__2 q0 q1 q2))) (by (try rw [e157]); exact Ar168.1) (State.isArrayOf_alike hZ.alike Ar168.2.1) Ar168.2.2 (inb_of S168 ⟨by decide, by decide⟩) (Hh168.at (inb_of S168 ⟨by decide, by decide⟩) rfl) (g := (mkF m 89 #[.val (.long q0), .second, .val (.long q1), .second, .val (.long q2), .second, .val (.long q3), .second, .val (.int p4), .val (.ref b135), .val (.long (if (p4 &&& (1 : Int32)) = (0 : Int32) then q3 else (norm_a_x0__0 q0 q1))), .second, .val (.long (if (p4 &&& (2 : Int32)) = (0 : Int32) then q3 else (norm_a_x0__1 q0 q1))), .second, .val (.long (if (p4 &&& (4 : Int32)) = (0 : Int32) then q3 else (norm_a_x0__2 q0 q1 q2))), .second, .val (.ref b146), .unset, .unset, .unset] [(.int (2 : Int32)), (.ref b135), (.long (norm_a_x0__1 q0 q1)), (.long (norm_a_x0__0 q0 q1)), (.ref b157), (.ref b157)])) rfl rfl (hb hby at_89) _ ?_
    exact k
  obtain ⟨_, _, ⟨T169, L169, kk169, nn169⟩, -, X169, ⟨Lc169, hQ169, l169, y169, z169⟩, st169⟩ := X157.specialBack hx (y := (⟨"com/example/sure_sequence/suresequence/RegionRange", "<init>", "(JJJ)V"⟩ : MethodName)) rfl hown (mvT hZ (hw _ (List.mem_of_getElem? (i := 16) rfl))) (mvT hZ (hw _ (List.mem_of_getElem? (i := 17) rfl))) (mvT hZ (hw _ (List.mem_of_getElem? (i := 18) rfl))) (by decide) (backOf (W := 1) (ini l Z a0 hw [] b157 (norm_a_x0__0 q0 q1) (norm_a_x0__1 q0 q1) (norm_a_x0__2 q0 q1 q2) (0 : Int64) (0 : Int64) (0 : Int64) h157 n0 Z160 ((own_norm _ _ 0).1 : ¬ ((norm_a_x0__1 q0 q1) < (norm_a_x0__0 q0 q1))) ((own_norm _ _ _).2.1 : ¬ ((norm_a_x0__2 q0 q1 q2) < ((norm_a_x0__0 q0 q1) - (1 : Int64)))) ((own_norm _ _ _).2.2 : ¬ ((norm_a_x0__1 q0 q1) < (norm_a_x0__2 q0 q1 q2))) A157 f165 f166 f167 g_b157) hZ (hw _ (List.mem_of_getElem? (i := 18) rfl)) (hw _ (List.mem_of_getElem? (i := 15) rfl)) (by decide) (by decide)) (g := (mkF m 90 #[.val (.long q0), .second, .val (.long q1), .second, .val (.long q2), .second, .val (.long q3), .second, .val (.int p4), .val (.ref b135), .val (.long (if (p4 &&& (1 : Int32)) = (0 : Int32) then q3 else (norm_a_x0__0 q0 q1))), .second, .val (.long (if (p4 &&& (2 : Int32)) = (0 : Int32) then q3 else (norm_a_x0__1 q0 q1))), .second, .val (.long (if (p4 &&& (4 : Int32)) = (0 : Int32) then q3 else (norm_a_x0__2 q0 q1 q2))), .second, .val (.ref b146), .unset, .unset, .unset] [(.long (norm_a_x0__2 q0 q1 q2)), (.long (norm_a_x0__1 q0 q1)), (.long (norm_a_x0__0 q0 q1)), (.ref b157), (.ref b157)])) rfl (by rw [hml]; rfl) (Steps.refl _) (a := b157) (argsL := [(.long (norm_a_x0__0 q0 q1)), (.long (norm_a_x0__1 q0 q1)), (.long (norm_a_x0__2 q0 q1 q2))]) (rest := [(.ref b157)]) (lenOf pd_162 rfl) rfl (by show 2 * 0 + _ ≤ _; exact Nat.le_of_eq rfl) (hb hby at_90) (fun _ _ => ⟨rfl, e157, (by decide : 3 + 0 ≤ _), (by decide : 9 + 0 ≤ _)⟩)
  dsimp only [Pt.U, Pt.locs, Pt.cells, Pt.slots] at X169 l169 y169 z169 st169 hQ169
  subst l169 y169 z169
  obtain ⟨rfl, N170, K171, p172, p173, p174, p175⟩ := hQ169
  have N176 := Fr.app N151 N170
  have f177 : Old Z n0 T169.heap := f161.keep K171 (allS g_b157 all0)
  have f178 : Sta Z T169.heap "java/lang/Long$LongCache" "cache" "[Ljava/lang/Long;" (.ref w_s_cache) := own_sta_keep f162 K171 (allS (own_plain A157) all0)
  have f179 : own_Arv Z T169.heap b135 .long (3 : Int32) [(.long (norm_a_x0__0 q0 q1)), (.long (norm_a_x0__1 q0 q1)), (.long (norm_a_x0__2 q0 q1 q2))] (.long (0 : Int64)) := f163.keep K171 (ninS ne158 nin0)
  have f180 : own_Arv Z T169.heap b146 .long (3 : Int32) [(.long (norm_a_x0__0 (if (p4 &&& (1 : Int32)) = (0 : Int32) then q3 else (norm_a_x0__0 q0 q1)) (if (p4 &&& (2 : Int32)) = (0 : Int32) then q3 else (norm_a_x0__1 q0 q1)))), (.long (norm_a_x0__1 (if (p4 &&& (1 : Int32)) = (0 : Int32) then q3 else (norm_a_x0__0 q0 q1)) (if (p4 &&& (2 : Int32)) = (0 : Int32) then q3 else (norm_a_x0__1 q0 q1)))), (.long (norm_a_x0__2 (if (p4 &&& (1 : Int32)) = (0 : Int32) then q3 else (norm_a_x0__0 q0 q1)) (if (p4 &&& (2 : Int32)) = (0 : Int32) then q3 else (norm_a_x0__1 q0 q1)) (if (p4 &&& (4 : Int32)) = (0 : Int32) then q3 else (norm_a_x0__2 q0 q1 q2))))] (.long (0 : Int64)) := f164.keep K171 (ninS ne159 nin0)
  have f181 : Exa Z T169.heap b157 "com/example/sure_sequence/suresequence/RegionRange" := A157.keep K171
  have Z182 : n0 ≤ T169.heap.size := Nat.le_trans Z160 K171.1
  refine own_goT st169 ?_
  refine own_go (S' := T169.setTop (mkF m 95 #[.val (.long q0), .second, .val (.long q1), .second, .val (.long q2), .second, .val (.long q3), .second, .val (.int p4), .val (.ref b135), .val (.long (if (p4 &&& (1 : Int32)) = (0 : Int32) then q3 else (norm_a_x0__0 q0 q1))), .second, .val (.long (if (p4 &&& (2 : Int32)) = (0 : Int32) then q3 else (norm_a_x0__1 q0 q1))), .second, .val (.long (if (p4 &&& (4 : Int32)) = (0 : Int32) then q3 else (norm_a_x0__2 q0 q1 q2))), .second, .val (.ref b146), .val (.ref b157), .unset, .unset] [])) (fun t k => ?_) ?_
  · show Steps p.tables e below (T169.setTop (mkF m 93 #[.val (.long q0), .second, .val (.long q1), .second, .val (.long q2), .second, .val (.long q3), .second, .val (.int p4), .val (.ref b135), .val (.long (if (p4 &&& (1 : Int32)) = (0 : Int32) then q3 else (norm_a_x0__0 q0 q1))), .second, .val (.long (if (p4 &&& (2 : Int32)) = (0 : Int32) then q3 else (norm_a_x0__1 q0 q1))), .second, .val (.long (if (p4 &&& (4 : Int32)) = (0 : Int32) then q3 else (norm_a_x0__2 q0 q1 q2))), .second, .val (.ref b146), .unset, .unset, .unset] [(.ref b157)])) t
    refine XS.astore X169.here hx rfl (hb hby at_93) rfl rfl (l' := #[.val (.long q0), .second, .val (.long q1), .second, .val (.long q2), .second, .val (.long q3), .second, .val (.int p4), .val (.ref b135), .val (.long (if (p4 &&& (1 : Int32)) = (0 : Int32) then q3 else (norm_a_x0__0 q0 q1))), .second, .val (.long (if (p4 &&& (2 : Int32)) = (0 : Int32) then q3 else (norm_a_x0__1 q0 q1))), .second, .val (.long (if (p4 &&& (4 : Int32)) = (0 : Int32) then q3 else (norm_a_x0__2 q0 q1 q2))), .second, .val (.ref b146), .val (.ref b157), .unset, .unset]) rfl ?_
    exact k
  obtain ⟨T183, h183, X183, e183, E183, A183, D183, -, st183⟩ := newO X169 hx hZ hown (hw _ (List.mem_of_getElem? (i := 13) rfl)) (hw _ (List.mem_of_getElem? (i := 14) rfl)) (hw _ (List.mem_of_getElem? (i := 15) rfl)) rfl (g := (mkF m 95 #[.val (.long q0), .second, .val (.long q1), .second, .val (.long q2), .second, .val (.long q3), .second, .val (.int p4), .val (.ref b135), .val (.long (if (p4 &&& (1 : Int32)) = (0 : Int32) then q3 else (norm_a_x0__0 q0 q1))), .second, .val (.long (if (p4 &&& (2 : Int32)) = (0 : Int32) then q3 else (norm_a_x0__1 q0 q1))), .second, .val (.long (if (p4 &&& (4 : Int32)) = (0 : Int32) then q3 else (norm_a_x0__2 q0 q1 q2))), .second, .val (.ref b146), .val (.ref b157), .unset, .unset] [])) rfl (hb hby at_95) (by decide) (by decide)
  obtain ⟨b183, g183⟩ : ∃ z, z = T169.heap.size := ⟨_, rfl⟩
  rw [← g183] at A183 D183 st183
  have ne184 : b135 ≠ b183 := Nat.ne_of_lt (Nat.lt_of_lt_of_le f179.lt (Nat.le_of_eq g183.symm))
  have ne185 : b146 ≠ b183 := Nat.ne_of_lt (Nat.lt_of_lt_of_le f180.lt (Nat.le_of_eq g183.symm))
  have ne186 : b157 ≠ b183 := Nat.ne_of_lt (Nat.lt_of_lt_of_le p172.lt (Nat.le_of_eq g183.symm))
  have g_b183 : n0 ≤ b183 := Nat.le_trans Z182 (Nat.le_of_eq g183.symm)
  have Z187 : n0 ≤ h183.size := Nat.le_trans Z182 E183.1
  have f188 : Old Z n0 h183 := f177.ext E183
  have f189 : Sta Z h183 "java/lang/Long$LongCache" "cache" "[Ljava/lang/Long;" (.ref w_s_cache) := Sta.ext E183 f178
  have f190 : own_Arv Z h183 b135 .long (3 : Int32) [(.long (norm_a_x0__0 q0 q1)), (.long (norm_a_x0__1 q0 q1)), (.long (norm_a_x0__2 q0 q1 q2))] (.long (0 : Int64)) := f179.ext E183
  have f191 : own_Arv Z h183 b146 .long (3 : Int32) [(.long (norm_a_x0__0 (if (p4 &&& (1 : Int32)) = (0 : Int32) then q3 else (norm_a_x0__0 q0 q1)) (if (p4 &&& (2 : Int32)) = (0 : Int32) then q3 else (norm_a_x0__1 q0 q1)))), (.long (norm_a_x0__1 (if (p4 &&& (1 : Int32)) = (0 : Int32) then q3 else (norm_a_x0__0 q0 q1)) (if (p4 &&& (2 : Int32)) = (0 : Int32) then q3 else (norm_a_x0__1 q0 q1)))), (.long (norm_a_x0__2 (if (p4 &&& (1 : Int32)) = (0 : Int32) then q3 else (norm_a_x0__0 q0 q1)) (if (p4 &&& (2 : Int32)) = (0 : Int32) then q3 else (norm_a_x0__1 q0 q1)) (if (p4 &&& (4 : Int32)) = (0 : Int32) then q3 else (norm_a_x0__2 q0 q1 q2))))] (.long (0 : Int64)) := f180.ext E183
  have f192 : Exa Z h183 b157 "com/example/sure_sequence/suresequence/RegionRange" := Exa.ext E183 p172
  have f193 : Fld Z h183 b157 "com/example/sure_sequence/suresequence/RegionRange" "low" "J" (.long (norm_a_x0__0 q0 q1)) := Fld.ext E183 p173
  have f194 : Fld Z h183 b157 "com/example/sure_sequence/suresequence/RegionRange" "high" "J" (.long (norm_a_x0__1 q0 q1)) := Fld.ext E183 p174
  have f195 : Fld Z h183 b157 "com/example/sure_sequence/suresequence/RegionRange" "highWater" "J" (.long (norm_a_x0__2 q0 q1 q2)) := Fld.ext E183 p175
  have f196 : Fld Z h183 b183 "com/example/sure_sequence/suresequence/RegionRange" "low" "J" (.long (0 : Int64)) := D183 (Or.inr (hw _ (List.mem_of_getElem? (i := 23) rfl))) (ty := .long) (by decide)
  have f197 : Fld Z h183 b183 "com/example/sure_sequence/suresequence/RegionRange" "high" "J" (.long (0 : Int64)) := D183 (Or.inr (hw _ (List.mem_of_getElem? (i := 25) rfl))) (ty := .long) (by decide)
  have f198 : Fld Z h183 b183 "com/example/sure_sequence/suresequence/RegionRange" "highWater" "J" (.long (0 : Int64)) := D183 (Or.inr (hw _ (List.mem_of_getElem? (i := 27) rfl))) (ty := .long) (by decide)
  refine own_go st183 ?_
  obtain ⟨kq199, cl199, Ar199, q199, S199, Nn199, Hh199, G199⟩ := id f191
  refine own_go (S' := T183.setTop (mkF m 111 #[.val (.long q0), .second, .val (.long q1), .second, .val (.long q2), .second, .val (.long q3), .second, .val (.int p4), .val (.ref b135), .val (.long (if (p4 &&& (1 : Int32)) = (0 : Int32) then q3 else (norm_a_x0__0 q0 q1))), .second, .val (.long (if (p4 &&& (2 : Int32)) = (0 : Int32) then q3 else (norm_a_x0__1 q0 q1))), .second, .val (.long (if (p4 &&& (4 : Int32)) = (0 : Int32) then q3 else (norm_a_x0__2 q0 q1 q2))), .second, .val (.ref b146), .val (.ref b157), .unset, .unset] [(.long (norm_a_x0__2 (if (p4 &&& (1 : Int32)) = (0 : Int32) then q3 else (norm_a_x0__0 q0 q1)) (if (p4 &&& (2 : Int32)) = (0 : Int32) then q3 else (norm_a_x0__1 q0 q1)) (if (p4 &&& (4 : Int32)) = (0 : Int32) then q3 else (norm_a_x0__2 q0 q1 q2)))), (.long (norm_a_x0__1 (if (p4 &&& (1 : Int32)) = (0 : Int32) then q3 else (norm_a_x0__0 q0 q1)) (if (p4 &&& (2 : Int32)) = (0 : Int32) then q3 else (norm_a_x0__1 q0 q1)))), (.long (norm_a_x0__0 (if (p4 &&& (1 : Int32)) = (0 : Int32) then q3 else (norm_a_x0__0 q0 q1)) (if (p4 &&& (2 : Int32)) = (0 : Int32) then q3 else (norm_a_x0__1 q0 q1)))), (.ref b183), (.ref b183)])) (fun t k => ?_) ?_
  · show Steps p.tables e below (T183.setTop (mkF m 98 #[.val (.long q0), .second, .val (.long q1), .second, .val (.long q2), .second, .val (.long q3), .second, .val (.int p4), .val (.ref b135), .val (.long (if (p4 &&& (1 : Int32)) = (0 : Int32) then q3 else (norm_a_x0__0 q0 q1))), .second, .val (.long (if (p4 &&& (2 : Int32)) = (0 : Int32) then q3 else (norm_a_x0__1 q0 q1))), .second, .val (.long (if (p4 &&& (4 : Int32)) = (0 : Int32) then q3 else (norm_a_x0__2 q0 q1 q2))), .second, .val (.ref b146), .val (.ref b157), .unset, .unset] [(.ref b183)])) t
    refine XS.dup X183.here hx rfl (hb hby at_98) rfl rfl ?_
    show Steps p.tables e below (T183.setTop (mkF m 99 #[.val (.long q0), .second, .val (.long q1), .second, .val (.long q2), .second, .val (.long q3), .second, .val (.int p4), .val (.ref b135), .val (.long (if (p4 &&& (1 : Int32)) = (0 : Int32) then q3 else (norm_a_x0__0 q0 q1))), .second, .val (.long (if (p4 &&& (2 : Int32)) = (0 : Int32) then q3 else (norm_a_x0__1 q0 q1))), .second, .val (.long (if (p4 &&& (4 : Int32)) = (0 : Int32) then q3 else (norm_a_x0__2 q0 q1 q2))), .second, .val (.ref b146), .val (.ref b157), .unset, .unset] [(.ref b183), (.ref b183)])) t
    refine XS.aload X183.here hx rfl (hb hby at_99) rfl rfl ?_
    show Steps p.tables e below (T183.setTop (mkF m 101 #[.val (.long q0), .second, .val (.long q1), .second, .val (.long q2), .second, .val (.long q3), .second, .val (.int p4), .val (.ref b135), .val (.long (if (p4 &&& (1 : Int32)) = (0 : Int32) then q3 else (norm_a_x0__0 q0 q1))), .second, .val (.long (if (p4 &&& (2 : Int32)) = (0 : Int32) then q3 else (norm_a_x0__1 q0 q1))), .second, .val (.long (if (p4 &&& (4 : Int32)) = (0 : Int32) then q3 else (norm_a_x0__2 q0 q1 q2))), .second, .val (.ref b146), .val (.ref b157), .unset, .unset] [(.ref b146), (.ref b183), (.ref b183)])) t
    refine XS.iconst X183.here hx rfl (hb hby at_101) ?_
    show Steps p.tables e below (T183.setTop (mkF m 102 #[.val (.long q0), .second, .val (.long q1), .second, .val (.long q2), .second, .val (.long q3), .second, .val (.int p4), .val (.ref b135), .val (.long (if (p4 &&& (1 : Int32)) = (0 : Int32) then q3 else (norm_a_x0__0 q0 q1))), .second, .val (.long (if (p4 &&& (2 : Int32)) = (0 : Int32) then q3 else (norm_a_x0__1 q0 q1))), .second, .val (.long (if (p4 &&& (4 : Int32)) = (0 : Int32) then q3 else (norm_a_x0__2 q0 q1 q2))), .second, .val (.ref b146), .val (.ref b157), .unset, .unset] [(.int (0 : Int32)), (.ref b146), (.ref b183), (.ref b183)])) t
    refine X183.laload hx (j := (0 : Int32)) (v := (.long (norm_a_x0__0 (if (p4 &&& (1 : Int32)) = (0 : Int32) then q3 else (norm_a_x0__0 q0 q1)) (if (p4 &&& (2 : Int32)) = (0 : Int32) then q3 else (norm_a_x0__1 q0 q1))))) (by (try rw [e183]); exact Ar199.1) (State.isArrayOf_alike hZ.alike Ar199.2.1) Ar199.2.2 (inb_of S199 ⟨by decide, by decide⟩) (Hh199.at (inb_of S199 ⟨by decide, by decide⟩) rfl) (g := (mkF m 102 #[.val (.long q0), .second, .val (.long q1), .second, .val (.long q2), .second, .val (.long q3), .second, .val (.int p4), .val (.ref b135), .val (.long (if (p4 &&& (1 : Int32)) = (0 : Int32) then q3 else (norm_a_x0__0 q0 q1))), .second, .val (.long (if (p4 &&& (2 : Int32)) = (0 : Int32) then q3 else (norm_a_x0__1 q0 q1))), .second, .val (.long (if (p4 &&& (4 : Int32)) = (0 : Int32) then q3 else (norm_a_x0__2 q0 q1 q2))), .second, .val (.ref b146), .val (.ref b157), .unset, .unset] [(.int (0 : Int32)), (.ref b146), (.ref b183), (.ref b183)])) rfl rfl (hb hby at_102) _ ?_
    show Steps p.tables e below (T183.setTop (mkF m 103 #[.val (.long q0), .second, .val (.long q1), .second, .val (.long q2), .second, .val (.long q3), .second, .val (.int p4), .val (.ref b135), .val (.long (if (p4 &&& (1 : Int32)) = (0 : Int32) then q3 else (norm_a_x0__0 q0 q1))), .second, .val (.long (if (p4 &&& (2 : Int32)) = (0 : Int32) then q3 else (norm_a_x0__1 q0 q1))), .second, .val (.long (if (p4 &&& (4 : Int32)) = (0 : Int32) then q3 else (norm_a_x0__2 q0 q1 q2))), .second, .val (.ref b146), .val (.ref b157), .unset, .unset] [(.long (norm_a_x0__0 (if (p4 &&& (1 : Int32)) = (0 : Int32) then q3 else (norm_a_x0__0 q0 q1)) (if (p4 &&& (2 : Int32)) = (0 : Int32) then q3 else (norm_a_x0__1 q0 q1)))), (.ref b183), (.ref b183)])) t
    refine XS.aload X183.here hx rfl (hb hby at_103) rfl rfl ?_
    show Steps p.tables e below (T183.setTop (mkF m 105 #[.val (.long q0), .second, .val (.long q1), .second, .val (.long q2), .second, .val (.long q3), .second, .val (.int p4), .val (.ref b135), .val (.long (if (p4 &&& (1 : Int32)) = (0 : Int32) then q3 else (norm_a_x0__0 q0 q1))), .second, .val (.long (if (p4 &&& (2 : Int32)) = (0 : Int32) then q3 else (norm_a_x0__1 q0 q1))), .second, .val (.long (if (p4 &&& (4 : Int32)) = (0 : Int32) then q3 else (norm_a_x0__2 q0 q1 q2))), .second, .val (.ref b146), .val (.ref b157), .unset, .unset] [(.ref b146), (.long (norm_a_x0__0 (if (p4 &&& (1 : Int32)) = (0 : Int32) then q3 else (norm_a_x0__0 q0 q1)) (if (p4 &&& (2 : Int32)) = (0 : Int32) then q3 else (norm_a_x0__1 q0 q1)))), (.ref b183), (.ref b183)])) t
    refine XS.iconst X183.here hx rfl (hb hby at_105) ?_
    show Steps p.tables e below (T183.setTop (mkF m 106 #[.val (.long q0), .second, .val (.long q1), .second, .val (.long q2), .second, .val (.long q3), .second, .val (.int p4), .val (.ref b135), .val (.long (if (p4 &&& (1 : Int32)) = (0 : Int32) then q3 else (norm_a_x0__0 q0 q1))), .second, .val (.long (if (p4 &&& (2 : Int32)) = (0 : Int32) then q3 else (norm_a_x0__1 q0 q1))), .second, .val (.long (if (p4 &&& (4 : Int32)) = (0 : Int32) then q3 else (norm_a_x0__2 q0 q1 q2))), .second, .val (.ref b146), .val (.ref b157), .unset, .unset] [(.int (1 : Int32)), (.ref b146), (.long (norm_a_x0__0 (if (p4 &&& (1 : Int32)) = (0 : Int32) then q3 else (norm_a_x0__0 q0 q1)) (if (p4 &&& (2 : Int32)) = (0 : Int32) then q3 else (norm_a_x0__1 q0 q1)))), (.ref b183), (.ref b183)])) t
    refine X183.laload hx (j := (1 : Int32)) (v := (.long (norm_a_x0__1 (if (p4 &&& (1 : Int32)) = (0 : Int32) then q3 else (norm_a_x0__0 q0 q1)) (if (p4 &&& (2 : Int32)) = (0 : Int32) then q3 else (norm_a_x0__1 q0 q1))))) (by (try rw [e183]); exact Ar199.1) (State.isArrayOf_alike hZ.alike Ar199.2.1) Ar199.2.2 (inb_of S199 ⟨by decide, by decide⟩) (Hh199.at (inb_of S199 ⟨by decide, by decide⟩) rfl) (g := (mkF m 106 #[.val (.long q0), .second, .val (.long q1), .second, .val (.long q2), .second, .val (.long q3), .second, .val (.int p4), .val (.ref b135), .val (.long (if (p4 &&& (1 : Int32)) = (0 : Int32) then q3 else (norm_a_x0__0 q0 q1))), .second, .val (.long (if (p4 &&& (2 : Int32)) = (0 : Int32) then q3 else (norm_a_x0__1 q0 q1))), .second, .val (.long (if (p4 &&& (4 : Int32)) = (0 : Int32) then q3 else (norm_a_x0__2 q0 q1 q2))), .second, .val (.ref b146), .val (.ref b157), .unset, .unset] [(.int (1 : Int32)), (.ref b146), (.long (norm_a_x0__0 (if (p4 &&& (1 : Int32)) = (0 : Int32) then q3 else (norm_a_x0__0 q0 q1)) (if (p4 &&& (2 : Int32)) = (0 : Int32) then q3 else (norm_a_x0__1 q0 q1)))), (.ref b183), (.ref b183)])) rfl rfl (hb hby at_106) _ ?_
    show Steps p.tables e below (T183.setTop (mkF m 107 #[.val (.long q0), .second, .val (.long q1), .second, .val (.long q2), .second, .val (.long q3), .second, .val (.int p4), .val (.ref b135), .val (.long (if (p4 &&& (1 : Int32)) = (0 : Int32) then q3 else (norm_a_x0__0 q0 q1))), .second, .val (.long (if (p4 &&& (2 : Int32)) = (0 : Int32) then q3 else (norm_a_x0__1 q0 q1))), .second, .val (.long (if (p4 &&& (4 : Int32)) = (0 : Int32) then q3 else (norm_a_x0__2 q0 q1 q2))), .second, .val (.ref b146), .val (.ref b157), .unset, .unset] [(.long (norm_a_x0__1 (if (p4 &&& (1 : Int32)) = (0 : Int32) then q3 else (norm_a_x0__0 q0 q1)) (if (p4 &&& (2 : Int32)) = (0 : Int32) then q3 else (norm_a_x0__1 q0 q1)))), (.long (norm_a_x0__0 (if (p4 &&& (1 : Int32)) = (0 : Int32) then q3 else (norm_a_x0__0 q0 q1)) (if (p4 &&& (2 : Int32)) = (0 : Int32) then q3 else (norm_a_x0__1 q0 q1)))), (.ref b183), (.ref b183)])) t
    refine XS.aload X183.here hx rfl (hb hby at_107) rfl rfl ?_
    show Steps p.tables e below (T183.setTop (mkF m 109 #[.val (.long q0), .second, .val (.long q1), .second, .val (.long q2), .second, .val (.long q3), .second, .val (.int p4), .val (.ref b135), .val (.long (if (p4 &&& (1 : Int32)) = (0 : Int32) then q3 else (norm_a_x0__0 q0 q1))), .second, .val (.long (if (p4 &&& (2 : Int32)) = (0 : Int32) then q3 else (norm_a_x0__1 q0 q1))), .second, .val (.long (if (p4 &&& (4 : Int32)) = (0 : Int32) then q3 else (norm_a_x0__2 q0 q1 q2))), .second, .val (.ref b146), .val (.ref b157), .unset, .unset] [(.ref b146), (.long (norm_a_x0__1 (if (p4 &&& (1 : Int32)) = (0 : Int32) then q3 else (norm_a_x0__0 q0 q1)) (if (p4 &&& (2 : Int32)) = (0 : Int32) then q3 else (norm_a_x0__1 q0 q1)))), (.long (norm_a_x0__0 (if (p4 &&& (1 : Int32)) = (0 : Int32) then q3 else (norm_a_x0__0 q0 q1)) (if (p4 &&& (2 : Int32)) = (0 : Int32) then q3 else (norm_a_x0__1 q0 q1)))), (.ref b183), (.ref b183)])) t
    refine XS.iconst X183.here hx rfl (hb hby at_109) ?_
    show Steps p.tables e below (T183.setTop (mkF m 110 #[.val (.long q0), .second, .val (.long q1), .second, .val (.long q2), .second, .val (.long q3), .second, .val (.int p4), .val (.ref b135), .val (.long (if (p4 &&& (1 : Int32)) = (0 : Int32) then q3 else (norm_a_x0__0 q0 q1))), .second, .val (.long (if (p4 &&& (2 : Int32)) = (0 : Int32) then q3 else (norm_a_x0__1 q0 q1))), .second, .val (.long (if (p4 &&& (4 : Int32)) = (0 : Int32) then q3 else (norm_a_x0__2 q0 q1 q2))), .second, .val (.ref b146), .val (.ref b157), .unset, .unset] [(.int (2 : Int32)), (.ref b146), (.long (norm_a_x0__1 (if (p4 &&& (1 : Int32)) = (0 : Int32) then q3 else (norm_a_x0__0 q0 q1)) (if (p4 &&& (2 : Int32)) = (0 : Int32) then q3 else (norm_a_x0__1 q0 q1)))), (.long (norm_a_x0__0 (if (p4 &&& (1 : Int32)) = (0 : Int32) then q3 else (norm_a_x0__0 q0 q1)) (if (p4 &&& (2 : Int32)) = (0 : Int32) then q3 else (norm_a_x0__1 q0 q1)))), (.ref b183), (.ref b183)])) t
    refine X183.laload hx (j := (2 : Int32)) (v := (.long (norm_a_x0__2 (if (p4 &&& (1 : Int32)) = (0 : Int32) then q3 else (norm_a_x0__0 q0 q1)) (if (p4 &&& (2 : Int32)) = (0 : Int32) then q3 else (norm_a_x0__1 q0 q1)) (if (p4 &&& (4 : Int32)) = (0 : Int32) then q3 else (norm_a_x0__2 q0 q1 q2))))) (by (try rw [e183]); exact Ar199.1) (State.isArrayOf_alike hZ.alike Ar199.2.1) Ar199.2.2 (inb_of S199 ⟨by decide, by decide⟩) (Hh199.at (inb_of S199 ⟨by decide, by decide⟩) rfl) (g := (mkF m 110 #[.val (.long q0), .second, .val (.long q1), .second, .val (.long q2), .second, .val (.long q3), .second, .val (.int p4), .val (.ref b135), .val (.long (if (p4 &&& (1 : Int32)) = (0 : Int32) then q3 else (norm_a_x0__0 q0 q1))), .second, .val (.long (if (p4 &&& (2 : Int32)) = (0 : Int32) then q3 else (norm_a_x0__1 q0 q1))), .second, .val (.long (if (p4 &&& (4 : Int32)) = (0 : Int32) then q3 else (norm_a_x0__2 q0 q1 q2))), .second, .val (.ref b146), .val (.ref b157), .unset, .unset] [(.int (2 : Int32)), (.ref b146), (.long (norm_a_x0__1 (if (p4 &&& (1 : Int32)) = (0 : Int32) then q3 else (norm_a_x0__0 q0 q1)) (if (p4 &&& (2 : Int32)) = (0 : Int32) then q3 else (norm_a_x0__1 q0 q1)))), (.long (norm_a_x0__0 (if (p4 &&& (1 : Int32)) = (0 : Int32) then q3 else (norm_a_x0__0 q0 q1)) (if (p4 &&& (2 : Int32)) = (0 : Int32) then q3 else (norm_a_x0__1 q0 q1)))), (.ref b183), (.ref b183)])) rfl rfl (hb hby at_110) _ ?_
    exact k
  obtain ⟨_, _, ⟨T200, L200, kk200, nn200⟩, -, X200, ⟨Lc200, hQ200, l200, y200, z200⟩, st200⟩ := X183.specialBack hx (y := (⟨"com/example/sure_sequence/suresequence/RegionRange", "<init>", "(JJJ)V"⟩ : MethodName)) rfl hown (mvT hZ (hw _ (List.mem_of_getElem? (i := 16) rfl))) (mvT hZ (hw _ (List.mem_of_getElem? (i := 17) rfl))) (mvT hZ (hw _ (List.mem_of_getElem? (i := 18) rfl))) (by decide) (backOf (W := 1) (ini l Z a0 hw [] b183 (norm_a_x0__0 (if (p4 &&& (1 : Int32)) = (0 : Int32) then q3 else (norm_a_x0__0 q0 q1)) (if (p4 &&& (2 : Int32)) = (0 : Int32) then q3 else (norm_a_x0__1 q0 q1))) (norm_a_x0__1 (if (p4 &&& (1 : Int32)) = (0 : Int32) then q3 else (norm_a_x0__0 q0 q1)) (if (p4 &&& (2 : Int32)) = (0 : Int32) then q3 else (norm_a_x0__1 q0 q1))) (norm_a_x0__2 (if (p4 &&& (1 : Int32)) = (0 : Int32) then q3 else (norm_a_x0__0 q0 q1)) (if (p4 &&& (2 : Int32)) = (0 : Int32) then q3 else (norm_a_x0__1 q0 q1)) (if (p4 &&& (4 : Int32)) = (0 : Int32) then q3 else (norm_a_x0__2 q0 q1 q2))) (0 : Int64) (0 : Int64) (0 : Int64) h183 n0 Z187 ((own_norm _ _ 0).1 : ¬ ((norm_a_x0__1 (if (p4 &&& (1 : Int32)) = (0 : Int32) then q3 else (norm_a_x0__0 q0 q1)) (if (p4 &&& (2 : Int32)) = (0 : Int32) then q3 else (norm_a_x0__1 q0 q1))) < (norm_a_x0__0 (if (p4 &&& (1 : Int32)) = (0 : Int32) then q3 else (norm_a_x0__0 q0 q1)) (if (p4 &&& (2 : Int32)) = (0 : Int32) then q3 else (norm_a_x0__1 q0 q1))))) ((own_norm _ _ _).2.1 : ¬ ((norm_a_x0__2 (if (p4 &&& (1 : Int32)) = (0 : Int32) then q3 else (norm_a_x0__0 q0 q1)) (if (p4 &&& (2 : Int32)) = (0 : Int32) then q3 else (norm_a_x0__1 q0 q1)) (if (p4 &&& (4 : Int32)) = (0 : Int32) then q3 else (norm_a_x0__2 q0 q1 q2))) < ((norm_a_x0__0 (if (p4 &&& (1 : Int32)) = (0 : Int32) then q3 else (norm_a_x0__0 q0 q1)) (if (p4 &&& (2 : Int32)) = (0 : Int32) then q3 else (norm_a_x0__1 q0 q1))) - (1 : Int64)))) ((own_norm _ _ _).2.2 : ¬ ((norm_a_x0__1 (if (p4 &&& (1 : Int32)) = (0 : Int32) then q3 else (norm_a_x0__0 q0 q1)) (if (p4 &&& (2 : Int32)) = (0 : Int32) then q3 else (norm_a_x0__1 q0 q1))) < (norm_a_x0__2 (if (p4 &&& (1 : Int32)) = (0 : Int32) then q3 else (norm_a_x0__0 q0 q1)) (if (p4 &&& (2 : Int32)) = (0 : Int32) then q3 else (norm_a_x0__1 q0 q1)) (if (p4 &&& (4 : Int32)) = (0 : Int32) then q3 else (norm_a_x0__2 q0 q1 q2))))) A183 f196 f197 f198 g_b183) hZ (hw _ (List.mem_of_getElem? (i := 18) rfl)) (hw _ (List.mem_of_getElem? (i := 15) rfl)) (by decide) (by decide)) (g := (mkF m 111 #[.val (.long q0), .second, .val (.long q1), .second, .val (.long q2), .second, .val (.long q3), .second, .val (.int p4), .val (.ref b135), .val (.long (if (p4 &&& (1 : Int32)) = (0 : Int32) then q3 else (norm_a_x0__0 q0 q1))), .second, .val (.long (if (p4 &&& (2 : Int32)) = (0 : Int32) then q3 else (norm_a_x0__1 q0 q1))), .second, .val (.long (if (p4 &&& (4 : Int32)) = (0 : Int32) then q3 else (norm_a_x0__2 q0 q1 q2))), .second, .val (.ref b146), .val (.ref b157), .unset, .unset] [(.long (norm_a_x0__2 (if (p4 &&& (1 : Int32)) = (0 : Int32) then q3 else (norm_a_x0__0 q0 q1)) (if (p4 &&& (2 : Int32)) = (0 : Int32) then q3 else (norm_a_x0__1 q0 q1)) (if (p4 &&& (4 : Int32)) = (0 : Int32) then q3 else (norm_a_x0__2 q0 q1 q2)))), (.long (norm_a_x0__1 (if (p4 &&& (1 : Int32)) = (0 : Int32) then q3 else (norm_a_x0__0 q0 q1)) (if (p4 &&& (2 : Int32)) = (0 : Int32) then q3 else (norm_a_x0__1 q0 q1)))), (.long (norm_a_x0__0 (if (p4 &&& (1 : Int32)) = (0 : Int32) then q3 else (norm_a_x0__0 q0 q1)) (if (p4 &&& (2 : Int32)) = (0 : Int32) then q3 else (norm_a_x0__1 q0 q1)))), (.ref b183), (.ref b183)])) rfl (by rw [hml]; rfl) (Steps.refl _) (a := b183) (argsL := [(.long (norm_a_x0__0 (if (p4 &&& (1 : Int32)) = (0 : Int32) then q3 else (norm_a_x0__0 q0 q1)) (if (p4 &&& (2 : Int32)) = (0 : Int32) then q3 else (norm_a_x0__1 q0 q1)))), (.long (norm_a_x0__1 (if (p4 &&& (1 : Int32)) = (0 : Int32) then q3 else (norm_a_x0__0 q0 q1)) (if (p4 &&& (2 : Int32)) = (0 : Int32) then q3 else (norm_a_x0__1 q0 q1)))), (.long (norm_a_x0__2 (if (p4 &&& (1 : Int32)) = (0 : Int32) then q3 else (norm_a_x0__0 q0 q1)) (if (p4 &&& (2 : Int32)) = (0 : Int32) then q3 else (norm_a_x0__1 q0 q1)) (if (p4 &&& (4 : Int32)) = (0 : Int32) then q3 else (norm_a_x0__2 q0 q1 q2))))]) (rest := [(.ref b183)]) (lenOf pd_162 rfl) rfl (by show 2 * 0 + _ ≤ _; exact Nat.le_of_eq rfl) (hb hby at_111) (fun _ _ => ⟨rfl, e183, (by decide : 4 + 0 ≤ _), (by decide : 12 + 0 ≤ _)⟩)
  dsimp only [Pt.U, Pt.locs, Pt.cells, Pt.slots] at X200 l200 y200 z200 st200 hQ200
  subst l200 y200 z200
  obtain ⟨rfl, N201, K202, p203, p204, p205, p206⟩ := hQ200
  have N207 := Fr.app N176 N201
  have f208 : Old Z n0 T200.heap := f188.keep K202 (allS g_b183 all0)
  have f209 : Sta Z T200.heap "java/lang/Long$LongCache" "cache" "[Ljava/lang/Long;" (.ref w_s_cache) := own_sta_keep f189 K202 (allS (own_plain A183) all0)
  have f210 : own_Arv Z T200.heap b135 .long (3 : Int32) [(.long (norm_a_x0__0 q0 q1)), (.long (norm_a_x0__1 q0 q1)), (.long (norm_a_x0__2 q0 q1 q2))] (.long (0 : Int64)) := f190.keep K202 (ninS ne184 nin0)
  have f211 : own_Arv Z T200.heap b146 .long (3 : Int32) [(.long (norm_a_x0__0 (if (p4 &&& (1 : Int32)) = (0 : Int32) then q3 else (norm_a_x0__0 q0 q1)) (if (p4 &&& (2 : Int32)) = (0 : Int32) then q3 else (norm_a_x0__1 q0 q1)))), (.long (norm_a_x0__1 (if (p4 &&& (1 : Int32)) = (0 : Int32) then q3 else (norm_a_x0__0 q0 q1)) (if (p4 &&& (2 : Int32)) = (0 : Int32) then q3 else (norm_a_x0__1 q0 q1)))), (.long (norm_a_x0__2 (if (p4 &&& (1 : Int32)) = (0 : Int32) then q3 else (norm_a_x0__0 q0 q1)) (if (p4 &&& (2 : Int32)) = (0 : Int32) then q3 else (norm_a_x0__1 q0 q1)) (if (p4 &&& (4 : Int32)) = (0 : Int32) then q3 else (norm_a_x0__2 q0 q1 q2))))] (.long (0 : Int64)) := f191.keep K202 (ninS ne185 nin0)
  have f212 : Exa Z T200.heap b157 "com/example/sure_sequence/suresequence/RegionRange" := f192.keep K202
  have f213 : Fld Z T200.heap b157 "com/example/sure_sequence/suresequence/RegionRange" "low" "J" (.long (norm_a_x0__0 q0 q1)) := f193.keep K202 (ninS ne186 nin0)
  have f214 : Fld Z T200.heap b157 "com/example/sure_sequence/suresequence/RegionRange" "high" "J" (.long (norm_a_x0__1 q0 q1)) := f194.keep K202 (ninS ne186 nin0)
  have f215 : Fld Z T200.heap b157 "com/example/sure_sequence/suresequence/RegionRange" "highWater" "J" (.long (norm_a_x0__2 q0 q1 q2)) := f195.keep K202 (ninS ne186 nin0)
  have f216 : Exa Z T200.heap b183 "com/example/sure_sequence/suresequence/RegionRange" := A183.keep K202
  have Z217 : n0 ≤ T200.heap.size := Nat.le_trans Z187 K202.1
  refine own_goT st200 ?_
  obtain ⟨kq218, cl218, Ar218, q218, S218, Nn218, Hh218, G218⟩ := id f210
  obtain ⟨kq219, cl219, Ar219, q219, S219, Nn219, Hh219, G219⟩ := id f211
  refine own_go (S' := T200.setTop (mkF m 125 #[.val (.long q0), .second, .val (.long q1), .second, .val (.long q2), .second, .val (.long q3), .second, .val (.int p4), .val (.ref b135), .val (.long (if (p4 &&& (1 : Int32)) = (0 : Int32) then q3 else (norm_a_x0__0 q0 q1))), .second, .val (.long (if (p4 &&& (2 : Int32)) = (0 : Int32) then q3 else (norm_a_x0__1 q0 q1))), .second, .val (.long (if (p4 &&& (4 : Int32)) = (0 : Int32) then q3 else (norm_a_x0__2 q0 q1 q2))), .second, .val (.ref b146), .val (.ref b157), .val (.ref b183), .unset] [(.int (Jvm.Free.XT.cmpL (norm_a_x0__0 q0 q1) (norm_a_x0__0 (if (p4 &&& (1 : Int32)) = (0 : Int32) then q3 else (norm_a_x0__0 q0 q1)) (if (p4 &&& (2 : Int32)) = (0 : Int32) then q3 else (norm_a_x0__1 q0 q1)))))])) (fun t k => ?_) ?_
  · show Steps p.tables e below (T200.setTop (mkF m 114 #[.val (.long q0), .second, .val (.long q1), .second, .val (.long q2), .second, .val (.long q3), .second, .val (.int p4), .val (.ref b135), .val (.long (if (p4 &&& (1 : Int32)) = (0 : Int32) then q3 else (norm_a_x0__0 q0 q1))), .second, .val (.long (if (p4 &&& (2 : Int32)) = (0 : Int32) then q3 else (norm_a_x0__1 q0 q1))), .second, .val (.long (if (p4 &&& (4 : Int32)) = (0 : Int32) then q3 else (norm_a_x0__2 q0 q1 q2))), .second, .val (.ref b146), .val (.ref b157), .unset, .unset] [(.ref b183)])) t
    refine XS.astore X200.here hx rfl (hb hby at_114) rfl rfl (l' := #[.val (.long q0), .second, .val (.long q1), .second, .val (.long q2), .second, .val (.long q3), .second, .val (.int p4), .val (.ref b135), .val (.long (if (p4 &&& (1 : Int32)) = (0 : Int32) then q3 else (norm_a_x0__0 q0 q1))), .second, .val (.long (if (p4 &&& (2 : Int32)) = (0 : Int32) then q3 else (norm_a_x0__1 q0 q1))), .second, .val (.long (if (p4 &&& (4 : Int32)) = (0 : Int32) then q3 else (norm_a_x0__2 q0 q1 q2))), .second, .val (.ref b146), .val (.ref b157), .val (.ref b183), .unset]) rfl ?_
    show Steps p.tables e below (T200.setTop (mkF m 116 #[.val (.long q0), .second, .val (.long q1), .second, .val (.long q2), .second, .val (.long q3), .second, .val (.int p4), .val (.ref b135), .val (.long (if (p4 &&& (1 : Int32)) = (0 : Int32) then q3 else (norm_a_x0__0 q0 q1))), .second, .val (.long (if (p4 &&& (2 : Int32)) = (0 : Int32) then q3 else (norm_a_x0__1 q0 q1))), .second, .val (.long (if (p4 &&& (4 : Int32)) = (0 : Int32) then q3 else (norm_a_x0__2 q0 q1 q2))), .second, .val (.ref b146), .val (.ref b157), .val (.ref b183), .unset] [])) t
    refine XS.aload X200.here hx rfl (hb hby at_116) rfl rfl ?_
    show Steps p.tables e below (T200.setTop (mkF m 118 #[.val (.long q0), .second, .val (.long q1), .second, .val (.long q2), .second, .val (.long q3), .second, .val (.int p4), .val (.ref b135), .val (.long (if (p4 &&& (1 : Int32)) = (0 : Int32) then q3 else (norm_a_x0__0 q0 q1))), .second, .val (.long (if (p4 &&& (2 : Int32)) = (0 : Int32) then q3 else (norm_a_x0__1 q0 q1))), .second, .val (.long (if (p4 &&& (4 : Int32)) = (0 : Int32) then q3 else (norm_a_x0__2 q0 q1 q2))), .second, .val (.ref b146), .val (.ref b157), .val (.ref b183), .unset] [(.ref b135)])) t
    refine XS.iconst X200.here hx rfl (hb hby at_118) ?_
    show Steps p.tables e below (T200.setTop (mkF m 119 #[.val (.long q0), .second, .val (.long q1), .second, .val (.long q2), .second, .val (.long q3), .second, .val (.int p4), .val (.ref b135), .val (.long (if (p4 &&& (1 : Int32)) = (0 : Int32) then q3 else (norm_a_x0__0 q0 q1))), .second, .val (.long (if (p4 &&& (2 : Int32)) = (0 : Int32) then q3 else (norm_a_x0__1 q0 q1))), .second, .val (.long (if (p4 &&& (4 : Int32)) = (0 : Int32) then q3 else (norm_a_x0__2 q0 q1 q2))), .second, .val (.ref b146), .val (.ref b157), .val (.ref b183), .unset] [(.int (0 : Int32)), (.ref b135)])) t
    refine X200.laload hx (j := (0 : Int32)) (v := (.long (norm_a_x0__0 q0 q1))) (by (try rw [rfl]); exact Ar218.1) (State.isArrayOf_alike hZ.alike Ar218.2.1) Ar218.2.2 (inb_of S218 ⟨by decide, by decide⟩) (Hh218.at (inb_of S218 ⟨by decide, by decide⟩) rfl) (g := (mkF m 119 #[.val (.long q0), .second, .val (.long q1), .second, .val (.long q2), .second, .val (.long q3), .second, .val (.int p4), .val (.ref b135), .val (.long (if (p4 &&& (1 : Int32)) = (0 : Int32) then q3 else (norm_a_x0__0 q0 q1))), .second, .val (.long (if (p4 &&& (2 : Int32)) = (0 : Int32) then q3 else (norm_a_x0__1 q0 q1))), .second, .val (.long (if (p4 &&& (4 : Int32)) = (0 : Int32) then q3 else (norm_a_x0__2 q0 q1 q2))), .second, .val (.ref b146), .val (.ref b157), .val (.ref b183), .unset] [(.int (0 : Int32)), (.ref b135)])) rfl rfl (hb hby at_119) _ ?_
    show Steps p.tables e below (T200.setTop (mkF m 120 #[.val (.long q0), .second, .val (.long q1), .second, .val (.long q2), .second, .val (.long q3), .second, .val (.int p4), .val (.ref b135), .val (.long (if (p4 &&& (1 : Int32)) = (0 : Int32) then q3 else (norm_a_x0__0 q0 q1))), .second, .val (.long (if (p4 &&& (2 : Int32)) = (0 : Int32) then q3 else (norm_a_x0__1 q0 q1))), .second, .val (.long (if (p4 &&& (4 : Int32)) = (0 : Int32) then q3 else (norm_a_x0__2 q0 q1 q2))), .second, .val (.ref b146), .val (.ref b157), .val (.ref b183), .unset] [(.long (norm_a_x0__0 q0 q1))])) t
    refine XS.aload X200.here hx rfl (hb hby at_120) rfl rfl ?_
    show Steps p.tables e below (T200.setTop (mkF m 122 #[.val (.long q0), .second, .val (.long q1), .second, .val (.long q2), .second, .val (.long q3), .second, .val (.int p4), .val (.ref b135), .val (.long (if (p4 &&& (1 : Int32)) = (0 : Int32) then q3 else (norm_a_x0__0 q0 q1))), .second, .val (.long (if (p4 &&& (2 : Int32)) = (0 : Int32) then q3 else (norm_a_x0__1 q0 q1))), .second, .val (.long (if (p4 &&& (4 : Int32)) = (0 : Int32) then q3 else (norm_a_x0__2 q0 q1 q2))), .second, .val (.ref b146), .val (.ref b157), .val (.ref b183), .unset] [(.ref b146), (.long (norm_a_x0__0 q0 q1))])) t
    refine XS.iconst X200.here hx rfl (hb hby at_122) ?_
    show Steps p.tables e below (T200.setTop (mkF m 123 #[.val (.long q0), .second, .val (.long q1), .second, .val (.long q2), .second, .val (.long q3), .second, .val (.int p4), .val (.ref b135), .val (.long (if (p4 &&& (1 : Int32)) = (0 : Int32) then q3 else (norm_a_x0__0 q0 q1))), .second, .val (.long (if (p4 &&& (2 : Int32)) = (0 : Int32) then q3 else (norm_a_x0__1 q0 q1))), .second, .val (.long (if (p4 &&& (4 : Int32)) = (0 : Int32) then q3 else (norm_a_x0__2 q0 q1 q2))), .second, .val (.ref b146), .val (.ref b157), .val (.ref b183), .unset] [(.int (0 : Int32)), (.ref b146), (.long (norm_a_x0__0 q0 q1))])) t
    refine X200.laload hx (j := (0 : Int32)) (v := (.long (norm_a_x0__0 (if (p4 &&& (1 : Int32)) = (0 : Int32) then q3 else (norm_a_x0__0 q0 q1)) (if (p4 &&& (2 : Int32)) = (0 : Int32) then q3 else (norm_a_x0__1 q0 q1))))) (by (try rw [rfl]); exact Ar219.1) (State.isArrayOf_alike hZ.alike Ar219.2.1) Ar219.2.2 (inb_of S219 ⟨by decide, by decide⟩) (Hh219.at (inb_of S219 ⟨by decide, by decide⟩) rfl) (g := (mkF m 123 #[.val (.long q0), .second, .val (.long q1), .second, .val (.long q2), .second, .val (.long q3), .second, .val (.int p4), .val (.ref b135), .val (.long (if (p4 &&& (1 : Int32)) = (0 : Int32) then q3 else (norm_a_x0__0 q0 q1))), .second, .val (.long (if (p4 &&& (2 : Int32)) = (0 : Int32) then q3 else (norm_a_x0__1 q0 q1))), .second, .val (.long (if (p4 &&& (4 : Int32)) = (0 : Int32) then q3 else (norm_a_x0__2 q0 q1 q2))), .second, .val (.ref b146), .val (.ref b157), .val (.ref b183), .unset] [(.int (0 : Int32)), (.ref b146), (.long (norm_a_x0__0 q0 q1))])) rfl rfl (hb hby at_123) _ ?_
    show Steps p.tables e below (T200.setTop (mkF m 124 #[.val (.long q0), .second, .val (.long q1), .second, .val (.long q2), .second, .val (.long q3), .second, .val (.int p4), .val (.ref b135), .val (.long (if (p4 &&& (1 : Int32)) = (0 : Int32) then q3 else (norm_a_x0__0 q0 q1))), .second, .val (.long (if (p4 &&& (2 : Int32)) = (0 : Int32) then q3 else (norm_a_x0__1 q0 q1))), .second, .val (.long (if (p4 &&& (4 : Int32)) = (0 : Int32) then q3 else (norm_a_x0__2 q0 q1 q2))), .second, .val (.ref b146), .val (.ref b157), .val (.ref b183), .unset] [(.long (norm_a_x0__0 (if (p4 &&& (1 : Int32)) = (0 : Int32) then q3 else (norm_a_x0__0 q0 q1)) (if (p4 &&& (2 : Int32)) = (0 : Int32) then q3 else (norm_a_x0__1 q0 q1)))), (.long (norm_a_x0__0 q0 q1))])) t
    refine XS.lcmp X200.here hx rfl (hb hby at_124) rfl ?_
    exact k
  refine own_go (S' := T200.setTop (mkF m 157 #[.val (.long q0), .second, .val (.long q1), .second, .val (.long q2), .second, .val (.long q3), .second, .val (.int p4), .val (.ref b135), .val (.long (if (p4 &&& (1 : Int32)) = (0 : Int32) then q3 else (norm_a_x0__0 q0 q1))), .second, .val (.long (if (p4 &&& (2 : Int32)) = (0 : Int32) then q3 else (norm_a_x0__1 q0 q1))), .second, .val (.long (if (p4 &&& (4 : Int32)) = (0 : Int32) then q3 else (norm_a_x0__2 q0 q1 q2))), .second, .val (.ref b146), .val (.ref b157), .val (.ref b183), .unset] [(.int (if (norm_a_x0__0 q0 q1) = (norm_a_x0__0 (if (p4 &&& (1 : Int32)) = (0 : Int32) then q3 else (norm_a_x0__0 q0 q1)) (if (p4 &&& (2 : Int32)) = (0 : Int32) then q3 else (norm_a_x0__1 q0 q1))) then (if (norm_a_x0__1 q0 q1) = (norm_a_x0__1 (if (p4 &&& (1 : Int32)) = (0 : Int32) then q3 else (norm_a_x0__0 q0 q1)) (if (p4 &&& (2 : Int32)) = (0 : Int32) then q3 else (norm_a_x0__1 q0 q1))) then (if (norm_a_x0__2 q0 q1 q2) = (norm_a_x0__2 (if (p4 &&& (1 : Int32)) = (0 : Int32) then q3 else (norm_a_x0__0 q0 q1)) (if (p4 &&& (2 : Int32)) = (0 : Int32) then q3 else (norm_a_x0__1 q0 q1)) (if (p4 &&& (4 : Int32)) = (0 : Int32) then q3 else (norm_a_x0__2 q0 q1 q2))) then (1 : Int32) else (0 : Int32)) else (0 : Int32)) else (0 : Int32)))])) (fun t k => ?_) ?_
  · show Steps p.tables e below (T200.setTop (mkF m 125 #[.val (.long q0), .second, .val (.long q1), .second, .val (.long q2), .second, .val (.long q3), .second, .val (.int p4), .val (.ref b135), .val (.long (if (p4 &&& (1 : Int32)) = (0 : Int32) then q3 else (norm_a_x0__0 q0 q1))), .second, .val (.long (if (p4 &&& (2 : Int32)) = (0 : Int32) then q3 else (norm_a_x0__1 q0 q1))), .second, .val (.long (if (p4 &&& (4 : Int32)) = (0 : Int32) then q3 else (norm_a_x0__2 q0 q1 q2))), .second, .val (.ref b146), .val (.ref b157), .val (.ref b183), .unset] [(.int (Jvm.Free.XT.cmpL (norm_a_x0__0 q0 q1) (norm_a_x0__0 (if (p4 &&& (1 : Int32)) = (0 : Int32) then q3 else (norm_a_x0__0 q0 q1)) (if (p4 &&& (2 : Int32)) = (0 : Int32) then q3 else (norm_a_x0__1 q0 q1)))))])) t
    by_cases hc125 : (norm_a_x0__0 q0 q1) = (norm_a_x0__0 (if (p4 &&& (1 : Int32)) = (0 : Int32) then q3 else (norm_a_x0__0 q0 q1)) (if (p4 &&& (2 : Int32)) = (0 : Int32) then q3 else (norm_a_x0__1 q0 q1)))
    · show Steps p.tables e below (T200.setTop (mkF m 125 #[.val (.long q0), .second, .val (.long q1), .second, .val (.long q2), .second, .val (.long q3), .second, .val (.int p4), .val (.ref b135), .val (.long (if (p4 &&& (1 : Int32)) = (0 : Int32) then q3 else (norm_a_x0__0 q0 q1))), .second, .val (.long (if (p4 &&& (2 : Int32)) = (0 : Int32) then q3 else (norm_a_x0__1 q0 q1))), .second, .val (.long (if (p4 &&& (4 : Int32)) = (0 : Int32) then q3 else (norm_a_x0__2 q0 q1 q2))), .second, .val (.ref b146), .val (.ref b157), .val (.ref b183), .unset] [(.int (Jvm.Free.XT.cmpL (norm_a_x0__0 q0 q1) (norm_a_x0__0 (if (p4 &&& (1 : Int32)) = (0 : Int32) then q3 else (norm_a_x0__0 q0 q1)) (if (p4 &&& (2 : Int32)) = (0 : Int32) then q3 else (norm_a_x0__1 q0 q1)))))])) t
      refine XS.ifNo X200.here hx rfl (hb hby at_125) rfl (Jvm.Free.XT.ll_ne_f hc125) ?_
      show Steps p.tables e below (T200.setTop (mkF m 128 #[.val (.long q0), .second, .val (.long q1), .second, .val (.long q2), .second, .val (.long q3), .second, .val (.int p4), .val (.ref b135), .val (.long (if (p4 &&& (1 : Int32)) = (0 : Int32) then q3 else (norm_a_x0__0 q0 q1))), .second, .val (.long (if (p4 &&& (2 : Int32)) = (0 : Int32) then q3 else (norm_a_x0__1 q0 q1))), .second, .val (.long (if (p4 &&& (4 : Int32)) = (0 : Int32) then q3 else (norm_a_x0__2 q0 q1 q2))), .second, .val (.ref b146), .val (.ref b157), .val (.ref b183), .unset] [])) t
      refine XS.aload X200.here hx rfl (hb hby at_128) rfl rfl ?_
      show Steps p.tables e below (T200.setTop (mkF m 130 #[.val (.long q0), .second, .val (.long q1), .second, .val (.long q2), .second, .val (.long q3), .second, .val (.int p4), .val (.ref b135), .val (.long (if (p4 &&& (1 : Int32)) = (0 : Int32) then q3 else (norm_a_x0__0 q0 q1))), .second, .val (.long (if (p4 &&& (2 : Int32)) = (0 : Int32) then q3 else (norm_a_x0__1 q0 q1))), .second, .val (.long (if (p4 &&& (4 : Int32)) = (0 : Int32) then q3 else (norm_a_x0__2 q0 q1 q2))), .second, .val (.ref b146), .val (.ref b157), .val (.ref b183), .unset] [(.ref b135)])) t
      refine XS.iconst X200.here hx rfl (hb hby at_130) ?_
      show Steps p.tables e below (T200.setTop (mkF m 131 #[.val (.long q0), .second, .val (.long q1), .second, .val (.long q2), .second, .val (.long q3), .second, .val (.int p4), .val (.ref b135), .val (.long (if (p4 &&& (1 : Int32)) = (0 : Int32) then q3 else (norm_a_x0__0 q0 q1))), .second, .val (.long (if (p4 &&& (2 : Int32)) = (0 : Int32) then q3 else (norm_a_x0__1 q0 q1))), .second, .val (.long (if (p4 &&& (4 : Int32)) = (0 : Int32) then q3 else (norm_a_x0__2 q0 q1 q2))), .second, .val (.ref b146), .val (.ref b157), .val (.ref b183), .unset] [(.int (1 : Int32)), (.ref b135)])) t
      refine X200.laload hx (j := (1 : Int32)) (v := (.long (norm_a_x0__1 q0 q1))) (by (try rw [rfl]); exact Ar218.1) (State.isArrayOf_alike hZ.alike Ar218.2.1) Ar218.2.2 (inb_of S218 ⟨by decide, by decide⟩) (Hh218.at (inb_of S218 ⟨by decide, by decide⟩) rfl) (g := (mkF m 131 #[.val (.long q0), .second, .val (.long q1), .second, .val (.long q2), .second, .val (.long q3), .second, .val (.int p4), .val (.ref b135), .val (.long (if (p4 &&& (1 : Int32)) = (0 : Int32) then q3 else (norm_a_x0__0 q0 q1))), .second, .val (.long (if (p4 &&& (2 : Int32)) = (0 : Int32) then q3 else (norm_a_x0__1 q0 q1))), .second, .val (.long (if (p4 &&& (4 : Int32)) = (0 : Int32) then q3 else (norm_a_x0__2 q0 q1 q2))), .second, .val (.ref b146), .val (.ref b157), .val (.ref b183), .unset] [(.int (1 : Int32)), (.ref b135)])) rfl rfl (hb hby at_131) _ ?_
      show Steps p.tables e below (T200.setTop (mkF m 132 #[.val (.long q0), .second, .val (.long q1), .second, .val (.long q2), .second, .val (.long q3), .second, .val (.int p4), .val (.ref b135), .val (.long (if (p4 &&& (1 : Int32)) = (0 : Int32) then q3 else (norm_a_x0__0 q0 q1))), .second, .val (.long (if (p4 &&& (2 : Int32)) = (0 : Int32) then q3 else (norm_a_x0__1 q0 q1))), .second, .val (.long (if (p4 &&& (4 : Int32)) = (0 : Int32) then q3 else (norm_a_x0__2 q0 q1 q2))), .second, .val (.ref b146), .val (.ref b157), .val (.ref b183), .unset] [(.long (norm_a_x0__1 q0 q1))])) t
      refine XS.aload X200.here hx rfl (hb hby at_132) rfl rfl ?_
      show Steps p.tables e below (T200.setTop (mkF m 134 #[.val (.long q0), .second, .val (.long q1), .second, .val (.long q2), .second, .val (.long q3), .second, .val (.int p4), .val (.ref b135), .val (.long (if (p4 &&& (1 : Int32)) = (0 : Int32) then q3 else (norm_a_x0__0 q0 q1))), .second, .val (.long (if (p4 &&& (2 : Int32)) = (0 : Int32) then q3 else (norm_a_x0__1 q0 q1))), .second, .val (.long (if (p4 &&& (4 : Int32)) = (0 : Int32) then q3 else (norm_a_x0__2 q0 q1 q2))), .second, .val (.ref b146), .val (.ref b157), .val (.ref b183), .unset] [(.ref b146), (.long (norm_a_x0__1 q0 q1))])) t
      refine XS.iconst X200.here hx rfl (hb hby at_134) ?_
      show Steps p.tables e below (T200.setTop (mkF m 135 #[.val (.long q0), .second, .val (.long q1), .second, .val (.long q2), .second, .val (.long q3), .second, .val (.int p4), .val (.ref b135), .val (.long (if (p4 &&& (1 : Int32)) = (0 : Int32) then q3 else (norm_a_x0__0 q0 q1))), .second, .val (.long (if (p4 &&& (2 : Int32)) = (0 : Int32) then q3 else (norm_a_x0__1 q0 q1))), .second, .val (.long (if (p4 &&& (4 : Int32)) = (0 : Int32) then q3 else (norm_a_x0__2 q0 q1 q2))), .second, .val (.ref b146), .val (.ref b157), .val (.ref b183), .unset] [(.int (1 : Int32)), (.ref b146), (.long (norm_a_x0__1 q0 q1))])) t
      refine X200.laload hx (j := (1 : Int32)) (v := (.long (norm_a_x0__1 (if (p4 &&& (1 : Int32)) = (0 : Int32) then q3 else (norm_a_x0__0 q0 q1)) (if (p4 &&& (2 : Int32)) = (0 : Int32) then q3 else (norm_a_x0__1 q0 q1))))) (by (try rw [rfl]); exact Ar219.1) (State.isArrayOf_alike hZ.alike Ar219.2.1) Ar219.2.2 (inb_of S219 ⟨by decide, by decide⟩) (Hh219.at (inb_of S219 ⟨by decide, by decide⟩) rfl) (g := (mkF m 135 #[.val (.long q0), .second, .val (.long q1), .second, .val (.long q2), .second, .val (.long q3), .second, .val (.int p4), .val (.ref b135), .val (.long (if (p4 &&& (1 : Int32)) = (0 : Int32) then q3 else (norm_a_x0__0 q0 q1))), .second, .val (.long (if (p4 &&& (2 : Int32)) = (0 : Int32) then q3 else (norm_a_x0__1 q0 q1))), .second, .val (.long (if (p4 &&& (4 : Int32)) = (0 : Int32) then q3 else (norm_a_x0__2 q0 q1 q2))), .second, .val (.ref b146), .val (.ref b157), .val (.ref b183), .unset] [(.int (1 : Int32)), (.ref b146), (.long (norm_a_x0__1 q0 q1))])) rfl rfl (hb hby at_135) _ ?_
      show Steps p.tables e below (T200.setTop (mkF m 136 #[.val (.long q0), .second, .val (.long q1), .second, .val (.long q2), .second, .val (.long q3), .second, .val (.int p4), .val (.ref b135), .val (.long (if (p4 &&& (1 : Int32)) = (0 : Int32) then q3 else (norm_a_x0__0 q0 q1))), .second, .val (.long (if (p4 &&& (2 : Int32)) = (0 : Int32) then q3 else (norm_a_x0__1 q0 q1))), .second, .val (.long (if (p4 &&& (4 : Int32)) = (0 : Int32) then q3 else (norm_a_x0__2 q0 q1 q2))), .second, .val (.ref b146), .val (.ref b157), .val (.ref b183), .unset] [(.long (norm_a_x0__1 (if (p4 &&& (1 : Int32)) = (0 : Int32) then q3 else (norm_a_x0__0 q0 q1)) (if (p4 &&& (2 : Int32)) = (0 : Int32) then q3 else (norm_a_x0__1 q0 q1)))), (.long (norm_a_x0__1 q0 q1))])) t
      refine XS.lcmp X200.here hx rfl (hb hby at_136) rfl ?_
      by_cases hc137 : (norm_a_x0__1 q0 q1) = (norm_a_x0__1 (if (p4 &&& (1 : Int32)) = (0 : Int32) then q3 else (norm_a_x0__0 q0 q1)) (if (p4 &&& (2 : Int32)) = (0 : Int32) then q3 else (norm_a_x0__1 q0 q1)))
      · show Steps p.tables e below (T200.setTop (mkF m 137 #[.val (.long q0), .second, .val (.long q1), .second, .val (.long q2), .second, .val (.long q3), .second, .val (.int p4), .val (.ref b135), .val (.long (if (p4 &&& (1 : Int32)) = (0 : Int32) then q3 else (norm_a_x0__0 q0 q1))), .second, .val (.long (if (p4 &&& (2 : Int32)) = (0 : Int32) then q3 else (norm_a_x0__1 q0 q1))), .second, .val (.long (if (p4 &&& (4 : Int32)) = (0 : Int32) then q3 else (norm_a_x0__2 q0 q1 q2))), .second, .val (.ref b146), .val (.ref b157), .val (.ref b183), .unset] [(.int (Jvm.Free.XT.cmpL (norm_a_x0__1 q0 q1) (norm_a_x0__1 (if (p4 &&& (1 : Int32)) = (0 : Int32) then q3 else (norm_a_x0__0 q0 q1)) (if (p4 &&& (2 : Int32)) = (0 : Int32) then q3 else (norm_a_x0__1 q0 q1)))))])) t
        refine XS.ifNo X200.here hx rfl (hb hby at_137) rfl (Jvm.Free.XT.ll_ne_f hc137) ?_
        show Steps p.tables e below (T200.setTop (mkF m 140 #[.val (.long q0), .second, .val (.long q1), .second, .val (.long q2), .second, .val (.long q3), .second, .val (.int p4), .val (.ref b135), .val (.long (if (p4 &&& (1 : Int32)) = (0 : Int32) then q3 else (norm_a_x0__0 q0 q1))), .second, .val (.long (if (p4 &&& (2 : Int32)) = (0 : Int32) then q3 else (norm_a_x0__1 q0 q1))), .second, .val (.long (if (p4 &&& (4 : Int32)) = (0 : Int32) then q3 else (norm_a_x0__2 q0 q1 q2))), .second, .val (.ref b146), .val (.ref b157), .val (.ref b183), .unset] [])) t
        refine XS.aload X200.here hx rfl (hb hby at_140) rfl rfl ?_
        show Steps p.tables e below (T200.setTop (mkF m 142 #[.val (.long q0), .second, .val (.long q1), .second, .val (.long q2), .second, .val (.long q3), .second, .val (.int p4), .val (.ref b135), .val (.long (if (p4 &&& (1 : Int32)) = (0 : Int32) then q3 else (norm_a_x0__0 q0 q1))), .second, .val (.long (if (p4 &&& (2 : Int32)) = (0 : Int32) then q3 else (norm_a_x0__1 q0 q1))), .second, .val (.long (if (p4 &&& (4 : Int32)) = (0 : Int32) then q3 else (norm_a_x0__2 q0 q1 q2))), .second, .val (.ref b146), .val (.ref b157), .val (.ref b183), .unset] [(.ref b135)])) t
        refine XS.iconst X200.here hx rfl (hb hby at_142) ?_
        show Steps p.tables e below (T200.setTop (mkF m 143 #[.val (.long q0), .second, .val (.long q1), .second, .val (.long q2), .second, .val (.long q3), .second, .val (.int p4), .val (.ref b135), .val (.long (if (p4 &&& (1 : Int32)) = (0 : Int32) then q3 else (norm_a_x0__0 q0 q1))), .second, .val (.long (if (p4 &&& (2 : Int32)) = (0 : Int32) then q3 else (norm_a_x0__1 q0 q1))), .second, .val (.long (if (p4 &&& (4 : Int32)) = (0 : Int32) then q3 else (norm_a_x0__2 q0 q1 q2))), .second, .val (.ref b146), .val (.ref b157), .val (.ref b183), .unset] [(.int (2 : Int32)), (.ref b135)])) t
        refine X200.laload hx (j := (2 : Int32)) (v := (.long (norm_a_x0__2 q0 q1 q2))) (by (try rw [rfl]); exact Ar218.1) (State.isArrayOf_alike hZ.alike Ar218.2.1) Ar218.2.2 (inb_of S218 ⟨by decide, by decide⟩) (Hh218.at (inb_of S218 ⟨by decide, by decide⟩) rfl) (g := (mkF m 143 #[.val (.long q0), .second, .val (.long q1), .second, .val (.long q2), .second, .val (.long q3), .second, .val (.int p4), .val (.ref b135), .val (.long (if (p4 &&& (1 : Int32)) = (0 : Int32) then q3 else (norm_a_x0__0 q0 q1))), .second, .val (.long (if (p4 &&& (2 : Int32)) = (0 : Int32) then q3 else (norm_a_x0__1 q0 q1))), .second, .val (.long (if (p4 &&& (4 : Int32)) = (0 : Int32) then q3 else (norm_a_x0__2 q0 q1 q2))), .second, .val (.ref b146), .val (.ref b157), .val (.ref b183), .unset] [(.int (2 : Int32)), (.ref b135)])) rfl rfl (hb hby at_143) _ ?_
        show Steps p.tables e below (T200.setTop (mkF m 144 #[.val (.long q0), .second, .val (.long q1), .second, .val (.long q2), .second, .val (.long q3), .second, .val (.int p4), .val (.ref b135), .val (.long (if (p4 &&& (1 : Int32)) = (0 : Int32) then q3 else (norm_a_x0__0 q0 q1))), .second, .val (.long (if (p4 &&& (2 : Int32)) = (0 : Int32) then q3 else (norm_a_x0__1 q0 q1))), .second, .val (.long (if (p4 &&& (4 : Int32)) = (0 : Int32) then q3 else (norm_a_x0__2 q0 q1 q2))), .second, .val (.ref b146), .val (.ref b157), .val (.ref b183), .unset] [(.long (norm_a_x0__2 q0 q1 q2))])) t
        refine XS.aload X200.here hx rfl (hb hby at_144) rfl rfl ?_
        show Steps p.tables e below (T200.setTop (mkF m 146 #[.val (.long q0), .second, .val (.long q1), .second, .val (.long q2), .second, .val (.long q3), .second, .val (.int p4), .val (.ref b135), .val (.long (if (p4 &&& (1 : Int32)) = (0 : Int32) then q3 else (norm_a_x0__0 q0 q1))), .second, .val (.long (if (p4 &&& (2 : Int32)) = (0 : Int32) then q3 else (norm_a_x0__1 q0 q1))), .second, .val (.long (if (p4 &&& (4 : Int32)) = (0 : Int32) then q3 else (norm_a_x0__2 q0 q1 q2))), .second, .val (.ref b146), .val (.ref b157), .val (.ref b183), .unset] [(.ref b146), (.long (norm_a_x0__2 q0 q1 q2))])) t
        refine XS.iconst X200.here hx rfl (hb hby at_146) ?_
        show Steps p.tables e below (T200.setTop (mkF m 147 #[.val (.long q0), .second, .val (.long q1), .second, .val (.long q2), .second, .val (.long q3), .second, .val (.int p4), .val (.ref b135), .val (.long (if (p4 &&& (1 : Int32)) = (0 : Int32) then q3 else (norm_a_x0__0 q0 q1))), .second, .val (.long (if (p4 &&& (2 : Int32)) = (0 : Int32) then q3 else (norm_a_x0__1 q0 q1))), .second, .val (.long (if (p4 &&& (4 : Int32)) = (0 : Int32) then q3 else (norm_a_x0__2 q0 q1 q2))), .second, .val (.ref b146), .val (.ref b157), .val (.ref b183), .unset] [(.int (2 : Int32)), (.ref b146), (.long (norm_a_x0__2 q0 q1 q2))])) t
        refine X200.laload hx (j := (2 : Int32)) (v := (.long (norm_a_x0__2 (if (p4 &&& (1 : Int32)) = (0 : Int32) then q3 else (norm_a_x0__0 q0 q1)) (if (p4 &&& (2 : Int32)) = (0 : Int32) then q3 else (norm_a_x0__1 q0 q1)) (if (p4 &&& (4 : Int32)) = (0 : Int32) then q3 else (norm_a_x0__2 q0 q1 q2))))) (by (try rw [rfl]); exact Ar219.1) (State.isArrayOf_alike hZ.alike Ar219.2.1) Ar219.2.2 (inb_of S219 ⟨by decide, by decide⟩) (Hh219.at (inb_of S219 ⟨by decide, by decide⟩) rfl) (g := (mkF m 147 #[.val (.long q0), .second, .val (.long q1), .second, .val (.long q2), .second, .val (.long q3), .second, .val (.int p4), .val (.ref b135), .val (.long (if (p4 &&& (1 : Int32)) = (0 : Int32) then q3 else (norm_a_x0__0 q0 q1))), .second, .val (.long (if (p4 &&& (2 : Int32)) = (0 : Int32) then q3 else (norm_a_x0__1 q0 q1))), .second, .val (.long (if (p4 &&& (4 : Int32)) = (0 : Int32) then q3 else (norm_a_x0__2 q0 q1 q2))), .second, .val (.ref b146), .val (.ref b157), .val (.ref b183), .unset] [(.int (2 : Int32)), (.ref b146), (.long (norm_a_x0__2 q0 q1 q2))])) rfl rfl (hb hby at_147) _ ?_
        show Steps p.tables e below (T200.setTop (mkF m 148 #[.val (.long q0), .second, .val (.long q1), .second, .val (.long q2), .second, .val (.long q3), .second, .val (.int p4), .val (.ref b135), .val (.long (if (p4 &&& (1 : Int32)) = (0 : Int32) then q3 else (norm_a_x0__0 q0 q1))), .second, .val (.long (if (p4 &&& (2 : Int32)) = (0 : Int32) then q3 else (norm_a_x0__1 q0 q1))), .second, .val (.long (if (p4 &&& (4 : Int32)) = (0 : Int32) then q3 else (norm_a_x0__2 q0 q1 q2))), .second, .val (.ref b146), .val (.ref b157), .val (.ref b183), .unset] [(.long (norm_a_x0__2 (if (p4 &&& (1 : Int32)) = (0 : Int32) then q3 else (norm_a_x0__0 q0 q1)) (if (p4 &&& (2 : Int32)) = (0 : Int32) then q3 else (norm_a_x0__1 q0 q1)) (if (p4 &&& (4 : Int32)) = (0 : Int32) then q3 else (norm_a_x0__2 q0 q1 q2)))), (.long (norm_a_x0__2 q0 q1 q2))])) t
        refine XS.lcmp X200.here hx rfl (hb hby at_148) rfl ?_
        by_cases hc149 : (norm_a_x0__2 q0 q1 q2) = (norm_a_x0__2 (if (p4 &&& (1 : Int32)) = (0 : Int32) then q3 else (norm_a_x0__0 q0 q1)) (if (p4 &&& (2 : Int32)) = (0 : Int32) then q3 else (norm_a_x0__1 q0 q1)) (if (p4 &&& (4 : Int32)) = (0 : Int32) then q3 else (norm_a_x0__2 q0 q1 q2)))
        · show Steps p.tables e below (T200.setTop (mkF m 149 #[.val (.long q0), .second, .val (.long q1), .second, .val (.long q2), .second, .val (.long q3), .second, .val (.int p4), .val (.ref b135), .val (.long (if (p4 &&& (1 : Int32)) = (0 : Int32) then q3 else (norm_a_x0__0 q0 q1))), .second, .val (.long (if (p4 &&& (2 : Int32)) = (0 : Int32) then q3 else (norm_a_x0__1 q0 q1))), .second, .val (.long (if (p4 &&& (4 : Int32)) = (0 : Int32) then q3 else (norm_a_x0__2 q0 q1 q2))), .second, .val (.ref b146), .val (.ref b157), .val (.ref b183), .unset] [(.int (Jvm.Free.XT.cmpL (norm_a_x0__2 q0 q1 q2) (norm_a_x0__2 (if (p4 &&& (1 : Int32)) = (0 : Int32) then q3 else (norm_a_x0__0 q0 q1)) (if (p4 &&& (2 : Int32)) = (0 : Int32) then q3 else (norm_a_x0__1 q0 q1)) (if (p4 &&& (4 : Int32)) = (0 : Int32) then q3 else (norm_a_x0__2 q0 q1 q2)))))])) t
          refine XS.ifNo X200.here hx rfl (hb hby at_149) rfl (Jvm.Free.XT.ll_ne_f hc149) ?_
          show Steps p.tables e below (T200.setTop (mkF m 152 #[.val (.long q0), .second, .val (.long q1), .second, .val (.long q2), .second, .val (.long q3), .second, .val (.int p4), .val (.ref b135), .val (.long (if (p4 &&& (1 : Int32)) = (0 : Int32) then q3 else (norm_a_x0__0 q0 q1))), .second, .val (.long (if (p4 &&& (2 : Int32)) = (0 : Int32) then q3 else (norm_a_x0__1 q0 q1))), .second, .val (.long (if (p4 &&& (4 : Int32)) = (0 : Int32) then q3 else (norm_a_x0__2 q0 q1 q2))), .second, .val (.ref b146), .val (.ref b157), .val (.ref b183), .unset] [])) t
          refine XS.iconst X200.here hx rfl (hb hby at_152) ?_
          show Steps p.tables e below (T200.setTop (mkF m 153 #[.val (.long q0), .second, .val (.long q1), .second, .val (.long q2), .second, .val (.long q3), .second, .val (.int p4), .val (.ref b135), .val (.long (if (p4 &&& (1 : Int32)) = (0 : Int32) then q3 else (norm_a_x0__0 q0 q1))), .second, .val (.long (if (p4 &&& (2 : Int32)) = (0 : Int32) then q3 else (norm_a_x0__1 q0 q1))), .second, .val (.long (if (p4 &&& (4 : Int32)) = (0 : Int32) then q3 else (norm_a_x0__2 q0 q1 q2))), .second, .val (.ref b146), .val (.ref b157), .val (.ref b183), .unset] [(.int (1 : Int32))])) t
          refine XS.goto X200.here hx rfl (pc0 := 153) (pc' := 157) rfl (hb hby at_153) (by decide) (by decide) ?_
          try simp only [if_pos hc125, if_pos hc137, if_pos hc149] at k
          try simp only [if_pos hc125, if_pos hc137, if_pos hc149]
          exact k
        · show Steps p.tables e below (T200.setTop (mkF m 149 #[.val (.long q0), .second, .val (.long q1), .second, .val (.long q2), .second, .val (.long q3), .second, .val (.int p4), .val (.ref b135), .val (.long (if (p4 &&& (1 : Int32)) = (0 : Int32) then q3 else (norm_a_x0__0 q0 q1))), .second, .val (.long (if (p4 &&& (2 : Int32)) = (0 : Int32) then q3 else (norm_a_x0__1 q0 q1))), .second, .val (.long (if (p4 &&& (4 : Int32)) = (0 : Int32) then q3 else (norm_a_x0__2 q0 q1 q2))), .second, .val (.ref b146), .val (.ref b157), .val (.ref b183), .unset] [(.int (Jvm.Free.XT.cmpL (norm_a_x0__2 q0 q1 q2) (norm_a_x0__2 (if (p4 &&& (1 : Int32)) = (0 : Int32) then q3 else (norm_a_x0__0 q0 q1)) (if (p4 &&& (2 : Int32)) = (0 : Int32) then q3 else (norm_a_x0__1 q0 q1)) (if (p4 &&& (4 : Int32)) = (0 : Int32) then q3 else (norm_a_x0__2 q0 q1 q2)))))])) t
          refine XS.ifYes X200.here hx rfl (pc0 := 149) (pc' := 156) rfl (hb hby at_149) rfl (Jvm.Free.XT.ll_ne_t hc149) (by decide) (by decide) ?_
          show Steps p.tables e below (T200.setTop (mkF m 156 #[.val (.long q0), .second, .val (.long q1), .second, .val (.long q2), .second, .val (.long q3), .second, .val (.int p4), .val (.ref b135), .val (.long (if (p4 &&& (1 : Int32)) = (0 : Int32) then q3 else (norm_a_x0__0 q0 q1))), .second, .val (.long (if (p4 &&& (2 : Int32)) = (0 : Int32) then q3 else (norm_a_x0__1 q0 q1))), .second, .val (.long (if (p4 &&& (4 : Int32)) = (0 : Int32) then q3 else (norm_a_x0__2 q0 q1 q2))), .second, .val (.ref b146), .val (.ref b157), .val (.ref b183), .unset] [])) t
          refine XS.iconst X200.here hx rfl (hb hby at_156) ?_
          try simp only [if_pos hc125, if_pos hc137, if_neg hc149] at k
          try simp only [if_pos hc125, if_pos hc137, if_neg hc149]
          exact k
      · show Steps p.tables e below (T200.setTop (mkF m 137 #[.val (.long q0), .second, .val (.long q1), .second, .val (.long q2), .second, .val (.long q3), .second, .val (.int p4), .val (.ref b135), .val (.long (if (p4 &&& (1 : Int32)) = (0 : Int32) then q3 else (norm_a_x0__0 q0 q1))), .second, .val (.long (if (p4 &&& (2 : Int32)) = (0 : Int32) then q3 else (norm_a_x0__1 q0 q1))), .second, .val (.long (if (p4 &&& (4 : Int32)) = (0 : Int32) then q3 else (norm_a_x0__2 q0 q1 q2))), .second, .val (.ref b146), .val (.ref b157), .val (.ref b183), .unset] [(.int (Jvm.Free.XT.cmpL (norm_a_x0__1 q0 q1) (norm_a_x0__1 (if (p4 &&& (1 : Int32)) = (0 : Int32) then q3 else (norm_a_x0__0 q0 q1)) (if (p4 &&& (2 : Int32)) = (0 : Int32) then q3 else (norm_a_x0__1 q0 q1)))))])) t
        refine XS.ifYes X200.here hx rfl (pc0 := 137) (pc' := 156) rfl (hb hby at_137) rfl (Jvm.Free.XT.ll_ne_t hc137) (by decide) (by decide) ?_
        show Steps p.tables e below (T200.setTop (mkF m 156 #[.val (.long q0), .second, .val (.long q1), .second, .val (.long q2), .second, .val (.long q3), .second, .val (.int p4), .val (.ref b135), .val (.long (if (p4 &&& (1 : Int32)) = (0 : Int32) then q3 else (norm_a_x0__0 q0 q1))), .second, .val (.long (if (p4 &&& (2 : Int32)) = (0 : Int32) then q3 else (norm_a_x0__1 q0 q1))), .second, .val (.long (if (p4 &&& (4 : Int32)) = (0 : Int32) then q3 else (norm_a_x0__2 q0 q1 q2))), .second, .val (.ref b146), .val (.ref b157), .val (.ref b183), .unset] [])) t
        refine XS.iconst X200.here hx rfl (hb hby at_156) ?_
        try simp only [if_pos hc125, if_neg hc137] at k
        try simp only [if_pos hc125, if_neg hc137]
        exact k
    · show Steps p.tables e below (T200.setTop (mkF m 125 #[.val (.long q0), .second, .val (.long q1), .second, .val (.long q2), .second, .val (.long q3), .second, .val (.int p4), .val (.ref b135), .val (.long (if (p4 &&& (1 : Int32)) = (0 : Int32) then q3 else (norm_a_x0__0 q0 q1))), .second, .val (.long (if (p4 &&& (2 : Int32)) = (0 : Int32) then q3 else (norm_a_x0__1 q0 q1))), .second, .val (.long (if (p4 &&& (4 : Int32)) = (0 : Int32) then q3 else (norm_a_x0__2 q0 q1 q2))), .second, .val (.ref b146), .val (.ref b157), .val (.ref b183), .unset] [(.int (Jvm.Free.XT.cmpL (norm_a_x0__0 q0 q1) (norm_a_x0__0 (if (p4 &&& (1 : Int32)) = (0 : Int32) then q3 else (norm_a_x0__0 q0 q1)) (if (p4 &&& (2 : Int32)) = (0 : Int32) then q3 else (norm_a_x0__1 q0 q1)))))])) t
      refine XS.ifYes X200.here hx rfl (pc0 := 125) (pc' := 156) rfl (hb hby at_125) rfl (Jvm.Free.XT.ll_ne_t hc125) (by decide) (by decide) ?_
      show Steps p.tables e below (T200.setTop (mkF m 156 #[.val (.long q0), .second, .val (.long q1), .second, .val (.long q2), .second, .val (.long q3), .second, .val (.int p4), .val (.ref b135), .val (.long (if (p4 &&& (1 : Int32)) = (0 : Int32) then q3 else (norm_a_x0__0 q0 q1))), .second, .val (.long (if (p4 &&& (2 : Int32)) = (0 : Int32) then q3 else (norm_a_x0__1 q0 q1))), .second, .val (.long (if (p4 &&& (4 : Int32)) = (0 : Int32) then q3 else (norm_a_x0__2 q0 q1 q2))), .second, .val (.ref b146), .val (.ref b157), .val (.ref b183), .unset] [])) t
      refine XS.iconst X200.here hx rfl (hb hby at_156) ?_
      try simp only [if_neg hc125] at k
      try simp only [if_neg hc125]
      exact k
  refine own_go (S' := T200.setTop (mkF m 163 #[.val (.long q0), .second, .val (.long q1), .second, .val (.long q2), .second, .val (.long q3), .second, .val (.int p4), .val (.ref b135), .val (.long (if (p4 &&& (1 : Int32)) = (0 : Int32) then q3 else (norm_a_x0__0 q0 q1))), .second, .val (.long (if (p4 &&& (2 : Int32)) = (0 : Int32) then q3 else (norm_a_x0__1 q0 q1))), .second, .val (.long (if (p4 &&& (4 : Int32)) = (0 : Int32) then q3 else (norm_a_x0__2 q0 q1 q2))), .second, .val (.ref b146), .val (.ref b157), .val (.ref b183), .val (.int (if (norm_a_x0__0 q0 q1) = (norm_a_x0__0 (if (p4 &&& (1 : Int32)) = (0 : Int32) then q3 else (norm_a_x0__0 q0 q1)) (if (p4 &&& (2 : Int32)) = (0 : Int32) then q3 else (norm_a_x0__1 q0 q1))) then (if (norm_a_x0__1 q0 q1) = (norm_a_x0__1 (if (p4 &&& (1 : Int32)) = (0 : Int32) then q3 else (norm_a_x0__0 q0 q1)) (if (p4 &&& (2 : Int32)) = (0 : Int32) then q3 else (norm_a_x0__1 q0 q1))) then (if (norm_a_x0__2 q0 q1 q2) = (norm_a_x0__2 (if (p4 &&& (1 : Int32)) = (0 : Int32) then q3 else (norm_a_x0__0 q0 q1)) (if (p4 &&& (2 : Int32)) = (0 : Int32) then q3 else (norm_a_x0__1 q0 q1)) (if (p4 &&& (4 : Int32)) = (0 : Int32) then q3 else (norm_a_x0__2 q0 q1 q2))) then (1 : Int32) else (0 : Int32)) else (0 : Int32)) else (0 : Int32)))] [(.ref b183), (.ref b157)])) (fun t k => ?_) ?_
  · show Steps p.tables e below (T200.setTop (mkF m 157 #[.val (.long q0), .second, .val (.long q1), .second, .val (.long q2), .second, .val (.long q3), .second, .val (.int p4), .val (.ref b135), .val (.long (if (p4 &&& (1 : Int32)) = (0 : Int32) then q3 else (norm_a_x0__0 q0 q1))), .second, .val (.long (if (p4 &&& (2 : Int32)) = (0 : Int32) then q3 else (norm_a_x0__1 q0 q1))), .second, .val (.long (if (p4 &&& (4 : Int32)) = (0 : Int32) then q3 else (norm_a_x0__2 q0 q1 q2))), .second, .val (.ref b146), .val (.ref b157), .val (.ref b183), .unset] [(.int (if (norm_a_x0__0 q0 q1) = (norm_a_x0__0 (if (p4 &&& (1 : Int32)) = (0 : Int32) then q3 else (norm_a_x0__0 q0 q1)) (if (p4 &&& (2 : Int32)) = (0 : Int32) then q3 else (norm_a_x0__1 q0 q1))) then (if (norm_a_x0__1 q0 q1) = (norm_a_x0__1 (if (p4 &&& (1 : Int32)) = (0 : Int32) then q3 else (norm_a_x0__0 q0 q1)) (if (p4 &&& (2 : Int32)) = (0 : Int32) then q3 else (norm_a_x0__1 q0 q1))) then (if (norm_a_x0__2 q0 q1 q2) = (norm_a_x0__2 (if (p4 &&& (1 : Int32)) = (0 : Int32) then q3 else (norm_a_x0__0 q0 q1)) (if (p4 &&& (2 : Int32)) = (0 : Int32) then q3 else (norm_a_x0__1 q0 q1)) (if (p4 &&& (4 : Int32)) = (0 : Int32) then q3 else (norm_a_x0__2 q0 q1 q2))) then (1 : Int32) else (0 : Int32)) else (0 : Int32)) else (0 : Int32)))])) t
    refine XS.istore X200.here hx rfl (hb hby at_157) rfl (l' := #[.val (.long q0), .second, .val (.long q1), .second, .val (.long q2), .second, .val (.long q3), .second, .val (.int p4), .val (.ref b135), .val (.long (if (p4 &&& (1 : Int32)) = (0 : Int32) then q3 else (norm_a_x0__0 q0 q1))), .second, .val (.long (if (p4 &&& (2 : Int32)) = (0 : Int32) then q3 else (norm_a_x0__1 q0 q1))), .second, .val (.long (if (p4 &&& (4 : Int32)) = (0 : Int32) then q3 else (norm_a_x0__2 q0 q1 q2))), .second, .val (.ref b146), .val (.ref b157), .val (.ref b183), .val (.int (if (norm_a_x0__0 q0 q1) = (norm_a_x0__0 (if (p4 &&& (1 : Int32)) = (0 : Int32) then q3 else (norm_a_x0__0 q0 q1)) (if (p4 &&& (2 : Int32)) = (0 : Int32) then q3 else (norm_a_x0__1 q0 q1))) then (if (norm_a_x0__1 q0 q1) = (norm_a_x0__1 (if (p4 &&& (1 : Int32)) = (0 : Int32) then q3 else (norm_a_x0__0 q0 q1)) (if (p4 &&& (2 : Int32)) = (0 : Int32) then q3 else (norm_a_x0__1 q0 q1))) then (if (norm_a_x0__2 q0 q1 q2) = (norm_a_x0__2 (if (p4 &&& (1 : Int32)) = (0 : Int32) then q3 else (norm_a_x0__0 q0 q1)) (if (p4 &&& (2 : Int32)) = (0 : Int32) then q3 else (norm_a_x0__1 q0 q1)) (if (p4 &&& (4 : Int32)) = (0 : Int32) then q3 else (norm_a_x0__2 q0 q1 q2))) then (1 : Int32) else (0 : Int32)) else (0 : Int32)) else (0 : Int32)))]) rfl ?_
    show Steps p.tables e below (T200.setTop (mkF m 159 #[.val (.long q0), .second, .val (.long q1), .second, .val (.long q2), .second, .val (.long q3), .second, .val (.int p4), .val (.ref b135), .val (.long (if (p4 &&& (1 : Int32)) = (0 : Int32) then q3 else (norm_a_x0__0 q0 q1))), .second, .val (.long (if (p4 &&& (2 : Int32)) = (0 : Int32) then q3 else (norm_a_x0__1 q0 q1))), .second, .val (.long (if (p4 &&& (4 : Int32)) = (0 : Int32) then q3 else (norm_a_x0__2 q0 q1 q2))), .second, .val (.ref b146), .val (.ref b157), .val (.ref b183), .val (.int (if (norm_a_x0__0 q0 q1) = (norm_a_x0__0 (if (p4 &&& (1 : Int32)) = (0 : Int32) then q3 else (norm_a_x0__0 q0 q1)) (if (p4 &&& (2 : Int32)) = (0 : Int32) then q3 else (norm_a_x0__1 q0 q1))) then (if (norm_a_x0__1 q0 q1) = (norm_a_x0__1 (if (p4 &&& (1 : Int32)) = (0 : Int32) then q3 else (norm_a_x0__0 q0 q1)) (if (p4 &&& (2 : Int32)) = (0 : Int32) then q3 else (norm_a_x0__1 q0 q1))) then (if (norm_a_x0__2 q0 q1 q2) = (norm_a_x0__2 (if (p4 &&& (1 : Int32)) = (0 : Int32) then q3 else (norm_a_x0__0 q0 q1)) (if (p4 &&& (2 : Int32)) = (0 : Int32) then q3 else (norm_a_x0__1 q0 q1)) (if (p4 &&& (4 : Int32)) = (0 : Int32) then q3 else (norm_a_x0__2 q0 q1 q2))) then (1 : Int32) else (0 : Int32)) else (0 : Int32)) else (0 : Int32)))] [])) t
    refine XS.aload X200.here hx rfl (hb hby at_159) rfl rfl ?_
    show Steps p.tables e below (T200.setTop (mkF m 161 #[.val (.long q0), .second, .val (.long q1), .second, .val (.long q2), .second, .val (.long q3), .second, .val (.int p4), .val (.ref b135), .val (.long (if (p4 &&& (1 : Int32)) = (0 : Int32) then q3 else (norm_a_x0__0 q0 q1))), .second, .val (.long (if (p4 &&& (2 : Int32)) = (0 : Int32) then q3 else (norm_a_x0__1 q0 q1))), .second, .val (.long (if (p4 &&& (4 : Int32)) = (0 : Int32) then q3 else (norm_a_x0__2 q0 q1 q2))), .second, .val (.ref b146), .val (.ref b157), .val (.ref b183), .val (.int (if (norm_a_x0__0 q0 q1) = (norm_a_x0__0 (if (p4 &&& (1 : Int32)) = (0 : Int32) then q3 else (norm_a_x0__0 q0 q1)) (if (p4 &&& (2 : Int32)) = (0 : Int32) then q3 else (norm_a_x0__1 q0 q1))) then (if (norm_a_x0__1 q0 q1) = (norm_a_x0__1 (if (p4 &&& (1 : Int32)) = (0 : Int32) then q3 else (norm_a_x0__0 q0 q1)) (if (p4 &&& (2 : Int32)) = (0 : Int32) then q3 else (norm_a_x0__1 q0 q1))) then (if (norm_a_x0__2 q0 q1 q2) = (norm_a_x0__2 (if (p4 &&& (1 : Int32)) = (0 : Int32) then q3 else (norm_a_x0__0 q0 q1)) (if (p4 &&& (2 : Int32)) = (0 : Int32) then q3 else (norm_a_x0__1 q0 q1)) (if (p4 &&& (4 : Int32)) = (0 : Int32) then q3 else (norm_a_x0__2 q0 q1 q2))) then (1 : Int32) else (0 : Int32)) else (0 : Int32)) else (0 : Int32)))] [(.ref b157)])) t
    refine XS.aload X200.here hx rfl (hb hby at_161) rfl rfl ?_
    exact k
  obtain ⟨cq220, kq220, qa220, qb220, qc220⟩ := isOf hZ rfl f212
  obtain ⟨_, _, ⟨T220, L220, kk220, nn220⟩, -, X220, ⟨Lc220, hQ220, l220, y220, z220⟩, st220⟩ := X200.virtualBack hx (y := (⟨"com/example/sure_sequence/suresequence/RegionRange", "equals", "(Ljava/lang/Object;)Z"⟩ : MethodName)) (z := (⟨"com/example/sure_sequence/suresequence/RegionRange", "equals", "(Ljava/lang/Object;)Z"⟩ : MethodName)) hown (mvT hZ (hw _ (List.mem_of_getElem? (i := 28) rfl))) (mvT hZ (hw _ (List.mem_of_getElem? (i := 29) rfl))) (notFace_of_selects (args := #[]) (mvT hZ (hw _ (List.mem_of_getElem? (i := 31) rfl)))) (mvT hZ (hw _ (List.mem_of_getElem? (i := 31) rfl))) (mvT hZ (hw _ (List.mem_of_getElem? (i := 30) rfl))) (by decide) (backOf (W := 0) (eqRR l Z a0 hw [] b157 b183 (norm_a_x0__0 q0 q1) (norm_a_x0__0 (if (p4 &&& (1 : Int32)) = (0 : Int32) then q3 else (norm_a_x0__0 q0 q1)) (if (p4 &&& (2 : Int32)) = (0 : Int32) then q3 else (norm_a_x0__1 q0 q1))) (norm_a_x0__1 q0 q1) (norm_a_x0__1 (if (p4 &&& (1 : Int32)) = (0 : Int32) then q3 else (norm_a_x0__0 q0 q1)) (if (p4 &&& (2 : Int32)) = (0 : Int32) then q3 else (norm_a_x0__1 q0 q1))) (norm_a_x0__2 q0 q1 q2) (norm_a_x0__2 (if (p4 &&& (1 : Int32)) = (0 : Int32) then q3 else (norm_a_x0__0 q0 q1)) (if (p4 &&& (2 : Int32)) = (0 : Int32) then q3 else (norm_a_x0__1 q0 q1)) (if (p4 &&& (4 : Int32)) = (0 : Int32) then q3 else (norm_a_x0__2 q0 q1 q2))) T200.heap n0 Z217 p203 f213 p204 f214 p205 f215 p206) hZ (hw _ (List.mem_of_getElem? (i := 32) rfl)) (hw _ (List.mem_of_getElem? (i := 15) rfl)) (by decide) (by decide)) qa220 qc220 (g := (mkF m 163 #[.val (.long q0), .second, .val (.long q1), .second, .val (.long q2), .second, .val (.long q3), .second, .val (.int p4), .val (.ref b135), .val (.long (if (p4 &&& (1 : Int32)) = (0 : Int32) then q3 else (norm_a_x0__0 q0 q1))), .second, .val (.long (if (p4 &&& (2 : Int32)) = (0 : Int32) then q3 else (norm_a_x0__1 q0 q1))), .second, .val (.long (if (p4 &&& (4 : Int32)) = (0 : Int32) then q3 else (norm_a_x0__2 q0 q1 q2))), .second, .val (.ref b146), .val (.ref b157), .val (.ref b183), .val (.int (if (norm_a_x0__0 q0 q1) = (norm_a_x0__0 (if (p4 &&& (1 : Int32)) = (0 : Int32) then q3 else (norm_a_x0__0 q0 q1)) (if (p4 &&& (2 : Int32)) = (0 : Int32) then q3 else (norm_a_x0__1 q0 q1))) then (if (norm_a_x0__1 q0 q1) = (norm_a_x0__1 (if (p4 &&& (1 : Int32)) = (0 : Int32) then q3 else (norm_a_x0__0 q0 q1)) (if (p4 &&& (2 : Int32)) = (0 : Int32) then q3 else (norm_a_x0__1 q0 q1))) then (if (norm_a_x0__2 q0 q1 q2) = (norm_a_x0__2 (if (p4 &&& (1 : Int32)) = (0 : Int32) then q3 else (norm_a_x0__0 q0 q1)) (if (p4 &&& (2 : Int32)) = (0 : Int32) then q3 else (norm_a_x0__1 q0 q1)) (if (p4 &&& (4 : Int32)) = (0 : Int32) then q3 else (norm_a_x0__2 q0 q1 q2))) then (1 : Int32) else (0 : Int32)) else (0 : Int32)) else (0 : Int32)))] [(.ref b183), (.ref b157)])) rfl (by rw [hml]; rfl) (Steps.refl _) (argsL := [(.ref b183)]) (rest := []) (lenOf pd_163 rfl) rfl (by show 2 * 0 + _ ≤ _; exact Nat.le_of_eq rfl) (hb hby at_163) (fun _ _ => ⟨rfl, rfl, (by decide : 4 + 0 ≤ _), (by decide : 12 + 0 ≤ _)⟩)
  dsimp only [Pt.U, Pt.locs, Pt.cells, Pt.slots] at X220 l220 y220 z220 st220 hQ220
  subst l220 y220 z220
  obtain ⟨rfl, N221, e220⟩ := hQ220
  have N223 := Fr.app N207 N221
  refine own_goT st220 ?_
  refine own_go (S' := T220.setTop (mkF m 168 #[.val (.long q0), .second, .val (.long q1), .second, .val (.long q2), .second, .val (.long q3), .second, .val (.int p4), .val (.ref b135), .val (.long (if (p4 &&& (1 : Int32)) = (0 : Int32) then q3 else (norm_a_x0__0 q0 q1))), .second, .val (.long (if (p4 &&& (2 : Int32)) = (0 : Int32) then q3 else (norm_a_x0__1 q0 q1))), .second, .val (.long (if (p4 &&& (4 : Int32)) = (0 : Int32) then q3 else (norm_a_x0__2 q0 q1 q2))), .second, .val (.ref b146), .val (.ref b157), .val (.ref b183), .val (.int (if (norm_a_x0__0 q0 q1) = (norm_a_x0__0 (if (p4 &&& (1 : Int32)) = (0 : Int32) then q3 else (norm_a_x0__0 q0 q1)) (if (p4 &&& (2 : Int32)) = (0 : Int32) then q3 else (norm_a_x0__1 q0 q1))) then (if (norm_a_x0__1 q0 q1) = (norm_a_x0__1 (if (p4 &&& (1 : Int32)) = (0 : Int32) then q3 else (norm_a_x0__0 q0 q1)) (if (p4 &&& (2 : Int32)) = (0 : Int32) then q3 else (norm_a_x0__1 q0 q1))) then (if (norm_a_x0__2 q0 q1 q2) = (norm_a_x0__2 (if (p4 &&& (1 : Int32)) = (0 : Int32) then q3 else (norm_a_x0__0 q0 q1)) (if (p4 &&& (2 : Int32)) = (0 : Int32) then q3 else (norm_a_x0__1 q0 q1)) (if (p4 &&& (4 : Int32)) = (0 : Int32) then q3 else (norm_a_x0__2 q0 q1 q2))) then (1 : Int32) else (0 : Int32)) else (0 : Int32)) else (0 : Int32)))] [(.int (if (norm_a_x0__0 q0 q1) = (norm_a_x0__0 (if (p4 &&& (1 : Int32)) = (0 : Int32) then q3 else (norm_a_x0__0 q0 q1)) (if (p4 &&& (2 : Int32)) = (0 : Int32) then q3 else (norm_a_x0__1 q0 q1))) then (if (norm_a_x0__1 q0 q1) = (norm_a_x0__1 (if (p4 &&& (1 : Int32)) = (0 : Int32) then q3 else (norm_a_x0__0 q0 q1)) (if (p4 &&& (2 : Int32)) = (0 : Int32) then q3 else (norm_a_x0__1 q0 q1))) then (if (norm_a_x0__2 q0 q1 q2) = (norm_a_x0__2 (if (p4 &&& (1 : Int32)) = (0 : Int32) then q3 else (norm_a_x0__0 q0 q1)) (if (p4 &&& (2 : Int32)) = (0 : Int32) then q3 else (norm_a_x0__1 q0 q1)) (if (p4 &&& (4 : Int32)) = (0 : Int32) then q3 else (norm_a_x0__2 q0 q1 q2))) then (1 : Int32) else (0 : Int32)) else (0 : Int32)) else (0 : Int32))), (.int (eqRR_r (norm_a_x0__0 q0 q1) (norm_a_x0__0 (if (p4 &&& (1 : Int32)) = (0 : Int32) then q3 else (norm_a_x0__0 q0 q1)) (if (p4 &&& (2 : Int32)) = (0 : Int32) then q3 else (norm_a_x0__1 q0 q1))) (norm_a_x0__1 q0 q1) (norm_a_x0__1 (if (p4 &&& (1 : Int32)) = (0 : Int32) then q3 else (norm_a_x0__0 q0 q1)) (if (p4 &&& (2 : Int32)) = (0 : Int32) then q3 else (norm_a_x0__1 q0 q1))) (norm_a_x0__2 q0 q1 q2) (norm_a_x0__2 (if (p4 &&& (1 : Int32)) = (0 : Int32) then q3 else (norm_a_x0__0 q0 q1)) (if (p4 &&& (2 : Int32)) = (0 : Int32) then q3 else (norm_a_x0__1 q0 q1)) (if (p4 &&& (4 : Int32)) = (0 : Int32) then q3 else (norm_a_x0__2 q0 q1 q2)))))])) (fun t k => ?_) ?_
  · show Steps p.tables e below (T220.setTop (mkF m 166 #[.val (.long q0), .second, .val (.long q1), .second, .val (.long q2), .second, .val (.long q3), .second, .val (.int p4), .val (.ref b135), .val (.long (if (p4 &&& (1 : Int32)) = (0 : Int32) then q3 else (norm_a_x0__0 q0 q1))), .second, .val (.long (if (p4 &&& (2 : Int32)) = (0 : Int32) then q3 else (norm_a_x0__1 q0 q1))), .second, .val (.long (if (p4 &&& (4 : Int32)) = (0 : Int32) then q3 else (norm_a_x0__2 q0 q1 q2))), .second, .val (.ref b146), .val (.ref b157), .val (.ref b183), .val (.int (if (norm_a_x0__0 q0 q1) = (norm_a_x0__0 (if (p4 &&& (1 : Int32)) = (0 : Int32) then q3 else (norm_a_x0__0 q0 q1)) (if (p4 &&& (2 : Int32)) = (0 : Int32) then q3 else (norm_a_x0__1 q0 q1))) then (if (norm_a_x0__1 q0 q1) = (norm_a_x0__1 (if (p4 &&& (1 : Int32)) = (0 : Int32) then q3 else (norm_a_x0__0 q0 q1)) (if (p4 &&& (2 : Int32)) = (0 : Int32) then q3 else (norm_a_x0__1 q0 q1))) then (if (norm_a_x0__2 q0 q1 q2) = (norm_a_x0__2 (if (p4 &&& (1 : Int32)) = (0 : Int32) then q3 else (norm_a_x0__0 q0 q1)) (if (p4 &&& (2 : Int32)) = (0 : Int32) then q3 else (norm_a_x0__1 q0 q1)) (if (p4 &&& (4 : Int32)) = (0 : Int32) then q3 else (norm_a_x0__2 q0 q1 q2))) then (1 : Int32) else (0 : Int32)) else (0 : Int32)) else (0 : Int32)))] [(.int (eqRR_r (norm_a_x0__0 q0 q1) (norm_a_x0__0 (if (p4 &&& (1 : Int32)) = (0 : Int32) then q3 else (norm_a_x0__0 q0 q1)) (if (p4 &&& (2 : Int32)) = (0 : Int32) then q3 else (norm_a_x0__1 q0 q1))) (norm_a_x0__1 q0 q1) (norm_a_x0__1 (if (p4 &&& (1 : Int32)) = (0 : Int32) then q3 else (norm_a_x0__0 q0 q1)) (if (p4 &&& (2 : Int32)) = (0 : Int32) then q3 else (norm_a_x0__1 q0 q1))) (norm_a_x0__2 q0 q1 q2) (norm_a_x0__2 (if (p4 &&& (1 : Int32)) = (0 : Int32) then q3 else (norm_a_x0__0 q0 q1)) (if (p4 &&& (2 : Int32)) = (0 : Int32) then q3 else (norm_a_x0__1 q0 q1)) (if (p4 &&& (4 : Int32)) = (0 : Int32) then q3 else (norm_a_x0__2 q0 q1 q2)))))])) t
    refine XS.iload X220.here hx rfl (hb hby at_166) rfl ?_
    exact k
  by_cases hc168 : (eqRR_r (norm_a_x0__0 q0 q1) (norm_a_x0__0 (if (p4 &&& (1 : Int32)) = (0 : Int32) then q3 else (norm_a_x0__0 q0 q1)) (if (p4 &&& (2 : Int32)) = (0 : Int32) then q3 else (norm_a_x0__1 q0 q1))) (norm_a_x0__1 q0 q1) (norm_a_x0__1 (if (p4 &&& (1 : Int32)) = (0 : Int32) then q3 else (norm_a_x0__0 q0 q1)) (if (p4 &&& (2 : Int32)) = (0 : Int32) then q3 else (norm_a_x0__1 q0 q1))) (norm_a_x0__2 q0 q1 q2) (norm_a_x0__2 (if (p4 &&& (1 : Int32)) = (0 : Int32) then q3 else (norm_a_x0__0 q0 q1)) (if (p4 &&& (2 : Int32)) = (0 : Int32) then q3 else (norm_a_x0__1 q0 q1)) (if (p4 &&& (4 : Int32)) = (0 : Int32) then q3 else (norm_a_x0__2 q0 q1 q2)))) = (if (norm_a_x0__0 q0 q1) = (norm_a_x0__0 (if (p4 &&& (1 : Int32)) = (0 : Int32) then q3 else (norm_a_x0__0 q0 q1)) (if (p4 &&& (2 : Int32)) = (0 : Int32) then q3 else (norm_a_x0__1 q0 q1))) then (if (norm_a_x0__1 q0 q1) = (norm_a_x0__1 (if (p4 &&& (1 : Int32)) = (0 : Int32) then q3 else (norm_a_x0__0 q0 q1)) (if (p4 &&& (2 : Int32)) = (0 : Int32) then q3 else (norm_a_x0__1 q0 q1))) then (if (norm_a_x0__2 q0 q1 q2) = (norm_a_x0__2 (if (p4 &&& (1 : Int32)) = (0 : Int32) then q3 else (norm_a_x0__0 q0 q1)) (if (p4 &&& (2 : Int32)) = (0 : Int32) then q3 else (norm_a_x0__1 q0 q1)) (if (p4 &&& (4 : Int32)) = (0 : Int32) then q3 else (norm_a_x0__2 q0 q1 q2))) then (1 : Int32) else (0 : Int32)) else (0 : Int32)) else (0 : Int32))
  · skip
    refine own_go (S' := T220.setTop (mkF m 175 #[.val (.long q0), .second, .val (.long q1), .second, .val (.long q2), .second, .val (.long q3), .second, .val (.int p4), .val (.ref b135), .val (.long (if (p4 &&& (1 : Int32)) = (0 : Int32) then q3 else (norm_a_x0__0 q0 q1))), .second, .val (.long (if (p4 &&& (2 : Int32)) = (0 : Int32) then q3 else (norm_a_x0__1 q0 q1))), .second, .val (.long (if (p4 &&& (4 : Int32)) = (0 : Int32) then q3 else (norm_a_x0__2 q0 q1 q2))), .second, .val (.ref b146), .val (.ref b157), .val (.ref b183), .val (.int (if (norm_a_x0__0 q0 q1) = (norm_a_x0__0 (if (p4 &&& (1 : Int32)) = (0 : Int32) then q3 else (norm_a_x0__0 q0 q1)) (if (p4 &&& (2 : Int32)) = (0 : Int32) then q3 else (norm_a_x0__1 q0 q1))) then (if (norm_a_x0__1 q0 q1) = (norm_a_x0__1 (if (p4 &&& (1 : Int32)) = (0 : Int32) then q3 else (norm_a_x0__0 q0 q1)) (if (p4 &&& (2 : Int32)) = (0 : Int32) then q3 else (norm_a_x0__1 q0 q1))) then (if (norm_a_x0__2 q0 q1 q2) = (norm_a_x0__2 (if (p4 &&& (1 : Int32)) = (0 : Int32) then q3 else (norm_a_x0__0 q0 q1)) (if (p4 &&& (2 : Int32)) = (0 : Int32) then q3 else (norm_a_x0__1 q0 q1)) (if (p4 &&& (4 : Int32)) = (0 : Int32) then q3 else (norm_a_x0__2 q0 q1 q2))) then (1 : Int32) else (0 : Int32)) else (0 : Int32)) else (0 : Int32)))] [(.ref b157), (.ref b183)])) (fun t k => ?_) ?_
    · show Steps p.tables e below (T220.setTop (mkF m 168 #[.val (.long q0), .second, .val (.long q1), .second, .val (.long q2), .second, .val (.long q3), .second, .val (.int p4), .val (.ref b135), .val (.long (if (p4 &&& (1 : Int32)) = (0 : Int32) then q3 else (norm_a_x0__0 q0 q1))), .second, .val (.long (if (p4 &&& (2 : Int32)) = (0 : Int32) then q3 else (norm_a_x0__1 q0 q1))), .second, .val (.long (if (p4 &&& (4 : Int32)) = (0 : Int32) then q3 else (norm_a_x0__2 q0 q1 q2))), .second, .val (.ref b146), .val (.ref b157), .val (.ref b183), .val (.int (if (norm_a_x0__0 q0 q1) = (norm_a_x0__0 (if (p4 &&& (1 : Int32)) = (0 : Int32) then q3 else (norm_a_x0__0 q0 q1)) (if (p4 &&& (2 : Int32)) = (0 : Int32) then q3 else (norm_a_x0__1 q0 q1))) then (if (norm_a_x0__1 q0 q1) = (norm_a_x0__1 (if (p4 &&& (1 : Int32)) = (0 : Int32) then q3 else (norm_a_x0__0 q0 q1)) (if (p4 &&& (2 : Int32)) = (0 : Int32) then q3 else (norm_a_x0__1 q0 q1))) then (if (norm_a_x0__2 q0 q1 q2) = (norm_a_x0__2 (if (p4 &&& (1 : Int32)) = (0 : Int32) then q3 else (norm_a_x0__0 q0 q1)) (if (p4 &&& (2 : Int32)) = (0 : Int32) then q3 else (norm_a_x0__1 q0 q1)) (if (p4 &&& (4 : Int32)) = (0 : Int32) then q3 else (norm_a_x0__2 q0 q1 q2))) then (1 : Int32) else (0 : Int32)) else (0 : Int32)) else (0 : Int32)))] [(.int (if (norm_a_x0__0 q0 q1) = (norm_a_x0__0 (if (p4 &&& (1 : Int32)) = (0 : Int32) then q3 else (norm_a_x0__0 q0 q1)) (if (p4 &&& (2 : Int32)) = (0 : Int32) then q3 else (norm_a_x0__1 q0 q1))) then (if (norm_a_x0__1 q0 q1) = (norm_a_x0__1 (if (p4 &&& (1 : Int32)) = (0 : Int32) then q3 else (norm_a_x0__0 q0 q1)) (if (p4 &&& (2 : Int32)) = (0 : Int32) then q3 else (norm_a_x0__1 q0 q1))) then (if (norm_a_x0__2 q0 q1 q2) = (norm_a_x0__2 (if (p4 &&& (1 : Int32)) = (0 : Int32) then q3 else (norm_a_x0__0 q0 q1)) (if (p4 &&& (2 : Int32)) = (0 : Int32) then q3 else (norm_a_x0__1 q0 q1)) (if (p4 &&& (4 : Int32)) = (0 : Int32) then q3 else (norm_a_x0__2 q0 q1 q2))) then (1 : Int32) else (0 : Int32)) else (0 : Int32)) else (0 : Int32))), (.int (eqRR_r (norm_a_x0__0 q0 q1) (norm_a_x0__0 (if (p4 &&& (1 : Int32)) = (0 : Int32) then q3 else (norm_a_x0__0 q0 q1)) (if (p4 &&& (2 : Int32)) = (0 : Int32) then q3 else (norm_a_x0__1 q0 q1))) (norm_a_x0__1 q0 q1) (norm_a_x0__1 (if (p4 &&& (1 : Int32)) = (0 : Int32) then q3 else (norm_a_x0__0 q0 q1)) (if (p4 &&& (2 : Int32)) = (0 : Int32) then q3 else (norm_a_x0__1 q0 q1))) (norm_a_x0__2 q0 q1 q2) (norm_a_x0__2 (if (p4 &&& (1 : Int32)) = (0 : Int32) then q3 else (norm_a_x0__0 q0 q1)) (if (p4 &&& (2 : Int32)) = (0 : Int32) then q3 else (norm_a_x0__1 q0 q1)) (if (p4 &&& (4 : Int32)) = (0 : Int32) then q3 else (norm_a_x0__2 q0 q1 q2)))))])) t
      refine XS.icmpNo X220.here hx rfl (hb hby at_168) rfl (teq hc168).2 ?_
      show Steps p.tables e below (T220.setTop (mkF m 171 #[.val (.long q0), .second, .val (.long q1), .second, .val (.long q2), .second, .val (.long q3), .second, .val (.int p4), .val (.ref b135), .val (.long (if (p4 &&& (1 : Int32)) = (0 : Int32) then q3 else (norm_a_x0__0 q0 q1))), .second, .val (.long (if (p4 &&& (2 : Int32)) = (0 : Int32) then q3 else (norm_a_x0__1 q0 q1))), .second, .val (.long (if (p4 &&& (4 : Int32)) = (0 : Int32) then q3 else (norm_a_x0__2 q0 q1 q2))), .second, .val (.ref b146), .val (.ref b157), .val (.ref b183), .val (.int (if (norm_a_x0__0 q0 q1) = (norm_a_x0__0 (if (p4 &&& (1 : Int32)) = (0 : Int32) then q3 else (norm_a_x0__0 q0 q1)) (if (p4 &&& (2 : Int32)) = (0 : Int32) then q3 else (norm_a_x0__1 q0 q1))) then (if (norm_a_x0__1 q0 q1) = (norm_a_x0__1 (if (p4 &&& (1 : Int32)) = (0 : Int32) then q3 else (norm_a_x0__0 q0 q1)) (if (p4 &&& (2 : Int32)) = (0 : Int32) then q3 else (norm_a_x0__1 q0 q1))) then (if (norm_a_x0__2 q0 q1 q2) = (norm_a_x0__2 (if (p4 &&& (1 : Int32)) = (0 : Int32) then q3 else (norm_a_x0__0 q0 q1)) (if (p4 &&& (2 : Int32)) = (0 : Int32) then q3 else (norm_a_x0__1 q0 q1)) (if (p4 &&& (4 : Int32)) = (0 : Int32) then q3 else (norm_a_x0__2 q0 q1 q2))) then (1 : Int32) else (0 : Int32)) else (0 : Int32)) else (0 : Int32)))] [])) t
      refine XS.aload X220.here hx rfl (hb hby at_171) rfl rfl ?_
      show Steps p.tables e below (T220.setTop (mkF m 173 #[.val (.long q0), .second, .val (.long q1), .second, .val (.long q2), .second, .val (.long q3), .second, .val (.int p4), .val (.ref b135), .val (.long (if (p4 &&& (1 : Int32)) = (0 : Int32) then q3 else (norm_a_x0__0 q0 q1))), .second, .val (.long (if (p4 &&& (2 : Int32)) = (0 : Int32) then q3 else (norm_a_x0__1 q0 q1))), .second, .val (.long (if (p4 &&& (4 : Int32)) = (0 : Int32) then q3 else (norm_a_x0__2 q0 q1 q2))), .second, .val (.ref b146), .val (.ref b157), .val (.ref b183), .val (.int (if (norm_a_x0__0 q0 q1) = (norm_a_x0__0 (if (p4 &&& (1 : Int32)) = (0 : Int32) then q3 else (norm_a_x0__0 q0 q1)) (if (p4 &&& (2 : Int32)) = (0 : Int32) then q3 else (norm_a_x0__1 q0 q1))) then (if (norm_a_x0__1 q0 q1) = (norm_a_x0__1 (if (p4 &&& (1 : Int32)) = (0 : Int32) then q3 else (norm_a_x0__0 q0 q1)) (if (p4 &&& (2 : Int32)) = (0 : Int32) then q3 else (norm_a_x0__1 q0 q1))) then (if (norm_a_x0__2 q0 q1 q2) = (norm_a_x0__2 (if (p4 &&& (1 : Int32)) = (0 : Int32) then q3 else (norm_a_x0__0 q0 q1)) (if (p4 &&& (2 : Int32)) = (0 : Int32) then q3 else (norm_a_x0__1 q0 q1)) (if (p4 &&& (4 : Int32)) = (0 : Int32) then q3 else (norm_a_x0__2 q0 q1 q2))) then (1 : Int32) else (0 : Int32)) else (0 : Int32)) else (0 : Int32)))] [(.ref b183)])) t
      refine XS.aload X220.here hx rfl (hb hby at_173) rfl rfl ?_
      exact k
    obtain ⟨cq224, kq224, qa224, qb224, qc224⟩ := isOf hZ e220 p203
    obtain ⟨_, _, ⟨T224, L224, kk224, nn224⟩, -, X224, ⟨Lc224, hQ224, l224, y224, z224⟩, st224⟩ := X220.virtualBack hx (y := (⟨"com/example/sure_sequence/suresequence/RegionRange", "equals", "(Ljava/lang/Object;)Z"⟩ : MethodName)) (z := (⟨"com/example/sure_sequence/suresequence/RegionRange", "equals", "(Ljava/lang/Object;)Z"⟩ : MethodName)) hown (mvT hZ (hw _ (List.mem_of_getElem? (i := 28) rfl))) (mvT hZ (hw _ (List.mem_of_getElem? (i := 29) rfl))) (notFace_of_selects (args := #[]) (mvT hZ (hw _ (List.mem_of_getElem? (i := 31) rfl)))) (mvT hZ (hw _ (List.mem_of_getElem? (i := 31) rfl))) (mvT hZ (hw _ (List.mem_of_getElem? (i := 30) rfl))) (by decide) (backOf (W := 0) (eqRR l Z a0 hw [] b183 b157 (norm_a_x0__0 (if (p4 &&& (1 : Int32)) = (0 : Int32) then q3 else (norm_a_x0__0 q0 q1)) (if (p4 &&& (2 : Int32)) = (0 : Int32) then q3 else (norm_a_x0__1 q0 q1))) (norm_a_x0__0 q0 q1) (norm_a_x0__1 (if (p4 &&& (1 : Int32)) = (0 : Int32) then q3 else (norm_a_x0__0 q0 q1)) (if (p4 &&& (2 : Int32)) = (0 : Int32) then q3 else (norm_a_x0__1 q0 q1))) (norm_a_x0__1 q0 q1) (norm_a_x0__2 (if (p4 &&& (1 : Int32)) = (0 : Int32) then q3 else (norm_a_x0__0 q0 q1)) (if (p4 &&& (2 : Int32)) = (0 : Int32) then q3 else (norm_a_x0__1 q0 q1)) (if (p4 &&& (4 : Int32)) = (0 : Int32) then q3 else (norm_a_x0__2 q0 q1 q2))) (norm_a_x0__2 q0 q1 q2) T200.heap n0 Z217 f212 p204 f213 p205 f214 p206 f215) hZ (hw _ (List.mem_of_getElem? (i := 32) rfl)) (hw _ (List.mem_of_getElem? (i := 15) rfl)) (by decide) (by decide)) qa224 qc224 (g := (mkF m 175 #[.val (.long q0), .second, .val (.long q1), .second, .val (.long q2), .second, .val (.long q3), .second, .val (.int p4), .val (.ref b135), .val (.long (if (p4 &&& (1 : Int32)) = (0 : Int32) then q3 else (norm_a_x0__0 q0 q1))), .second, .val (.long (if (p4 &&& (2 : Int32)) = (0 : Int32) then q3 else (norm_a_x0__1 q0 q1))), .second, .val (.long (if (p4 &&& (4 : Int32)) = (0 : Int32) then q3 else (norm_a_x0__2 q0 q1 q2))), .second, .val (.ref b146), .val (.ref b157), .val (.ref b183), .val (.int (if (norm_a_x0__0 q0 q1) = (norm_a_x0__0 (if (p4 &&& (1 : Int32)) = (0 : Int32) then q3 else (norm_a_x0__0 q0 q1)) (if (p4 &&& (2 : Int32)) = (0 : Int32) then q3 else (norm_a_x0__1 q0 q1))) then (if (norm_a_x0__1 q0 q1) = (norm_a_x0__1 (if (p4 &&& (1 : Int32)) = (0 : Int32) then q3 else (norm_a_x0__0 q0 q1)) (if (p4 &&& (2 : Int32)) = (0 : Int32) then q3 else (norm_a_x0__1 q0 q1))) then (if (norm_a_x0__2 q0 q1 q2) = (norm_a_x0__2 (if (p4 &&& (1 : Int32)) = (0 : Int32) then q3 else (norm_a_x0__0 q0 q1)) (if (p4 &&& (2 : Int32)) = (0 : Int32) then q3 else (norm_a_x0__1 q0 q1)) (if (p4 &&& (4 : Int32)) = (0 : Int32) then q3 else (norm_a_x0__2 q0 q1 q2))) then (1 : Int32) else (0 : Int32)) else (0 : Int32)) else (0 : Int32)))] [(.ref b157), (.ref b183)])) rfl (by rw [hml]; rfl) (Steps.refl _) (argsL := [(.ref b157)]) (rest := []) (lenOf pd_163 rfl) rfl (by show 2 * 0 + _ ≤ _; exact Nat.le_of_eq rfl) (hb hby at_175) (fun _ _ => ⟨rfl, e220, (by decide : 4 + 0 ≤ _), (by decide : 12 + 0 ≤ _)⟩)
    dsimp only [Pt.U, Pt.locs, Pt.cells, Pt.slots] at X224 l224 y224 z224 st224 hQ224
    subst l224 y224 z224
    obtain ⟨rfl, N225, e224⟩ := hQ224
    have N227 := Fr.app N223 N225
    refine own_goT st224 ?_
    refine own_go (S' := T224.setTop (mkF m 180 #[.val (.long q0), .second, .val (.long q1), .second, .val (.long q2), .second, .val (.long q3), .second, .val (.int p4), .val (.ref b135), .val (.long (if (p4 &&& (1 : Int32)) = (0 : Int32) then q3 else (norm_a_x0__0 q0 q1))), .second, .val (.long (if (p4 &&& (2 : Int32)) = (0 : Int32) then q3 else (norm_a_x0__1 q0 q1))), .second, .val (.long (if (p4 &&& (4 : Int32)) = (0 : Int32) then q3 else (norm_a_x0__2 q0 q1 q2))), .second, .val (.ref b146), .val (.ref b157), .val (.ref b183), .val (.int (if (norm_a_x0__0 q0 q1) = (norm_a_x0__0 (if (p4 &&& (1 : Int32)) = (0 : Int32) then q3 else (norm_a_x0__0 q0 q1)) (if (p4 &&& (2 : Int32)) = (0 : Int32) then q3 else (norm_a_x0__1 q0 q1))) then (if (norm_a_x0__1 q0 q1) = (norm_a_x0__1 (if (p4 &&& (1 : Int32)) = (0 : Int32) then q3 else (norm_a_x0__0 q0 q1)) (if (p4 &&& (2 : Int32)) = (0 : Int32) then q3 else (norm_a_x0__1 q0 q1))) then (if (norm_a_x0__2 q0 q1 q2) = (norm_a_x0__2 (if (p4 &&& (1 : Int32)) = (0 : Int32) then q3 else (norm_a_x0__0 q0 q1)) (if (p4 &&& (2 : Int32)) = (0 : Int32) then q3 else (norm_a_x0__1 q0 q1)) (if (p4 &&& (4 : Int32)) = (0 : Int32) then q3 else (norm_a_x0__2 q0 q1 q2))) then (1 : Int32) else (0 : Int32)) else (0 : Int32)) else (0 : Int32)))] [(.int (if (norm_a_x0__0 q0 q1) = (norm_a_x0__0 (if (p4 &&& (1 : Int32)) = (0 : Int32) then q3 else (norm_a_x0__0 q0 q1)) (if (p4 &&& (2 : Int32)) = (0 : Int32) then q3 else (norm_a_x0__1 q0 q1))) then (if (norm_a_x0__1 q0 q1) = (norm_a_x0__1 (if (p4 &&& (1 : Int32)) = (0 : Int32) then q3 else (norm_a_x0__0 q0 q1)) (if (p4 &&& (2 : Int32)) = (0 : Int32) then q3 else (norm_a_x0__1 q0 q1))) then (if (norm_a_x0__2 q0 q1 q2) = (norm_a_x0__2 (if (p4 &&& (1 : Int32)) = (0 : Int32) then q3 else (norm_a_x0__0 q0 q1)) (if (p4 &&& (2 : Int32)) = (0 : Int32) then q3 else (norm_a_x0__1 q0 q1)) (if (p4 &&& (4 : Int32)) = (0 : Int32) then q3 else (norm_a_x0__2 q0 q1 q2))) then (1 : Int32) else (0 : Int32)) else (0 : Int32)) else (0 : Int32))), (.int (eqRR_r (norm_a_x0__0 (if (p4 &&& (1 : Int32)) = (0 : Int32) then q3 else (norm_a_x0__0 q0 q1)) (if (p4 &&& (2 : Int32)) = (0 : Int32) then q3 else (norm_a_x0__1 q0 q1))) (norm_a_x0__0 q0 q1) (norm_a_x0__1 (if (p4 &&& (1 : Int32)) = (0 : Int32) then q3 else (norm_a_x0__0 q0 q1)) (if (p4 &&& (2 : Int32)) = (0 : Int32) then q3 else (norm_a_x0__1 q0 q1))) (norm_a_x0__1 q0 q1) (norm_a_x0__2 (if (p4 &&& (1 : Int32)) = (0 : Int32) then q3 else (norm_a_x0__0 q0 q1)) (if (p4 &&& (2 : Int32)) = (0 : Int32) then q3 else (norm_a_x0__1 q0 q1)) (if (p4 &&& (4 : Int32)) = (0 : Int32) then q3 else (norm_a_x0__2 q0 q1 q2))) (norm_a_x0__2 q0 q1 q2)))])) (fun t k => ?_) ?_
    · show Steps p.tables e below (T224.setTop (mkF m 178 #[.val (.long q0), .second, .val (.long q1), .second, .val (.long q2), .second, .val (.long q3), .second, .val (.int p4), .val (.ref b135), .val (.long (if (p4 &&& (1 : Int32)) = (0 : Int32) then q3 else (norm_a_x0__0 q0 q1))), .second, .val (.long (if (p4 &&& (2 : Int32)) = (0 : Int32) then q3 else (norm_a_x0__1 q0 q1))), .second, .val (.long (if (p4 &&& (4 : Int32)) = (0 : Int32) then q3 else (norm_a_x0__2 q0 q1 q2))), .second, .val (.ref b146), .val (.ref b157), .val (.ref b183), .val (.int (if (norm_a_x0__0 q0 q1) = (norm_a_x0__0 (if (p4 &&& (1 : Int32)) = (0 : Int32) then q3 else (norm_a_x0__0 q0 q1)) (if (p4 &&& (2 : Int32)) = (0 : Int32) then q3 else (norm_a_x0__1 q0 q1))) then (if (norm_a_x0__1 q0 q1) = (norm_a_x0__1 (if (p4 &&& (1 : Int32)) = (0 : Int32) then q3 else (norm_a_x0__0 q0 q1)) (if (p4 &&& (2 : Int32)) = (0 : Int32) then q3 else (norm_a_x0__1 q0 q1))) then (if (norm_a_x0__2 q0 q1 q2) = (norm_a_x0__2 (if (p4 &&& (1 : Int32)) = (0 : Int32) then q3 else (norm_a_x0__0 q0 q1)) (if (p4 &&& (2 : Int32)) = (0 : Int32) then q3 else (norm_a_x0__1 q0 q1)) (if (p4 &&& (4 : Int32)) = (0 : Int32) then q3 else (norm_a_x0__2 q0 q1 q2))) then (1 : Int32) else (0 : Int32)) else (0 : Int32)) else (0 : Int32)))] [(.int (eqRR_r (norm_a_x0__0 (if (p4 &&& (1 : Int32)) = (0 : Int32) then q3 else (norm_a_x0__0 q0 q1)) (if (p4 &&& (2 : Int32)) = (0 : Int32) then q3 else (norm_a_x0__1 q0 q1))) (norm_a_x0__0 q0 q1) (norm_a_x0__1 (if (p4 &&& (1 : Int32)) = (0 : Int32) then q3 else (norm_a_x0__0 q0 q1)) (if (p4 &&& (2 : Int32)) = (0 : Int32) then q3 else (norm_a_x0__1 q0 q1))) (norm_a_x0__1 q0 q1) (norm_a_x0__2 (if (p4 &&& (1 : Int32)) = (0 : Int32) then q3 else (norm_a_x0__0 q0 q1)) (if (p4 &&& (2 : Int32)) = (0 : Int32) then q3 else (norm_a_x0__1 q0 q1)) (if (p4 &&& (4 : Int32)) = (0 : Int32) then q3 else (norm_a_x0__2 q0 q1 q2))) (norm_a_x0__2 q0 q1 q2)))])) t
      refine XS.iload X224.here hx rfl (hb hby at_178) rfl ?_
      exact k
    by_cases hc180 : (eqRR_r (norm_a_x0__0 (if (p4 &&& (1 : Int32)) = (0 : Int32) then q3 else (norm_a_x0__0 q0 q1)) (if (p4 &&& (2 : Int32)) = (0 : Int32) then q3 else (norm_a_x0__1 q0 q1))) (norm_a_x0__0 q0 q1) (norm_a_x0__1 (if (p4 &&& (1 : Int32)) = (0 : Int32) then q3 else (norm_a_x0__0 q0 q1)) (if (p4 &&& (2 : Int32)) = (0 : Int32) then q3 else (norm_a_x0__1 q0 q1))) (norm_a_x0__1 q0 q1) (norm_a_x0__2 (if (p4 &&& (1 : Int32)) = (0 : Int32) then q3 else (norm_a_x0__0 q0 q1)) (if (p4 &&& (2 : Int32)) = (0 : Int32) then q3 else (norm_a_x0__1 q0 q1)) (if (p4 &&& (4 : Int32)) = (0 : Int32) then q3 else (norm_a_x0__2 q0 q1 q2))) (norm_a_x0__2 q0 q1 q2)) = (if (norm_a_x0__0 q0 q1) = (norm_a_x0__0 (if (p4 &&& (1 : Int32)) = (0 : Int32) then q3 else (norm_a_x0__0 q0 q1)) (if (p4 &&& (2 : Int32)) = (0 : Int32) then q3 else (norm_a_x0__1 q0 q1))) then (if (norm_a_x0__1 q0 q1) = (norm_a_x0__1 (if (p4 &&& (1 : Int32)) = (0 : Int32) then q3 else (norm_a_x0__0 q0 q1)) (if (p4 &&& (2 : Int32)) = (0 : Int32) then q3 else (norm_a_x0__1 q0 q1))) then (if (norm_a_x0__2 q0 q1 q2) = (norm_a_x0__2 (if (p4 &&& (1 : Int32)) = (0 : Int32) then q3 else (norm_a_x0__0 q0 q1)) (if (p4 &&& (2 : Int32)) = (0 : Int32) then q3 else (norm_a_x0__1 q0 q1)) (if (p4 &&& (4 : Int32)) = (0 : Int32) then q3 else (norm_a_x0__2 q0 q1 q2))) then (1 : Int32) else (0 : Int32)) else (0 : Int32)) else (0 : Int32))
    · skip
      refine own_go (S' := T224.setTop (mkF m 187 #[.val (.long q0), .second, .val (.long q1), .second, .val (.long q2), .second, .val (.long q3), .second, .val (.int p4), .val (.ref b135), .val (.long (if (p4 &&& (1 : Int32)) = (0 : Int32) then q3 else (norm_a_x0__0 q0 q1))), .second, .val (.long (if (p4 &&& (2 : Int32)) = (0 : Int32) then q3 else (norm_a_x0__1 q0 q1))), .second, .val (.long (if (p4 &&& (4 : Int32)) = (0 : Int32) then q3 else (norm_a_x0__2 q0 q1 q2))), .second, .val (.ref b146), .val (.ref b157), .val (.ref b183), .val (.int (if (norm_a_x0__0 q0 q1) = (norm_a_x0__0 (if (p4 &&& (1 : Int32)) = (0 : Int32) then q3 else (norm_a_x0__0 q0 q1)) (if (p4 &&& (2 : Int32)) = (0 : Int32) then q3 else (norm_a_x0__1 q0 q1))) then (if (norm_a_x0__1 q0 q1) = (norm_a_x0__1 (if (p4 &&& (1 : Int32)) = (0 : Int32) then q3 else (norm_a_x0__0 q0 q1)) (if (p4 &&& (2 : Int32)) = (0 : Int32) then q3 else (norm_a_x0__1 q0 q1))) then (if (norm_a_x0__2 q0 q1 q2) = (norm_a_x0__2 (if (p4 &&& (1 : Int32)) = (0 : Int32) then q3 else (norm_a_x0__0 q0 q1)) (if (p4 &&& (2 : Int32)) = (0 : Int32) then q3 else (norm_a_x0__1 q0 q1)) (if (p4 &&& (4 : Int32)) = (0 : Int32) then q3 else (norm_a_x0__2 q0 q1 q2))) then (1 : Int32) else (0 : Int32)) else (0 : Int32)) else (0 : Int32)))] [(.ref b157), (.ref b157)])) (fun t k => ?_) ?_
      · show Steps p.tables e below (T224.setTop (mkF m 180 #[.val (.long q0), .second, .val (.long q1), .second, .val (.long q2), .second, .val (.long q3), .second, .val (.int p4), .val (.ref b135), .val (.long (if (p4 &&& (1 : Int32)) = (0 : Int32) then q3 else (norm_a_x0__0 q0 q1))), .second, .val (.long (if (p4 &&& (2 : Int32)) = (0 : Int32) then q3 else (norm_a_x0__1 q0 q1))), .second, .val (.long (if (p4 &&& (4 : Int32)) = (0 : Int32) then q3 else (norm_a_x0__2 q0 q1 q2))), .second, .val (.ref b146), .val (.ref b157), .val (.ref b183), .val (.int (if (norm_a_x0__0 q0 q1) = (norm_a_x0__0 (if (p4 &&& (1 : Int32)) = (0 : Int32) then q3 else (norm_a_x0__0 q0 q1)) (if (p4 &&& (2 : Int32)) = (0 : Int32) then q3 else (norm_a_x0__1 q0 q1))) then (if (norm_a_x0__1 q0 q1) = (norm_a_x0__1 (if (p4 &&& (1 : Int32)) = (0 : Int32) then q3 else (norm_a_x0__0 q0 q1)) (if (p4 &&& (2 : Int32)) = (0 : Int32) then q3 else (norm_a_x0__1 q0 q1))) then (if (norm_a_x0__2 q0 q1 q2) = (norm_a_x0__2 (if (p4 &&& (1 : Int32)) = (0 : Int32) then q3 else (norm_a_x0__0 q0 q1)) (if (p4 &&& (2 : Int32)) = (0 : Int32) then q3 else (norm_a_x0__1 q0 q1)) (if (p4 &&& (4 : Int32)) = (0 : Int32) then q3 else (norm_a_x0__2 q0 q1 q2))) then (1 : Int32) else (0 : Int32)) else (0 : Int32)) else (0 : Int32)))] [(.int (if (norm_a_x0__0 q0 q1) = (norm_a_x0__0 (if (p4 &&& (1 : Int32)) = (0 : Int32) then q3 else (norm_a_x0__0 q0 q1)) (if (p4 &&& (2 : Int32)) = (0 : Int32) then q3 else (norm_a_x0__1 q0 q1))) then (if (norm_a_x0__1 q0 q1) = (norm_a_x0__1 (if (p4 &&& (1 : Int32)) = (0 : Int32) then q3 else (norm_a_x0__0 q0 q1)) (if (p4 &&& (2 : Int32)) = (0 : Int32) then q3 else (norm_a_x0__1 q0 q1))) then (if (norm_a_x0__2 q0 q1 q2) = (norm_a_x0__2 (if (p4 &&& (1 : Int32)) = (0 : Int32) then q3 else (norm_a_x0__0 q0 q1)) (if (p4 &&& (2 : Int32)) = (0 : Int32) then q3 else (norm_a_x0__1 q0 q1)) (if (p4 &&& (4 : Int32)) = (0 : Int32) then q3 else (norm_a_x0__2 q0 q1 q2))) then (1 : Int32) else (0 : Int32)) else (0 : Int32)) else (0 : Int32))), (.int (eqRR_r (norm_a_x0__0 (if (p4 &&& (1 : Int32)) = (0 : Int32) then q3 else (norm_a_x0__0 q0 q1)) (if (p4 &&& (2 : Int32)) = (0 : Int32) then q3 else (norm_a_x0__1 q0 q1))) (norm_a_x0__0 q0 q1) (norm_a_x0__1 (if (p4 &&& (1 : Int32)) = (0 : Int32) then q3 else (norm_a_x0__0 q0 q1)) (if (p4 &&& (2 : Int32)) = (0 : Int32) then q3 else (norm_a_x0__1 q0 q1))) (norm_a_x0__1 q0 q1) (norm_a_x0__2 (if (p4 &&& (1 : Int32)) = (0 : Int32) then q3 else (norm_a_x0__0 q0 q1)) (if (p4 &&& (2 : Int32)) = (0 : Int32) then q3 else (norm_a_x0__1 q0 q1)) (if (p4 &&& (4 : Int32)) = (0 : Int32) then q3 else (norm_a_x0__2 q0 q1 q2))) (norm_a_x0__2 q0 q1 q2)))])) t
        refine XS.icmpNo X224.here hx rfl (hb hby at_180) rfl (teq hc180).2 ?_
        show Steps p.tables e below (T224.setTop (mkF m 183 #[.val (.long q0), .second, .val (.long q1), .second, .val (.long q2), .second, .val (.long q3), .second, .val (.int p4), .val (.ref b135), .val (.long (if (p4 &&& (1 : Int32)) = (0 : Int32) then q3 else (norm_a_x0__0 q0 q1))), .second, .val (.long (if (p4 &&& (2 : Int32)) = (0 : Int32) then q3 else (norm_a_x0__1 q0 q1))), .second, .val (.long (if (p4 &&& (4 : Int32)) = (0 : Int32) then q3 else (norm_a_x0__2 q0 q1 q2))), .second, .val (.ref b146), .val (.ref b157), .val (.ref b183), .val (.int (if (norm_a_x0__0 q0 q1) = (norm_a_x0__0 (if (p4 &&& (1 : Int32)) = (0 : Int32) then q3 else (norm_a_x0__0 q0 q1)) (if (p4 &&& (2 : Int32)) = (0 : Int32) then q3 else (norm_a_x0__1 q0 q1))) then (if (norm_a_x0__1 q0 q1) = (norm_a_x0__1 (if (p4 &&& (1 : Int32)) = (0 : Int32) then q3 else (norm_a_x0__0 q0 q1)) (if (p4 &&& (2 : Int32)) = (0 : Int32) then q3 else (norm_a_x0__1 q0 q1))) then (if (norm_a_x0__2 q0 q1 q2) = (norm_a_x0__2 (if (p4 &&& (1 : Int32)) = (0 : Int32) then q3 else (norm_a_x0__0 q0 q1)) (if (p4 &&& (2 : Int32)) = (0 : Int32) then q3 else (norm_a_x0__1 q0 q1)) (if (p4 &&& (4 : Int32)) = (0 : Int32) then q3 else (norm_a_x0__2 q0 q1 q2))) then (1 : Int32) else (0 : Int32)) else (0 : Int32)) else (0 : Int32)))] [])) t
        refine XS.aload X224.here hx rfl (hb hby at_183) rfl rfl ?_
        show Steps p.tables e below (T224.setTop (mkF m 185 #[.val (.long q0), .second, .val (.long q1), .second, .val (.long q2), .second, .val (.long q3), .second, .val (.int p4), .val (.ref b135), .val (.long (if (p4 &&& (1 : Int32)) = (0 : Int32) then q3 else (norm_a_x0__0 q0 q1))), .second, .val (.long (if (p4 &&& (2 : Int32)) = (0 : Int32) then q3 else (norm_a_x0__1 q0 q1))), .second, .val (.long (if (p4 &&& (4 : Int32)) = (0 : Int32) then q3 else (norm_a_x0__2 q0 q1 q2))), .second, .val (.ref b146), .val (.ref b157), .val (.ref b183), .val (.int (if (norm_a_x0__0 q0 q1) = (norm_a_x0__0 (if (p4 &&& (1 : Int32)) = (0 : Int32) then q3 else (norm_a_x0__0 q0 q1)) (if (p4 &&& (2 : Int32)) = (0 : Int32) then q3 else (norm_a_x0__1 q0 q1))) then (if (norm_a_x0__1 q0 q1) = (norm_a_x0__1 (if (p4 &&& (1 : Int32)) = (0 : Int32) then q3 else (norm_a_x0__0 q0 q1)) (if (p4 &&& (2 : Int32)) = (0 : Int32) then q3 else (norm_a_x0__1 q0 q1))) then (if (norm_a_x0__2 q0 q1 q2) = (norm_a_x0__2 (if (p4 &&& (1 : Int32)) = (0 : Int32) then q3 else (norm_a_x0__0 q0 q1)) (if (p4 &&& (2 : Int32)) = (0 : Int32) then q3 else (norm_a_x0__1 q0 q1)) (if (p4 &&& (4 : Int32)) = (0 : Int32) then q3 else (norm_a_x0__2 q0 q1 q2))) then (1 : Int32) else (0 : Int32)) else (0 : Int32)) else (0 : Int32)))] [(.ref b157)])) t
        refine XS.aload X224.here hx rfl (hb hby at_185) rfl rfl ?_
        exact k
      obtain ⟨cq228, kq228, qa228, qb228, qc228⟩ := isOf hZ e224 f212
      obtain ⟨_, _, ⟨T228, L228, kk228, nn228⟩, -, X228, ⟨Lc228, hQ228, l228, y228, z228⟩, st228⟩ := X224.virtualBack hx (y := (⟨"com/example/sure_sequence/suresequence/RegionRange", "equals", "(Ljava/lang/Object;)Z"⟩ : MethodName)) (z := (⟨"com/example/sure_sequence/suresequence/RegionRange", "equals", "(Ljava/lang/Object;)Z"⟩ : MethodName)) hown (mvT hZ (hw _ (List.mem_of_getElem? (i := 28) rfl))) (mvT hZ (hw _ (List.mem_of_getElem? (i := 29) rfl))) (notFace_of_selects (args := #[]) (mvT hZ (hw _ (List.mem_of_getElem? (i := 31) rfl)))) (mvT hZ (hw _ (List.mem_of_getElem? (i := 31) rfl))) (mvT hZ (hw _ (List.mem_of_getElem? (i := 30) rfl))) (by decide) (backOf (W := 0) (eqRR l Z a0 hw [] b157 b157 (norm_a_x0__0 q0 q1) (norm_a_x0__0 q0 q1) (norm_a_x0__1 q0 q1) (norm_a_x0__1 q0 q1) (norm_a_x0__2 q0 q1 q2) (norm_a_x0__2 q0 q1 q2) T200.heap n0 Z217 f212 f213 f213 f214 f214 f215 f215) hZ (hw _ (List.mem_of_getElem? (i := 32) rfl)) (hw _ (List.mem_of_getElem? (i := 15) rfl)) (by decide) (by decide)) qa228 qc228 (g := (mkF m 187 #[.val (.long q0), .second, .val (.long q1), .second, .val (.long q2), .second, .val (.long q3), .second, .val (.int p4), .val (.ref b135), .val (.long (if (p4 &&& (1 : Int32)) = (0 : Int32) then q3 else (norm_a_x0__0 q0 q1))), .second, .val (.long (if (p4 &&& (2 : Int32)) = (0 : Int32) then q3 else (norm_a_x0__1 q0 q1))), .second, .val (.long (if (p4 &&& (4 : Int32)) = (0 : Int32) then q3 else (norm_a_x0__2 q0 q1 q2))), .second, .val (.ref b146), .val (.ref b157), .val (.ref b183), .val (.int (if (norm_a_x0__0 q0 q1) = (norm_a_x0__0 (if (p4 &&& (1 : Int32)) = (0 : Int32) then q3 else (norm_a_x0__0 q0 q1)) (if (p4 &&& (2 : Int32)) = (0 : Int32) then q3 else (norm_a_x0__1 q0 q1))) then (if (norm_a_x0__1 q0 q1) = (norm_a_x0__1 (if (p4 &&& (1 : Int32)) = (0 : Int32) then q3 else (norm_a_x0__0 q0 q1)) (if (p4 &&& (2 : Int32)) = (0 : Int32) then q3 else (norm_a_x0__1 q0 q1))) then (if (norm_a_x0__2 q0 q1 q2) = (norm_a_x0__2 (if (p4 &&& (1 : Int32)) = (0 : Int32) then q3 else (norm_a_x0__0 q0 q1)) (if (p4 &&& (2 : Int32)) = (0 : Int32) then q3 else (norm_a_x0__1 q0 q1)) (if (p4 &&& (4 : Int32)) = (0 : Int32) then q3 else (norm_a_x0__2 q0 q1 q2))) then (1 : Int32) else (0 : Int32)) else (0 : Int32)) else (0 : Int32)))] [(.ref b157), (.ref b157)])) rfl (by rw [hml]; rfl) (Steps.refl _) (argsL := [(.ref b157)]) (rest := []) (lenOf pd_163 rfl) rfl (by show 2 * 0 + _ ≤ _; exact Nat.le_of_eq rfl) (hb hby at_187) (fun _ _ => ⟨rfl, e224, (by decide : 4 + 0 ≤ _), (by decide : 12 + 0 ≤ _)⟩)
      dsimp only [Pt.U, Pt.locs, Pt.cells, Pt.slots] at X228 l228 y228 z228 st228 hQ228
      subst l228 y228 z228
      obtain ⟨rfl, N229, e228⟩ := hQ228
      have N231 := Fr.app N227 N229
      refine own_goT st228 ?_
      by_cases hc190 : (eqRR_r (norm_a_x0__0 q0 q1) (norm_a_x0__0 q0 q1) (norm_a_x0__1 q0 q1) (norm_a_x0__1 q0 q1) (norm_a_x0__2 q0 q1 q2) (norm_a_x0__2 q0 q1 q2)) = (0 : Int32)
      · skip
        exfalso
        exact absurd hc190 (by simp [eqRR_r])
      · skip
        refine own_go (S' := T228.setTop (mkF m 196 #[.val (.long q0), .second, .val (.long q1), .second, .val (.long q2), .second, .val (.long q3), .second, .val (.int p4), .val (.ref b135), .val (.long (if (p4 &&& (1 : Int32)) = (0 : Int32) then q3 else (norm_a_x0__0 q0 q1))), .second, .val (.long (if (p4 &&& (2 : Int32)) = (0 : Int32) then q3 else (norm_a_x0__1 q0 q1))), .second, .val (.long (if (p4 &&& (4 : Int32)) = (0 : Int32) then q3 else (norm_a_x0__2 q0 q1 q2))), .second, .val (.ref b146), .val (.ref b157), .val (.ref b183), .val (.int (if (norm_a_x0__0 q0 q1) = (norm_a_x0__0 (if (p4 &&& (1 : Int32)) = (0 : Int32) then q3 else (norm_a_x0__0 q0 q1)) (if (p4 &&& (2 : Int32)) = (0 : Int32) then q3 else (norm_a_x0__1 q0 q1))) then (if (norm_a_x0__1 q0 q1) = (norm_a_x0__1 (if (p4 &&& (1 : Int32)) = (0 : Int32) then q3 else (norm_a_x0__0 q0 q1)) (if (p4 &&& (2 : Int32)) = (0 : Int32) then q3 else (norm_a_x0__1 q0 q1))) then (if (norm_a_x0__2 q0 q1 q2) = (norm_a_x0__2 (if (p4 &&& (1 : Int32)) = (0 : Int32) then q3 else (norm_a_x0__0 q0 q1)) (if (p4 &&& (2 : Int32)) = (0 : Int32) then q3 else (norm_a_x0__1 q0 q1)) (if (p4 &&& (4 : Int32)) = (0 : Int32) then q3 else (norm_a_x0__2 q0 q1 q2))) then (1 : Int32) else (0 : Int32)) else (0 : Int32)) else (0 : Int32)))] [.null, (.ref b157)])) (fun t k => ?_) ?_
        · show Steps p.tables e below (T228.setTop (mkF m 190 #[.val (.long q0), .second, .val (.long q1), .second, .val (.long q2), .second, .val (.long q3), .second, .val (.int p4), .val (.ref b135), .val (.long (if (p4 &&& (1 : Int32)) = (0 : Int32) then q3 else (norm_a_x0__0 q0 q1))), .second, .val (.long (if (p4 &&& (2 : Int32)) = (0 : Int32) then q3 else (norm_a_x0__1 q0 q1))), .second, .val (.long (if (p4 &&& (4 : Int32)) = (0 : Int32) then q3 else (norm_a_x0__2 q0 q1 q2))), .second, .val (.ref b146), .val (.ref b157), .val (.ref b183), .val (.int (if (norm_a_x0__0 q0 q1) = (norm_a_x0__0 (if (p4 &&& (1 : Int32)) = (0 : Int32) then q3 else (norm_a_x0__0 q0 q1)) (if (p4 &&& (2 : Int32)) = (0 : Int32) then q3 else (norm_a_x0__1 q0 q1))) then (if (norm_a_x0__1 q0 q1) = (norm_a_x0__1 (if (p4 &&& (1 : Int32)) = (0 : Int32) then q3 else (norm_a_x0__0 q0 q1)) (if (p4 &&& (2 : Int32)) = (0 : Int32) then q3 else (norm_a_x0__1 q0 q1))) then (if (norm_a_x0__2 q0 q1 q2) = (norm_a_x0__2 (if (p4 &&& (1 : Int32)) = (0 : Int32) then q3 else (norm_a_x0__0 q0 q1)) (if (p4 &&& (2 : Int32)) = (0 : Int32) then q3 else (norm_a_x0__1 q0 q1)) (if (p4 &&& (4 : Int32)) = (0 : Int32) then q3 else (norm_a_x0__2 q0 q1 q2))) then (1 : Int32) else (0 : Int32)) else (0 : Int32)) else (0 : Int32)))] [(.int (eqRR_r (norm_a_x0__0 q0 q1) (norm_a_x0__0 q0 q1) (norm_a_x0__1 q0 q1) (norm_a_x0__1 q0 q1) (norm_a_x0__2 q0 q1 q2) (norm_a_x0__2 q0 q1 q2)))])) t
          refine XS.ifNo X228.here hx rfl (hb hby at_190) rfl ((if0 _ _).trans (feq hc190).1) ?_
          show Steps p.tables e below (T228.setTop (mkF m 193 #[.val (.long q0), .second, .val (.long q1), .second, .val (.long q2), .second, .val (.long q3), .second, .val (.int p4), .val (.ref b135), .val (.long (if (p4 &&& (1 : Int32)) = (0 : Int32) then q3 else (norm_a_x0__0 q0 q1))), .second, .val (.long (if (p4 &&& (2 : Int32)) = (0 : Int32) then q3 else (norm_a_x0__1 q0 q1))), .second, .val (.long (if (p4 &&& (4 : Int32)) = (0 : Int32) then q3 else (norm_a_x0__2 q0 q1 q2))), .second, .val (.ref b146), .val (.ref b157), .val (.ref b183), .val (.int (if (norm_a_x0__0 q0 q1) = (norm_a_x0__0 (if (p4 &&& (1 : Int32)) = (0 : Int32) then q3 else (norm_a_x0__0 q0 q1)) (if (p4 &&& (2 : Int32)) = (0 : Int32) then q3 else (norm_a_x0__1 q0 q1))) then (if (norm_a_x0__1 q0 q1) = (norm_a_x0__1 (if (p4 &&& (1 : Int32)) = (0 : Int32) then q3 else (norm_a_x0__0 q0 q1)) (if (p4 &&& (2 : Int32)) = (0 : Int32) then q3 else (norm_a_x0__1 q0 q1))) then (if (norm_a_x0__2 q0 q1 q2) = (norm_a_x0__2 (if (p4 &&& (1 : Int32)) = (0 : Int32) then q3 else (norm_a_x0__0 q0 q1)) (if (p4 &&& (2 : Int32)) = (0 : Int32) then q3 else (norm_a_x0__1 q0 q1)) (if (p4 &&& (4 : Int32)) = (0 : Int32) then q3 else (norm_a_x0__2 q0 q1 q2))) then (1 : Int32) else (0 : Int32)) else (0 : Int32)) else (0 : Int32)))] [])) t
          refine XS.aload X228.here hx rfl (hb hby at_193) rfl rfl ?_
          show Steps p.tables e below (T228.setTop (mkF m 195 #[.val (.long q0), .second, .val (.long q1), .second, .val (.long q2), .second, .val (.long q3), .second, .val (.int p4), .val (.ref b135), .val (.long (if (p4 &&& (1 : Int32)) = (0 : Int32) then q3 else (norm_a_x0__0 q0 q1))), .second, .val (.long (if (p4 &&& (2 : Int32)) = (0 : Int32) then q3 else (norm_a_x0__1 q0 q1))), .second, .val (.long (if (p4 &&& (4 : Int32)) = (0 : Int32) then q3 else (norm_a_x0__2 q0 q1 q2))), .second, .val (.ref b146), .val (.ref b157), .val (.ref b183), .val (.int (if (norm_a_x0__0 q0 q1) = (norm_a_x0__0 (if (p4 &&& (1 : Int32)) = (0 : Int32) then q3 else (norm_a_x0__0 q0 q1)) (if (p4 &&& (2 : Int32)) = (0 : Int32) then q3 else (norm_a_x0__1 q0 q1))) then (if (norm_a_x0__1 q0 q1) = (norm_a_x0__1 (if (p4 &&& (1 : Int32)) = (0 : Int32) then q3 else (norm_a_x0__0 q0 q1)) (if (p4 &&& (2 : Int32)) = (0 : Int32) then q3 else (norm_a_x0__1 q0 q1))) then (if (norm_a_x0__2 q0 q1 q2) = (norm_a_x0__2 (if (p4 &&& (1 : Int32)) = (0 : Int32) then q3 else (norm_a_x0__0 q0 q1)) (if (p4 &&& (2 : Int32)) = (0 : Int32) then q3 else (norm_a_x0__1 q0 q1)) (if (p4 &&& (4 : Int32)) = (0 : Int32) then q3 else (norm_a_x0__2 q0 q1 q2))) then (1 : Int32) else (0 : Int32)) else (0 : Int32)) else (0 : Int32)))] [(.ref b157)])) t
          refine XS.aconstNull X228.here hx rfl (hb hby at_195) ?_
          exact k
        obtain ⟨cq232, kq232, qa232, qb232, qc232⟩ := isOf hZ e228 f212
        obtain ⟨_, _, ⟨T232, L232, kk232, nn232⟩, -, X232, ⟨Lc232, hQ232, l232, y232, z232⟩, st232⟩ := X228.virtualBack hx (y := (⟨"com/example/sure_sequence/suresequence/RegionRange", "equals", "(Ljava/lang/Object;)Z"⟩ : MethodName)) (z := (⟨"com/example/sure_sequence/suresequence/RegionRange", "equals", "(Ljava/lang/Object;)Z"⟩ : MethodName)) hown (mvT hZ (hw _ (List.mem_of_getElem? (i := 28) rfl))) (mvT hZ (hw _ (List.mem_of_getElem? (i := 29) rfl))) (notFace_of_selects (args := #[]) (mvT hZ (hw _ (List.mem_of_getElem? (i := 31) rfl)))) (mvT hZ (hw _ (List.mem_of_getElem? (i := 31) rfl))) (mvT hZ (hw _ (List.mem_of_getElem? (i := 30) rfl))) (by decide) (backOf (W := 0) (eqNull l Z a0 hw [] b157 T200.heap n0 Z217 ) hZ (hw _ (List.mem_of_getElem? (i := 32) rfl)) (hw _ (List.mem_of_getElem? (i := 15) rfl)) (by decide) (by decide)) qa232 qc232 (g := (mkF m 196 #[.val (.long q0), .second, .val (.long q1), .second, .val (.long q2), .second, .val (.long q3), .second, .val (.int p4), .val (.ref b135), .val (.long (if (p4 &&& (1 : Int32)) = (0 : Int32) then q3 else (norm_a_x0__0 q0 q1))), .second, .val (.long (if (p4 &&& (2 : Int32)) = (0 : Int32) then q3 else (norm_a_x0__1 q0 q1))), .second, .val (.long (if (p4 &&& (4 : Int32)) = (0 : Int32) then q3 else (norm_a_x0__2 q0 q1 q2))), .second, .val (.ref b146), .val (.ref b157), .val (.ref b183), .val (.int (if (norm_a_x0__0 q0 q1) = (norm_a_x0__0 (if (p4 &&& (1 : Int32)) = (0 : Int32) then q3 else (norm_a_x0__0 q0 q1)) (if (p4 &&& (2 : Int32)) = (0 : Int32) then q3 else (norm_a_x0__1 q0 q1))) then (if (norm_a_x0__1 q0 q1) = (norm_a_x0__1 (if (p4 &&& (1 : Int32)) = (0 : Int32) then q3 else (norm_a_x0__0 q0 q1)) (if (p4 &&& (2 : Int32)) = (0 : Int32) then q3 else (norm_a_x0__1 q0 q1))) then (if (norm_a_x0__2 q0 q1 q2) = (norm_a_x0__2 (if (p4 &&& (1 : Int32)) = (0 : Int32) then q3 else (norm_a_x0__0 q0 q1)) (if (p4 &&& (2 : Int32)) = (0 : Int32) then q3 else (norm_a_x0__1 q0 q1)) (if (p4 &&& (4 : Int32)) = (0 : Int32) then q3 else (norm_a_x0__2 q0 q1 q2))) then (1 : Int32) else (0 : Int32)) else (0 : Int32)) else (0 : Int32)))] [.null, (.ref b157)])) rfl (by rw [hml]; rfl) (Steps.refl _) (argsL := [.null]) (rest := []) (lenOf pd_163 rfl) rfl (by show 2 * 0 + _ ≤ _; exact Nat.le_of_eq rfl) (hb hby at_196) (fun _ _ => ⟨rfl, e228, (by decide : 4 + 0 ≤ _), (by decide : 12 + 0 ≤ _)⟩)
        dsimp only [Pt.U, Pt.locs, Pt.cells, Pt.slots] at X232 l232 y232 z232 st232 hQ232
        subst l232 y232 z232
        obtain ⟨rfl, N233, e232⟩ := hQ232
        have N235 := Fr.app N231 N233
        refine own_goT st232 ?_
        refine own_go (S' := T232.setTop (mkF m 205 #[.val (.long q0), .second, .val (.long q1), .second, .val (.long q2), .second, .val (.long q3), .second, .val (.int p4), .val (.ref b135), .val (.long (if (p4 &&& (1 : Int32)) = (0 : Int32) then q3 else (norm_a_x0__0 q0 q1))), .second, .val (.long (if (p4 &&& (2 : Int32)) = (0 : Int32) then q3 else (norm_a_x0__1 q0 q1))), .second, .val (.long (if (p4 &&& (4 : Int32)) = (0 : Int32) then q3 else (norm_a_x0__2 q0 q1 q2))), .second, .val (.ref b146), .val (.ref b157), .val (.ref b183), .val (.int (if (norm_a_x0__0 q0 q1) = (norm_a_x0__0 (if (p4 &&& (1 : Int32)) = (0 : Int32) then q3 else (norm_a_x0__0 q0 q1)) (if (p4 &&& (2 : Int32)) = (0 : Int32) then q3 else (norm_a_x0__1 q0 q1))) then (if (norm_a_x0__1 q0 q1) = (norm_a_x0__1 (if (p4 &&& (1 : Int32)) = (0 : Int32) then q3 else (norm_a_x0__0 q0 q1)) (if (p4 &&& (2 : Int32)) = (0 : Int32) then q3 else (norm_a_x0__1 q0 q1))) then (if (norm_a_x0__2 q0 q1 q2) = (norm_a_x0__2 (if (p4 &&& (1 : Int32)) = (0 : Int32) then q3 else (norm_a_x0__0 q0 q1)) (if (p4 &&& (2 : Int32)) = (0 : Int32) then q3 else (norm_a_x0__1 q0 q1)) (if (p4 &&& (4 : Int32)) = (0 : Int32) then q3 else (norm_a_x0__2 q0 q1 q2))) then (1 : Int32) else (0 : Int32)) else (0 : Int32)) else (0 : Int32)))] [(.long q0), (.ref b157)])) (fun t k => ?_) ?_
        · show Steps p.tables e below (T232.setTop (mkF m 199 #[.val (.long q0), .second, .val (.long q1), .second, .val (.long q2), .second, .val (.long q3), .second, .val (.int p4), .val (.ref b135), .val (.long (if (p4 &&& (1 : Int32)) = (0 : Int32) then q3 else (norm_a_x0__0 q0 q1))), .second, .val (.long (if (p4 &&& (2 : Int32)) = (0 : Int32) then q3 else (norm_a_x0__1 q0 q1))), .second, .val (.long (if (p4 &&& (4 : Int32)) = (0 : Int32) then q3 else (norm_a_x0__2 q0 q1 q2))), .second, .val (.ref b146), .val (.ref b157), .val (.ref b183), .val (.int (if (norm_a_x0__0 q0 q1) = (norm_a_x0__0 (if (p4 &&& (1 : Int32)) = (0 : Int32) then q3 else (norm_a_x0__0 q0 q1)) (if (p4 &&& (2 : Int32)) = (0 : Int32) then q3 else (norm_a_x0__1 q0 q1))) then (if (norm_a_x0__1 q0 q1) = (norm_a_x0__1 (if (p4 &&& (1 : Int32)) = (0 : Int32) then q3 else (norm_a_x0__0 q0 q1)) (if (p4 &&& (2 : Int32)) = (0 : Int32) then q3 else (norm_a_x0__1 q0 q1))) then (if (norm_a_x0__2 q0 q1 q2) = (norm_a_x0__2 (if (p4 &&& (1 : Int32)) = (0 : Int32) then q3 else (norm_a_x0__0 q0 q1)) (if (p4 &&& (2 : Int32)) = (0 : Int32) then q3 else (norm_a_x0__1 q0 q1)) (if (p4 &&& (4 : Int32)) = (0 : Int32) then q3 else (norm_a_x0__2 q0 q1 q2))) then (1 : Int32) else (0 : Int32)) else (0 : Int32)) else (0 : Int32)))] [(.int (0 : Int32))])) t
          refine XS.ifNo X232.here hx rfl (hb hby at_199) rfl ((if0 _ _).trans (teq (by decide)).2) ?_
          show Steps p.tables e below (T232.setTop (mkF m 202 #[.val (.long q0), .second, .val (.long q1), .second, .val (.long q2), .second, .val (.long q3), .second, .val (.int p4), .val (.ref b135), .val (.long (if (p4 &&& (1 : Int32)) = (0 : Int32) then q3 else (norm_a_x0__0 q0 q1))), .second, .val (.long (if (p4 &&& (2 : Int32)) = (0 : Int32) then q3 else (norm_a_x0__1 q0 q1))), .second, .val (.long (if (p4 &&& (4 : Int32)) = (0 : Int32) then q3 else (norm_a_x0__2 q0 q1 q2))), .second, .val (.ref b146), .val (.ref b157), .val (.ref b183), .val (.int (if (norm_a_x0__0 q0 q1) = (norm_a_x0__0 (if (p4 &&& (1 : Int32)) = (0 : Int32) then q3 else (norm_a_x0__0 q0 q1)) (if (p4 &&& (2 : Int32)) = (0 : Int32) then q3 else (norm_a_x0__1 q0 q1))) then (if (norm_a_x0__1 q0 q1) = (norm_a_x0__1 (if (p4 &&& (1 : Int32)) = (0 : Int32) then q3 else (norm_a_x0__0 q0 q1)) (if (p4 &&& (2 : Int32)) = (0 : Int32) then q3 else (norm_a_x0__1 q0 q1))) then (if (norm_a_x0__2 q0 q1 q2) = (norm_a_x0__2 (if (p4 &&& (1 : Int32)) = (0 : Int32) then q3 else (norm_a_x0__0 q0 q1)) (if (p4 &&& (2 : Int32)) = (0 : Int32) then q3 else (norm_a_x0__1 q0 q1)) (if (p4 &&& (4 : Int32)) = (0 : Int32) then q3 else (norm_a_x0__2 q0 q1 q2))) then (1 : Int32) else (0 : Int32)) else (0 : Int32)) else (0 : Int32)))] [])) t
          refine XS.aload X232.here hx rfl (hb hby at_202) rfl rfl ?_
          show Steps p.tables e below (T232.setTop (mkF m 204 #[.val (.long q0), .second, .val (.long q1), .second, .val (.long q2), .second, .val (.long q3), .second, .val (.int p4), .val (.ref b135), .val (.long (if (p4 &&& (1 : Int32)) = (0 : Int32) then q3 else (norm_a_x0__0 q0 q1))), .second, .val (.long (if (p4 &&& (2 : Int32)) = (0 : Int32) then q3 else (norm_a_x0__1 q0 q1))), .second, .val (.long (if (p4 &&& (4 : Int32)) = (0 : Int32) then q3 else (norm_a_x0__2 q0 q1 q2))), .second, .val (.ref b146), .val (.ref b157), .val (.ref b183), .val (.int (if (norm_a_x0__0 q0 q1) = (norm_a_x0__0 (if (p4 &&& (1 : Int32)) = (0 : Int32) then q3 else (norm_a_x0__0 q0 q1)) (if (p4 &&& (2 : Int32)) = (0 : Int32) then q3 else (norm_a_x0__1 q0 q1))) then (if (norm_a_x0__1 q0 q1) = (norm_a_x0__1 (if (p4 &&& (1 : Int32)) = (0 : Int32) then q3 else (norm_a_x0__0 q0 q1)) (if (p4 &&& (2 : Int32)) = (0 : Int32) then q3 else (norm_a_x0__1 q0 q1))) then (if (norm_a_x0__2 q0 q1 q2) = (norm_a_x0__2 (if (p4 &&& (1 : Int32)) = (0 : Int32) then q3 else (norm_a_x0__0 q0 q1)) (if (p4 &&& (2 : Int32)) = (0 : Int32) then q3 else (norm_a_x0__1 q0 q1)) (if (p4 &&& (4 : Int32)) = (0 : Int32) then q3 else (norm_a_x0__2 q0 q1 q2))) then (1 : Int32) else (0 : Int32)) else (0 : Int32)) else (0 : Int32)))] [(.ref b157)])) t
          refine XS.lloadN X232.here hx rfl (hb hby at_204) rfl ?_
          exact k
        obtain ⟨_, _, ⟨T236, L236, kk236, nn236⟩, -, X236, ⟨Lc236, hQ236, l236, y236, z236⟩, st236⟩ := Jvm.LawKit.callS X232 hx (y := (⟨"java/lang/Long", "valueOf", "(J)Ljava/lang/Long;"⟩ : MethodName)) hown (mvT hZ (hw _ (List.mem_of_getElem? (i := 35) rfl))) (mvT hZ (hw _ (List.mem_of_getElem? (i := 36) rfl))) (mvT hZ (hw _ (List.mem_of_getElem? (i := 37) rfl))) (mvT hZ (hw _ (List.mem_of_getElem? (i := 38) rfl))) (by decide) (backOf (W := 1) (valueOf l Z a0 hw [] q0 w_s_cache T200.heap n0 Z217 f208 (HC : own_Cache Z w_s_cache) f209) hZ (hw _ (List.mem_of_getElem? (i := 38) rfl)) (hw _ (List.mem_of_getElem? (i := 37) rfl)) (by decide) (by decide)) (g := (mkF m 205 #[.val (.long q0), .second, .val (.long q1), .second, .val (.long q2), .second, .val (.long q3), .second, .val (.int p4), .val (.ref b135), .val (.long (if (p4 &&& (1 : Int32)) = (0 : Int32) then q3 else (norm_a_x0__0 q0 q1))), .second, .val (.long (if (p4 &&& (2 : Int32)) = (0 : Int32) then q3 else (norm_a_x0__1 q0 q1))), .second, .val (.long (if (p4 &&& (4 : Int32)) = (0 : Int32) then q3 else (norm_a_x0__2 q0 q1 q2))), .second, .val (.ref b146), .val (.ref b157), .val (.ref b183), .val (.int (if (norm_a_x0__0 q0 q1) = (norm_a_x0__0 (if (p4 &&& (1 : Int32)) = (0 : Int32) then q3 else (norm_a_x0__0 q0 q1)) (if (p4 &&& (2 : Int32)) = (0 : Int32) then q3 else (norm_a_x0__1 q0 q1))) then (if (norm_a_x0__1 q0 q1) = (norm_a_x0__1 (if (p4 &&& (1 : Int32)) = (0 : Int32) then q3 else (norm_a_x0__0 q0 q1)) (if (p4 &&& (2 : Int32)) = (0 : Int32) then q3 else (norm_a_x0__1 q0 q1))) then (if (norm_a_x0__2 q0 q1 q2) = (norm_a_x0__2 (if (p4 &&& (1 : Int32)) = (0 : Int32) then q3 else (norm_a_x0__0 q0 q1)) (if (p4 &&& (2 : Int32)) = (0 : Int32) then q3 else (norm_a_x0__1 q0 q1)) (if (p4 &&& (4 : Int32)) = (0 : Int32) then q3 else (norm_a_x0__2 q0 q1 q2))) then (1 : Int32) else (0 : Int32)) else (0 : Int32)) else (0 : Int32)))] [(.long q0), (.ref b157)])) rfl (by rw [hml]; rfl) (argsL := [(.long q0)]) (rest := [(.ref b157)]) (lenOf pd_164 rfl) rfl (by show 2 * 0 + _ ≤ _; exact Nat.le_of_eq rfl) (hb hby at_205) (fun _ _ => ⟨rfl, e232, (by decide : 4 + 1 ≤ _), (by decide : 12 + 1 ≤ _)⟩)
        dsimp only [Pt.U, Pt.locs, Pt.cells, Pt.slots] at X236 l236 y236 z236 st236 hQ236
        subst l236 y236 z236
        obtain ⟨b237, rfl, N238, K239, p240⟩ := hQ236
        have N241 := Fr.app N235 N238
        have f242 : Old Z n0 T236.heap := f208.keep K239 all0
        have f243 : Sta Z T236.heap "java/lang/Long$LongCache" "cache" "[Ljava/lang/Long;" (.ref w_s_cache) := own_sta_keep f209 K239 all0
        have f244 : own_Arv Z T236.heap b135 .long (3 : Int32) [(.long (norm_a_x0__0 q0 q1)), (.long (norm_a_x0__1 q0 q1)), (.long (norm_a_x0__2 q0 q1 q2))] (.long (0 : Int64)) := f210.keep K239 nin0
        have f245 : own_Arv Z T236.heap b146 .long (3 : Int32) [(.long (norm_a_x0__0 (if (p4 &&& (1 : Int32)) = (0 : Int32) then q3 else (norm_a_x0__0 q0 q1)) (if (p4 &&& (2 : Int32)) = (0 : Int32) then q3 else (norm_a_x0__1 q0 q1)))), (.long (norm_a_x0__1 (if (p4 &&& (1 : Int32)) = (0 : Int32) then q3 else (norm_a_x0__0 q0 q1)) (if (p4 &&& (2 : Int32)) = (0 : Int32) then q3 else (norm_a_x0__1 q0 q1)))), (.long (norm_a_x0__2 (if (p4 &&& (1 : Int32)) = (0 : Int32) then q3 else (norm_a_x0__0 q0 q1)) (if (p4 &&& (2 : Int32)) = (0 : Int32) then q3 else (norm_a_x0__1 q0 q1)) (if (p4 &&& (4 : Int32)) = (0 : Int32) then q3 else (norm_a_x0__2 q0 q1 q2))))] (.long (0 : Int64)) := f211.keep K239 nin0
        have f246 : Exa Z T236.heap b157 "com/example/sure_sequence/suresequence/RegionRange" := f212.keep K239
        have f247 : Fld Z T236.heap b157 "com/example/sure_sequence/suresequence/RegionRange" "low" "J" (.long (norm_a_x0__0 q0 q1)) := f213.keep K239 nin0
        have f248 : Fld Z T236.heap b157 "com/example/sure_sequence/suresequence/RegionRange" "high" "J" (.long (norm_a_x0__1 q0 q1)) := f214.keep K239 nin0
        have f249 : Fld Z T236.heap b157 "com/example/sure_sequence/suresequence/RegionRange" "highWater" "J" (.long (norm_a_x0__2 q0 q1 q2)) := f215.keep K239 nin0
        have f250 : Exa Z T236.heap b183 "com/example/sure_sequence/suresequence/RegionRange" := p203.keep K239
        have f251 : Fld Z T236.heap b183 "com/example/sure_sequence/suresequence/RegionRange" "low" "J" (.long (norm_a_x0__0 (if (p4 &&& (1 : Int32)) = (0 : Int32) then q3 else (norm_a_x0__0 q0 q1)) (if (p4 &&& (2 : Int32)) = (0 : Int32) then q3 else (norm_a_x0__1 q0 q1)))) := p204.keep K239 nin0
        have f252 : Fld Z T236.heap b183 "com/example/sure_sequence/suresequence/RegionRange" "high" "J" (.long (norm_a_x0__1 (if (p4 &&& (1 : Int32)) = (0 : Int32) then q3 else (norm_a_x0__0 q0 q1)) (if (p4 &&& (2 : Int32)) = (0 : Int32) then q3 else (norm_a_x0__1 q0 q1)))) := p205.keep K239 nin0
        have f253 : Fld Z T236.heap b183 "com/example/sure_sequence/suresequence/RegionRange" "highWater" "J" (.long (norm_a_x0__2 (if (p4 &&& (1 : Int32)) = (0 : Int32) then q3 else (norm_a_x0__0 q0 q1)) (if (p4 &&& (2 : Int32)) = (0 : Int32) then q3 else (norm_a_x0__1 q0 q1)) (if (p4 &&& (4 : Int32)) = (0 : Int32) then q3 else (norm_a_x0__2 q0 q1 q2)))) := p206.keep K239 nin0
        have Z254 : n0 ≤ T236.heap.size := Nat.le_trans Z217 K239.1
        refine own_go st236 ?_
        obtain ⟨cq255, kq255, qa255, qb255, qc255⟩ := isOf hZ rfl f246
        obtain ⟨_, _, ⟨T255, L255, kk255, nn255⟩, -, X255, ⟨Lc255, hQ255, l255, y255, z255⟩, st255⟩ := X236.virtualBack hx (y := (⟨"com/example/sure_sequence/suresequence/RegionRange", "equals", "(Ljava/lang/Object;)Z"⟩ : MethodName)) (z := (⟨"com/example/sure_sequence/suresequence/RegionRange", "equals", "(Ljava/lang/Object;)Z"⟩ : MethodName)) hown (mvT hZ (hw _ (List.mem_of_getElem? (i := 28) rfl))) (mvT hZ (hw _ (List.mem_of_getElem? (i := 29) rfl))) (notFace_of_selects (args := #[]) (mvT hZ (hw _ (List.mem_of_getElem? (i := 31) rfl)))) (mvT hZ (hw _ (List.mem_of_getElem? (i := 31) rfl))) (mvT hZ (hw _ (List.mem_of_getElem? (i := 30) rfl))) (by decide) (backOf (W := 0) (eqLong l Z a0 hw [] b157 b237 T236.heap n0 Z254 p240) hZ (hw _ (List.mem_of_getElem? (i := 32) rfl)) (hw _ (List.mem_of_getElem? (i := 15) rfl)) (by decide) (by decide)) qa255 qc255 (g := (mkF m 208 #[.val (.long q0), .second, .val (.long q1), .second, .val (.long q2), .second, .val (.long q3), .second, .val (.int p4), .val (.ref b135), .val (.long (if (p4 &&& (1 : Int32)) = (0 : Int32) then q3 else (norm_a_x0__0 q0 q1))), .second, .val (.long (if (p4 &&& (2 : Int32)) = (0 : Int32) then q3 else (norm_a_x0__1 q0 q1))), .second, .val (.long (if (p4 &&& (4 : Int32)) = (0 : Int32) then q3 else (norm_a_x0__2 q0 q1 q2))), .second, .val (.ref b146), .val (.ref b157), .val (.ref b183), .val (.int (if (norm_a_x0__0 q0 q1) = (norm_a_x0__0 (if (p4 &&& (1 : Int32)) = (0 : Int32) then q3 else (norm_a_x0__0 q0 q1)) (if (p4 &&& (2 : Int32)) = (0 : Int32) then q3 else (norm_a_x0__1 q0 q1))) then (if (norm_a_x0__1 q0 q1) = (norm_a_x0__1 (if (p4 &&& (1 : Int32)) = (0 : Int32) then q3 else (norm_a_x0__0 q0 q1)) (if (p4 &&& (2 : Int32)) = (0 : Int32) then q3 else (norm_a_x0__1 q0 q1))) then (if (norm_a_x0__2 q0 q1 q2) = (norm_a_x0__2 (if (p4 &&& (1 : Int32)) = (0 : Int32) then q3 else (norm_a_x0__0 q0 q1)) (if (p4 &&& (2 : Int32)) = (0 : Int32) then q3 else (norm_a_x0__1 q0 q1)) (if (p4 &&& (4 : Int32)) = (0 : Int32) then q3 else (norm_a_x0__2 q0 q1 q2))) then (1 : Int32) else (0 : Int32)) else (0 : Int32)) else (0 : Int32)))] [(.ref b237), (.ref b157)])) rfl (by rw [hml]; rfl) (Steps.refl _) (argsL := [(.ref b237)]) (rest := []) (lenOf pd_163 rfl) rfl (by show 2 * 0 + _ ≤ _; exact Nat.le_of_eq rfl) (hb hby at_208) (fun _ _ => ⟨rfl, rfl, (by decide : 5 + 0 ≤ _), (by decide : 13 + 0 ≤ _)⟩)
        dsimp only [Pt.U, Pt.locs, Pt.cells, Pt.slots] at X255 l255 y255 z255 st255 hQ255
        subst l255 y255 z255
        obtain ⟨rfl, N256, e255⟩ := hQ255
        have N258 := Fr.app N241 N256
        refine own_goT st255 ?_
        refine own_go (S' := T255.setTop (mkF m 219 #[.val (.long q0), .second, .val (.long q1), .second, .val (.long q2), .second, .val (.long q3), .second, .val (.int p4), .val (.ref b135), .val (.long (if (p4 &&& (1 : Int32)) = (0 : Int32) then q3 else (norm_a_x0__0 q0 q1))), .second, .val (.long (if (p4 &&& (2 : Int32)) = (0 : Int32) then q3 else (norm_a_x0__1 q0 q1))), .second, .val (.long (if (p4 &&& (4 : Int32)) = (0 : Int32) then q3 else (norm_a_x0__2 q0 q1 q2))), .second, .val (.ref b146), .val (.ref b157), .val (.ref b183), .val (.int (if (norm_a_x0__0 q0 q1) = (norm_a_x0__0 (if (p4 &&& (1 : Int32)) = (0 : Int32) then q3 else (norm_a_x0__0 q0 q1)) (if (p4 &&& (2 : Int32)) = (0 : Int32) then q3 else (norm_a_x0__1 q0 q1))) then (if (norm_a_x0__1 q0 q1) = (norm_a_x0__1 (if (p4 &&& (1 : Int32)) = (0 : Int32) then q3 else (norm_a_x0__0 q0 q1)) (if (p4 &&& (2 : Int32)) = (0 : Int32) then q3 else (norm_a_x0__1 q0 q1))) then (if (norm_a_x0__2 q0 q1 q2) = (norm_a_x0__2 (if (p4 &&& (1 : Int32)) = (0 : Int32) then q3 else (norm_a_x0__0 q0 q1)) (if (p4 &&& (2 : Int32)) = (0 : Int32) then q3 else (norm_a_x0__1 q0 q1)) (if (p4 &&& (4 : Int32)) = (0 : Int32) then q3 else (norm_a_x0__2 q0 q1 q2))) then (1 : Int32) else (0 : Int32)) else (0 : Int32)) else (0 : Int32)))] [(.int (1 : Int32))])) (fun t k => ?_) ?_
        · show Steps p.tables e below (T255.setTop (mkF m 211 #[.val (.long q0), .second, .val (.long q1), .second, .val (.long q2), .second, .val (.long q3), .second, .val (.int p4), .val (.ref b135), .val (.long (if (p4 &&& (1 : Int32)) = (0 : Int32) then q3 else (norm_a_x0__0 q0 q1))), .second, .val (.long (if (p4 &&& (2 : Int32)) = (0 : Int32) then q3 else (norm_a_x0__1 q0 q1))), .second, .val (.long (if (p4 &&& (4 : Int32)) = (0 : Int32) then q3 else (norm_a_x0__2 q0 q1 q2))), .second, .val (.ref b146), .val (.ref b157), .val (.ref b183), .val (.int (if (norm_a_x0__0 q0 q1) = (norm_a_x0__0 (if (p4 &&& (1 : Int32)) = (0 : Int32) then q3 else (norm_a_x0__0 q0 q1)) (if (p4 &&& (2 : Int32)) = (0 : Int32) then q3 else (norm_a_x0__1 q0 q1))) then (if (norm_a_x0__1 q0 q1) = (norm_a_x0__1 (if (p4 &&& (1 : Int32)) = (0 : Int32) then q3 else (norm_a_x0__0 q0 q1)) (if (p4 &&& (2 : Int32)) = (0 : Int32) then q3 else (norm_a_x0__1 q0 q1))) then (if (norm_a_x0__2 q0 q1 q2) = (norm_a_x0__2 (if (p4 &&& (1 : Int32)) = (0 : Int32) then q3 else (norm_a_x0__0 q0 q1)) (if (p4 &&& (2 : Int32)) = (0 : Int32) then q3 else (norm_a_x0__1 q0 q1)) (if (p4 &&& (4 : Int32)) = (0 : Int32) then q3 else (norm_a_x0__2 q0 q1 q2))) then (1 : Int32) else (0 : Int32)) else (0 : Int32)) else (0 : Int32)))] [(.int (0 : Int32))])) t
          refine XS.ifNo X255.here hx rfl (hb hby at_211) rfl ((if0 _ _).trans (teq (by decide)).2) ?_
          show Steps p.tables e below (T255.setTop (mkF m 214 #[.val (.long q0), .second, .val (.long q1), .second, .val (.long q2), .second, .val (.long q3), .second, .val (.int p4), .val (.ref b135), .val (.long (if (p4 &&& (1 : Int32)) = (0 : Int32) then q3 else (norm_a_x0__0 q0 q1))), .second, .val (.long (if (p4 &&& (2 : Int32)) = (0 : Int32) then q3 else (norm_a_x0__1 q0 q1))), .second, .val (.long (if (p4 &&& (4 : Int32)) = (0 : Int32) then q3 else (norm_a_x0__2 q0 q1 q2))), .second, .val (.ref b146), .val (.ref b157), .val (.ref b183), .val (.int (if (norm_a_x0__0 q0 q1) = (norm_a_x0__0 (if (p4 &&& (1 : Int32)) = (0 : Int32) then q3 else (norm_a_x0__0 q0 q1)) (if (p4 &&& (2 : Int32)) = (0 : Int32) then q3 else (norm_a_x0__1 q0 q1))) then (if (norm_a_x0__1 q0 q1) = (norm_a_x0__1 (if (p4 &&& (1 : Int32)) = (0 : Int32) then q3 else (norm_a_x0__0 q0 q1)) (if (p4 &&& (2 : Int32)) = (0 : Int32) then q3 else (norm_a_x0__1 q0 q1))) then (if (norm_a_x0__2 q0 q1 q2) = (norm_a_x0__2 (if (p4 &&& (1 : Int32)) = (0 : Int32) then q3 else (norm_a_x0__0 q0 q1)) (if (p4 &&& (2 : Int32)) = (0 : Int32) then q3 else (norm_a_x0__1 q0 q1)) (if (p4 &&& (4 : Int32)) = (0 : Int32) then q3 else (norm_a_x0__2 q0 q1 q2))) then (1 : Int32) else (0 : Int32)) else (0 : Int32)) else (0 : Int32)))] [])) t
          refine XS.iconst X255.here hx rfl (hb hby at_214) ?_
          show Steps p.tables e below (T255.setTop (mkF m 215 #[.val (.long q0), .second, .val (.long q1), .second, .val (.long q2), .second, .val (.long q3), .second, .val (.int p4), .val (.ref b135), .val (.long (if (p4 &&& (1 : Int32)) = (0 : Int32) then q3 else (norm_a_x0__0 q0 q1))), .second, .val (.long (if (p4 &&& (2 : Int32)) = (0 : Int32) then q3 else (norm_a_x0__1 q0 q1))), .second, .val (.long (if (p4 &&& (4 : Int32)) = (0 : Int32) then q3 else (norm_a_x0__2 q0 q1 q2))), .second, .val (.ref b146), .val (.ref b157), .val (.ref b183), .val (.int (if (norm_a_x0__0 q0 q1) = (norm_a_x0__0 (if (p4 &&& (1 : Int32)) = (0 : Int32) then q3 else (norm_a_x0__0 q0 q1)) (if (p4 &&& (2 : Int32)) = (0 : Int32) then q3 else (norm_a_x0__1 q0 q1))) then (if (norm_a_x0__1 q0 q1) = (norm_a_x0__1 (if (p4 &&& (1 : Int32)) = (0 : Int32) then q3 else (norm_a_x0__0 q0 q1)) (if (p4 &&& (2 : Int32)) = (0 : Int32) then q3 else (norm_a_x0__1 q0 q1))) then (if (norm_a_x0__2 q0 q1 q2) = (norm_a_x0__2 (if (p4 &&& (1 : Int32)) = (0 : Int32) then q3 else (norm_a_x0__0 q0 q1)) (if (p4 &&& (2 : Int32)) = (0 : Int32) then q3 else (norm_a_x0__1 q0 q1)) (if (p4 &&& (4 : Int32)) = (0 : Int32) then q3 else (norm_a_x0__2 q0 q1 q2))) then (1 : Int32) else (0 : Int32)) else (0 : Int32)) else (0 : Int32)))] [(.int (1 : Int32))])) t
          refine XS.goto X255.here hx rfl (pc0 := 215) (pc' := 219) rfl (hb hby at_215) (by decide) (by decide) ?_
          exact k
        obtain ⟨fs, hr, hrun, hended, hW, hsame⟩ := X255.leave (v := some (.int (1 : Int32))) (fun h => by rw [Bd.returns] at h; cases h)
        refine own_end (v := some (.int (1 : Int32))) ?_ hrun hended ?_ hW (hsame.mono (by decide) (by decide))
        · show Steps p.tables e below (T255.setTop (mkF m 219 #[.val (.long q0), .second, .val (.long q1), .second, .val (.long q2), .second, .val (.long q3), .second, .val (.int p4), .val (.ref b135), .val (.long (if (p4 &&& (1 : Int32)) = (0 : Int32) then q3 else (norm_a_x0__0 q0 q1))), .second, .val (.long (if (p4 &&& (2 : Int32)) = (0 : Int32) then q3 else (norm_a_x0__1 q0 q1))), .second, .val (.long (if (p4 &&& (4 : Int32)) = (0 : Int32) then q3 else (norm_a_x0__2 q0 q1 q2))), .second, .val (.ref b146), .val (.ref b157), .val (.ref b183), .val (.int (if (norm_a_x0__0 q0 q1) = (norm_a_x0__0 (if (p4 &&& (1 : Int32)) = (0 : Int32) then q3 else (norm_a_x0__0 q0 q1)) (if (p4 &&& (2 : Int32)) = (0 : Int32) then q3 else (norm_a_x0__1 q0 q1))) then (if (norm_a_x0__1 q0 q1) = (norm_a_x0__1 (if (p4 &&& (1 : Int32)) = (0 : Int32) then q3 else (norm_a_x0__0 q0 q1)) (if (p4 &&& (2 : Int32)) = (0 : Int32) then q3 else (norm_a_x0__1 q0 q1))) then (if (norm_a_x0__2 q0 q1 q2) = (norm_a_x0__2 (if (p4 &&& (1 : Int32)) = (0 : Int32) then q3 else (norm_a_x0__0 q0 q1)) (if (p4 &&& (2 : Int32)) = (0 : Int32) then q3 else (norm_a_x0__1 q0 q1)) (if (p4 &&& (4 : Int32)) = (0 : Int32) then q3 else (norm_a_x0__2 q0 q1 q2))) then (1 : Int32) else (0 : Int32)) else (0 : Int32)) else (0 : Int32)))] [(.int (1 : Int32))])) _
          exact retN X255 hx (t := .boolean) Bd.returns (by simp) (hb hby at_219) hr
        · show Qrm0 Z q0 q1 q2 q3 p4 w_s_cache h0 n0 _ T255.heap _
          rw [e255]
          exact ⟨rfl, N258⟩
    · skip
      exfalso
      exact hc180 (own_eq2 _ _ _ _ _ _)
  · skip
    exfalso
    exact hc168 rfl
theorem own_cache {args : Array Value} {s : State} {t : Term} {d : Jvm.Cond} {a : Addr} (ev : ∀ idx, t.eval args s none idx s = some (.ref a)) (h1 : (Jvm.Cond.arrayOf t (.object "java/lang/Long")).value args s none s [] = some true) (h2 : (Jvm.Cond.eq (.length t) (.int (256 : Int32))).value args s none s [] = some true) (h3 : (Jvm.Cond.all t (.and (.exactly (.elem t (.index 0)) "java/lang/Long") d)).value args s none s [] = some true) : own_Cache s a := by
  obtain ⟨c, A⟩ := Arr.start (ev []) h1
  obtain ⟨x, y, e1, e2, -, -⟩ := cmp_v (Or.inl h2)
  obtain ⟨a', cell, q1, q2, rfl⟩ := Term.length_spec e1
  cases (ev []).symm.trans q1
  have hA := A.fin (Vm.Alike.refl _)
  cases hA.symm.trans q2
  have e3 : y = .int (256 : Int32) := (Option.some.inj e2).symm
  subst e3
  have hl : c.slots.size < 2 ^ 31 := by
    by_cases hb : c.slots.size < 2147483648
    · exact hb
    · simp [Term.eval, ev [], hA, hb] at e1
  have h4 := congrArg Int32.toInt (gotT (Cond.eq_ints e1 e2) h2)
  rw [len_toInt hl] at h4
  have z : (256 : Int32).toInt = 256 := rfl
  have sz : c.slots.size = 256 := by omega
  refine ⟨c, A, sz, fun j hj => ?_⟩
  have q := (and_e (Cond.all_elim (ev []) hA h3 j (by omega))).1
  obtain ⟨b, eb⟩ := exa_v q
  refine ⟨b, ?_, exa_at eb q⟩
  have hj2 : ¬ (j.toInt32 < 0 ∨ c.slots.size ≤ j.toInt32.toNatClampNeg) := idx_in (by omega) hl
  have e5 : (Term.index 0).eval args s none [j] s = some (.int j.toInt32) := Term.index_eval _
  have e6 := elem_f (a := .index 0) (ev [j]) e5 hA (fun h => hj2 (Or.inl h))
  rw [eb] at e6
  have e7 : j.toInt32.toNatClampNeg = j := by
    have := len_toInt (n := j) (by omega)
    show j.toInt32.toInt.toNat = j
    omega
  rw [e7] at e6
  exact e6.symm
set_option maxRecDepth 65536 in
set_option maxHeartbeats 40000000 in
theorem comes_1 {Post : Tables → Env → Array Value → State → Outcome → State → Prop} (hpost : ∀ tb e args s v u, (limb_1_1.after args s (.returned v) u = true ∧ limb_1_2.after args s (.returned v) u = true ∧ True) → FrameEnd s (.returned v) u (Jvm.fieldLocs frame_1_writes args s ++ Jvm.arrayLocs frame_1_arrays args s ++ Jvm.staticLocs frame_1_statics s) 24 128 → Post tb e args s (.returned v) u) :
    ArmFor flags0 classFile x code maxLocals ret World_1 tables_1 room_1 Calls_1 rest_1 Pre_1 Post := by
  intro l hfl _ _ p e ha hc hk s m args below hf hA hF happ hP
  obtain ⟨hcalls, hrest, hpre⟩ := hP
  obtain ⟨-, -, -, hnamed, -, -, -, hat⟩ := (Spec.applies_iff hf).mp happ
  obtain ⟨hg, hn⟩ := and_e (Cond.before_iff.mp (show (Jvm.Cond.and given_1 narrow_1).before args s = true from hpre))
  obtain ⟨g259, g260⟩ := and_e hg
  obtain ⟨g261, g262⟩ := and_e g260
  obtain ⟨g263, g264⟩ := and_e g262
  obtain ⟨g265, g266⟩ := and_e g264
  obtain ⟨g267, g268⟩ := and_e g266
  obtain ⟨w0, w1, w2, w3, w4, rfl⟩ : ∃ w0 w1 w2 w3 w4 : Value, args = #[w0, w1, w2, w3, w4] := by
    have hs : args.size = 5 := by simpa [Cond.value, given_1] using g259
    obtain ⟨L⟩ := args
    match L, hs with
    | [w0, w1, w2, w3, w4], _ => exact ⟨w0, w1, w2, w3, w4, rfl⟩
  have hw := fun d (hd : d ∈ tables_1) => atoms_spec (ws := Jvm.Cond.code x code maxLocals ret :: tables_1) hat d (List.mem_cons_of_mem _ hd)
  have hfit : Fit s := fun {y c} hc i hi => by
    obtain ⟨ha, rfl⟩ := Array.getElem?_eq_some_iff.mp hc
    have q := List.all_eq_true.mp ((Array.all_eq_true_iff_forall_mem.mp hF) _ (Array.getElem_mem ha)) i (List.mem_range.mpr hi)
    simpa [Array.getElem?_eq_getElem hi] using q
  obtain ⟨hsets, hown0⟩ := atoms_of _ (rest_1_c_eq ▸ (show rest_1_c.before _ s = true from hrest))
  have hr0 := Cond.before_iff.mp hown0
  obtain ⟨i0, ei0⟩ := isL_v g261
  obtain rfl : w0 = (.long i0) := Option.some.inj ei0
  obtain ⟨i1, ei1⟩ := isL_v g263
  obtain rfl : w1 = (.long i1) := Option.some.inj ei1
  obtain ⟨i2, ei2⟩ := isL_v g265
  obtain rfl : w2 = (.long i2) := Option.some.inj ei2
  obtain ⟨i3, ei3⟩ := isL_v g267
  obtain rfl : w3 = (.long i3) := Option.some.inj ei3
  obtain ⟨i4, ei4⟩ := is_v g268
  obtain rfl : w4 = (.int i4) := Option.some.inj ei4
  obtain ⟨w_c, ev_c⟩ := arr_v (Cond.before_iff.mp (hsets _ (List.mem_of_getElem? (i := 2) rfl)))
  have S_cache : Sta s s.heap "java/lang/Long$LongCache" "cache" "[Ljava/lang/Long;" (.ref w_c) := Sta.start ev_c (Or.inl (hsets _ (List.mem_of_getElem? (i := 1) rfl)))
  have HC := own_cache (fun _ => ev_c) (Cond.before_iff.mp (hsets _ (List.mem_of_getElem? (i := 2) rfl))) (Cond.before_iff.mp (hsets _ (List.mem_of_getElem? (i := 4) rfl))) (Cond.before_iff.mp (hsets _ (List.mem_of_getElem? (i := 5) rfl)))
  obtain ⟨n, o, h1, h2, h3, _, L, rfl, ⟨rfl, N⟩, hq⟩ := rm0 l s _ hw tables_1 i0 i1 i2 i3 i4 w_c s.heap s.heap.size (Nat.le_refl _) (Old.start s) HC S_cache p e ha hc hk s m _ below hf ((Spec.applies_iff_loose hf).mp happ).1 ⟨rfl, State.Warmed39.refl s, rfl⟩ trivial
  refine ⟨n, _, h1, h2, h3, hpost _ _ _ _ _ _ ⟨Cond.after_iff.mpr rfl, Cond.after_iff.mpr (eq_i res_at (Term.int_eval (1)) rfl), trivial⟩ ⟨hq.1, hq.2.1, (hq.2.2.sift fun y hy => Or.inr (N y hy)).mono (by decide) (by decide)⟩⟩
theorem main_1_1 : Claimed_1_1 := comes_1 fun _ _ _ _ _ _ h hF => ⟨h.1, hF⟩
theorem main_1_2 : Claimed_1_2 := comes_1 fun _ _ _ _ _ _ h hF => ⟨h.2.1, hF⟩
end Jvm.Pilot.@@N@@
namespace Jvm.Pilot.@@N@@
open Jvm Jvm.ClassFile Sem Op Lib Jvm.Free Jvm.Stand Jvm.Pilot.@@N@@.Jvm.D
/-! MADE BY PROGRAM (witnessworld.py) out of the Statement's table words and the real class files: 19 classes; the members and pool entries that the words name. The judged class is class 1, her method 2. -/
namespace start1
open Jvm.ClassFile
def u (s : String) : CpInfo := .utf8 (stringToUtf16 s)
/-- a pool by its gaps: so many unusable entries, then the entry; so many at the end -/
def gap : Nat → List CpInfo → List CpInfo
  | 0, r => r
  | n + 1, r => .unusable :: gap n r
def poolList (es : List (Nat × CpInfo)) (last : Nat) : List CpInfo := es.foldr (fun e r => gap e.1 (e.2 :: r)) (gap last [])
def pool (es : List (Nat × CpInfo)) (last : Nat) : Array CpInfo := ⟨poolList es last⟩
def fileOf (pool : Array CpInfo) (this : Nat) (attrs : Array Attribute := #[]) (ms : Array MethodInfo := #[]) (fl : Nat := 33) (sup : Nat := 0) (ifs : Array Nat := #[]) (fds : Array FieldInfo := #[]) : ClassFile where
  minorVersion := 0
  majorVersion := 65
  constantPool := pool
  accessFlags := fl
  thisClass := this
  superClass := sup
  interfaces := ifs
  fields := fds
  methods := ms
  attributes := attrs
def plain (name : String) (sup : Option ClassId) : Class where
  name := name
  kind := .ordinary
  loader := none
  accessFlags := 33
  super := sup
  interfaces := #[]
  cf := none
  fields := #[]
  methods := #[]
  instanceTypes := #[]
  staticTypes := #[]
  resolved := #[]
  callSites := []
  init := .initialized
  statics := none
  mirror := none

def pool0 : Array CpInfo := pool [(5, u "<init>"), (0, u "()V"), (1, .class_ 10), (1, u "java/lang/Object")] 113

def k0c0 : Code := { maxStack := 0, maxLocals := 1, code := object_method_1_code, exceptionTable := #[], attributes := #[] }
def k0m0 : Method := { name := "<init>", desc := "()V", sig := { parameters := [], returnType := none }, accessFlags := 1, code := some k0c0 }
/-- java/lang/Object -/
def k0 : Class := { plain "java/lang/Object" none with
  accessFlags := 33
  interfaces := #[]
  cf := some (fileOf pool0 8 #[] #[{ accessFlags := 1, nameIndex := 5, descriptorIndex := 6, attributes := #[] }] 33 0 #[] #[])
  fields := #[]
  methods := #[k0m0]
  instanceTypes := #[]
  staticTypes := #[]
  resolved := Array.replicate 124 none
  statics := none }

def pool1 : Array CpInfo := pool [(2, .class_ 4), (1, u "java/lang/Object"), (0, u "<init>"), (0, u "()V"), (0, .methodref 8 9), (0, .class_ 10), (0, .nameAndType 11 12), (0, u "java/lang/Math"), (0, u "min"), (0, u "(JJ)J"), (0, .methodref 8 14), (0, .nameAndType 15 12), (0, u "max"), (0, .class_ 17), (0, u "java/lang/Long"), (0, .long 9223372036854775808), (1, .methodref 21 22), (0, .class_ 23), (0, .nameAndType 24 25), (0, u "com/example/sure_sequence/suresequence/RegionRangeEqualsPinLaw"), (0, u "norm"), (0, u "(JJJ)[J"), (0, .class_ 27), (0, u "com/example/sure_sequence/suresequence/RegionRange"), (0, .methodref 26 29), (0, .nameAndType 5 30), (0, u "(JJJ)V"), (0, .methodref 26 32), (0, .nameAndType 33 34), (0, u "equals"), (0, u "(Ljava/lang/Object;)Z"), (0, .methodref 16 36), (0, .nameAndType 37 38), (0, u "valueOf"), (0, u "(J)Ljava/lang/Long;"), (3, u "law"), (0, u "(JJJJI)Z")] 4

def k1m0 : Method := { name := "<init>", desc := "()V", sig := { parameters := [], returnType := none }, accessFlags := 1, code := none }
def k1c1 : Code := { maxStack := 6, maxLocals := 12, code := method_2_code, exceptionTable := #[], attributes := #[] }
def k1m1 : Method := { name := "norm", desc := "(JJJ)[J", sig := { parameters := [.long, .long, .long], returnType := some (.array .long) }, accessFlags := 10, code := some k1c1 }
def k1c2 : Code := { maxStack := 8, maxLocals := 20, code := code, exceptionTable := #[], attributes := #[] }
def k1m2 : Method := { name := "law", desc := "(JJJJI)Z", sig := { parameters := [.long, .long, .long, .long, .int], returnType := some .boolean }, accessFlags := 9, code := some k1c2 }
/-- com/example/sure_sequence/suresequence/RegionRangeEqualsPinLaw -/
def k1 : Class := { plain "com/example/sure_sequence/suresequence/RegionRangeEqualsPinLaw" (some 0) with
  accessFlags := 49
  interfaces := #[]
  cf := some (fileOf pool1 21 #[] #[{ accessFlags := 1, nameIndex := 5, descriptorIndex := 6, attributes := #[] }, { accessFlags := 10, nameIndex := 24, descriptorIndex := 25, attributes := #[] }, { accessFlags := 9, nameIndex := 42, descriptorIndex := 43, attributes := #[] }] 49 2 #[] #[])
  fields := #[]
  methods := #[k1m0, k1m1, k1m2]
  instanceTypes := #[]
  staticTypes := #[]
  resolved := Array.replicate 48 none
  statics := none }

def pool2 : Array CpInfo := pool [(1, .class_ 2), (0, u "java/lang/Math"), (1, .class_ 6), (1, u "java/lang/Object"), (0, u "<init>"), (0, u "()V"), (89, .class_ 100), (1, u "java/lang/Math$RandomNumberGeneratorHolder"), (20, u "(JJ)J"), (50, u "negativeZeroFloatBits"), (0, u "J"), (2, u "negativeZeroDoubleBits"), (21, u "max"), (2, u "min"), (43, u "$assertionsDisabled"), (0, u "Z"), (91, u "twoToTheDoubleScaleDown"), (0, u "D"), (4, u "twoToTheDoubleScaleUp"), (9, u "E"), (3, u "PI"), (2, u "TAU"), (2, u "DEGREES_TO_RADIANS"), (0, u "RADIANS_TO_DEGREES")] 94

def k2m0 : Method := { name := "<init>", desc := "()V", sig := { parameters := [], returnType := none }, accessFlags := 2, code := none }
def k2c1 : Code := { maxStack := 4, maxLocals := 4, code := jdk_29_method_66_code, exceptionTable := #[], attributes := #[] }
def k2m1 : Method := { name := "max", desc := "(JJ)J", sig := { parameters := [.long, .long], returnType := some .long }, accessFlags := 9, code := some k2c1 }
def k2c2 : Code := { maxStack := 4, maxLocals := 4, code := jdk_29_method_70_code, exceptionTable := #[], attributes := #[] }
def k2m2 : Method := { name := "min", desc := "(JJ)J", sig := { parameters := [.long, .long], returnType := some .long }, accessFlags := 9, code := some k2c2 }
/-- java/lang/Math -/
def k2 : Class := { plain "java/lang/Math" (some 0) with
  accessFlags := 49
  interfaces := #[]
  cf := some (fileOf pool2 1 #[.nestMembers #[98]] #[{ accessFlags := 2, nameIndex := 7, descriptorIndex := 8, attributes := #[] }, { accessFlags := 9, nameIndex := 198, descriptorIndex := 121, attributes := #[] }, { accessFlags := 9, nameIndex := 201, descriptorIndex := 121, attributes := #[] }] 49 4 #[] #[{ accessFlags := 25, nameIndex := 354, descriptorIndex := 339, attributes := #[] }, { accessFlags := 25, nameIndex := 358, descriptorIndex := 339, attributes := #[] }, { accessFlags := 25, nameIndex := 361, descriptorIndex := 339, attributes := #[] }, { accessFlags := 26, nameIndex := 364, descriptorIndex := 339, attributes := #[] }, { accessFlags := 26, nameIndex := 365, descriptorIndex := 339, attributes := #[] }, { accessFlags := 26, nameIndex := 172, descriptorIndex := 173, attributes := #[] }, { accessFlags := 26, nameIndex := 176, descriptorIndex := 173, attributes := #[] }, { accessFlags := 8, nameIndex := 344, descriptorIndex := 339, attributes := #[] }, { accessFlags := 8, nameIndex := 338, descriptorIndex := 339, attributes := #[] }, { accessFlags := 4120, nameIndex := 245, descriptorIndex := 246, attributes := #[] }])
  fields := #[{ name := "E", type := .double, accessFlags := 25, slot := 0, constantValue := 0 }, { name := "PI", type := .double, accessFlags := 25, slot := 1, constantValue := 0 }, { name := "TAU", type := .double, accessFlags := 25, slot := 2, constantValue := 0 }, { name := "DEGREES_TO_RADIANS", type := .double, accessFlags := 26, slot := 3, constantValue := 0 }, { name := "RADIANS_TO_DEGREES", type := .double, accessFlags := 26, slot := 4, constantValue := 0 }, { name := "negativeZeroFloatBits", type := .long, accessFlags := 26, slot := 5, constantValue := 0 }, { name := "negativeZeroDoubleBits", type := .long, accessFlags := 26, slot := 6, constantValue := 0 }, { name := "twoToTheDoubleScaleUp", type := .double, accessFlags := 8, slot := 7, constantValue := 0 }, { name := "twoToTheDoubleScaleDown", type := .double, accessFlags := 8, slot := 8, constantValue := 0 }, { name := "$assertionsDisabled", type := .boolean, accessFlags := 4120, slot := 9, constantValue := 0 }]
  methods := #[k2m0, k2m1, k2m2]
  instanceTypes := #[]
  staticTypes := #[.double, .double, .double, .double, .double, .long, .long, .double, .double, .boolean]
  resolved := Array.replicate 460 none
  statics := none }

def pool3 : Array CpInfo := pool [(1, .methodref 2 3), (0, .class_ 4), (0, .nameAndType 5 6), (0, u "java/lang/Object"), (0, u "<init>"), (0, u "()V"), (9, .fieldref 17 18), (0, .class_ 19), (0, .nameAndType 20 21), (0, u "com/example/sure_sequence/suresequence/RegionRange"), (0, u "low"), (0, u "J"), (0, .fieldref 17 23), (0, .nameAndType 24 21), (0, u "high"), (0, .fieldref 17 26), (0, .nameAndType 27 21), (0, u "highWater"), (2, u "(JJJ)V"), (36, u "equals"), (0, u "(Ljava/lang/Object;)Z")] 23

def k3c0 : Code := { maxStack := 12, maxLocals := 7, code := prog_7_method_1_code, exceptionTable := #[], attributes := #[] }
def k3m0 : Method := { name := "<init>", desc := "(JJJ)V", sig := { parameters := [.long, .long, .long], returnType := none }, accessFlags := 0, code := some k3c0 }
def k3c1 : Code := { maxStack := 4, maxLocals := 2, code := prog_7_method_10_code, exceptionTable := #[], attributes := #[] }
def k3m1 : Method := { name := "equals", desc := "(Ljava/lang/Object;)Z", sig := { parameters := [(.object "java/lang/Object")], returnType := some .boolean }, accessFlags := 1, code := some k3c1 }
/-- com/example/sure_sequence/suresequence/RegionRange -/
def k3 : Class := { plain "com/example/sure_sequence/suresequence/RegionRange" (some 0) with
  accessFlags := 48
  interfaces := #[]
  cf := some (fileOf pool3 17 #[] #[{ accessFlags := 0, nameIndex := 5, descriptorIndex := 30, attributes := #[] }, { accessFlags := 1, nameIndex := 67, descriptorIndex := 68, attributes := #[] }] 48 2 #[] #[{ accessFlags := 18, nameIndex := 20, descriptorIndex := 21, attributes := #[] }, { accessFlags := 18, nameIndex := 24, descriptorIndex := 21, attributes := #[] }, { accessFlags := 18, nameIndex := 27, descriptorIndex := 21, attributes := #[] }])
  fields := #[{ name := "low", type := .long, accessFlags := 18, slot := 0, constantValue := 0 }, { name := "high", type := .long, accessFlags := 18, slot := 1, constantValue := 0 }, { name := "highWater", type := .long, accessFlags := 18, slot := 2, constantValue := 0 }]
  methods := #[k3m0, k3m1]
  instanceTypes := #[.long, .long, .long]
  staticTypes := #[]
  resolved := Array.replicate 92 none
  statics := none }

def pool4 : Array CpInfo := pool [(1, .class_ 2), (0, u "java/io/Serializable"), (0, .class_ 4), (0, u "java/lang/Object")] 2

/-- java/io/Serializable -/
def k4 : Class := { plain "java/io/Serializable" (some 0) with
  accessFlags := 1537
  interfaces := #[]
  cf := some (fileOf pool4 1 #[] #[] 1537 3 #[] #[])
  fields := #[]
  methods := #[]
  instanceTypes := #[]
  staticTypes := #[]
  resolved := Array.replicate 7 none
  statics := none }

def pool5 : Array CpInfo := pool [(1, .methodref 2 3), (0, .class_ 4), (0, .nameAndType 5 6), (0, u "java/lang/Object"), (0, u "<init>"), (0, u "()V"), (1, .class_ 10), (1, u "java/lang/Number"), (2, .class_ 14), (0, u "java/io/Serializable"), (0, u "serialVersionUID"), (0, u "J")] 20

def k5c0 : Code := { maxStack := 1, maxLocals := 1, code := jdk_18_method_1_code, exceptionTable := #[], attributes := #[] }
def k5m0 : Method := { name := "<init>", desc := "()V", sig := { parameters := [], returnType := none }, accessFlags := 1, code := some k5c0 }
/-- java/lang/Number -/
def k5 : Class := { plain "java/lang/Number" (some 0) with
  accessFlags := 1057
  interfaces := #[4]
  cf := some (fileOf pool5 8 #[] #[{ accessFlags := 1, nameIndex := 5, descriptorIndex := 6, attributes := #[] }] 1057 2 #[13] #[{ accessFlags := 26, nameIndex := 15, descriptorIndex := 16, attributes := #[] }])
  fields := #[{ name := "serialVersionUID", type := .long, accessFlags := 26, slot := 0, constantValue := 0 }]
  methods := #[k5m0]
  instanceTypes := #[]
  staticTypes := #[.long]
  resolved := Array.replicate 37 none
  statics := none }

def pool6 : Array CpInfo := pool [(1, .class_ 2), (0, u "java/lang/Comparable"), (0, .class_ 4), (0, u "java/lang/Object")] 7

/-- java/lang/Comparable -/
def k6 : Class := { plain "java/lang/Comparable" (some 0) with
  accessFlags := 1537
  interfaces := #[]
  cf := some (fileOf pool6 1 #[] #[] 1537 3 #[] #[])
  fields := #[]
  methods := #[]
  instanceTypes := #[]
  staticTypes := #[]
  resolved := Array.replicate 12 none
  statics := none }

def pool7 : Array CpInfo := pool [(1, .class_ 2), (0, u "java/lang/constant/Constable"), (0, .class_ 4), (0, u "java/lang/Object")] 6

/-- java/lang/constant/Constable -/
def k7 : Class := { plain "java/lang/constant/Constable" (some 0) with
  accessFlags := 1537
  interfaces := #[]
  cf := some (fileOf pool7 1 #[] #[] 1537 3 #[] #[])
  fields := #[]
  methods := #[]
  instanceTypes := #[]
  staticTypes := #[]
  resolved := Array.replicate 11 none
  statics := none }

def pool8 : Array CpInfo := pool [(1, .class_ 2), (0, u "java/lang/constant/ConstantDesc"), (0, .class_ 4), (0, u "java/lang/Object")] 32

/-- java/lang/constant/ConstantDesc -/
def k8 : Class := { plain "java/lang/constant/ConstantDesc" (some 0) with
  accessFlags := 1537
  interfaces := #[]
  cf := some (fileOf pool8 1 #[] #[] 1537 3 #[] #[])
  fields := #[]
  methods := #[]
  instanceTypes := #[]
  staticTypes := #[]
  resolved := Array.replicate 37 none
  statics := none }

def pool9 : Array CpInfo := pool [(1, .class_ 2), (0, u "java/lang/Long"), (55, .nameAndType 59 60), (0, u "<init>"), (0, u "()V"), (24, u "valueOf"), (143, u "(J)Ljava/lang/Long;"), (0, .long 18446744073709551488), (1, .long 127), (1, .fieldref 235 236), (0, .class_ 237), (0, .nameAndType 238 239), (0, u "java/lang/Long$LongCache"), (0, u "cache"), (0, u "[Ljava/lang/Long;"), (0, .methodref 1 241), (0, .nameAndType 59 242), (0, u "(J)V"), (27, .methodref 271 58), (0, .class_ 272), (0, u "java/lang/Number"), (0, .fieldref 1 274), (0, .nameAndType 275 276), (0, u "value"), (0, u "J"), (84, u "TYPE"), (0, u "Ljava/lang/Class;"), (0, .class_ 364), (0, u "java/lang/Comparable"), (0, .class_ 366), (0, u "java/lang/constant/Constable"), (0, .class_ 368), (0, u "java/lang/constant/ConstantDesc"), (0, u "MIN_VALUE"), (1, u "MAX_VALUE"), (4, u "SIZE"), (0, u "I"), (1, u "BYTES"), (1, u "serialVersionUID")] 142

def k9c0 : Code := { maxStack := 4, maxLocals := 3, code := jdk_35_method_24_code, exceptionTable := #[], attributes := #[] }
def k9m0 : Method := { name := "valueOf", desc := "(J)Ljava/lang/Long;", sig := { parameters := [.long], returnType := some (.object "java/lang/Long") }, accessFlags := 9, code := some k9c0 }
def k9c1 : Code := { maxStack := 3, maxLocals := 3, code := jdk_35_method_26_code, exceptionTable := #[], attributes := #[] }
def k9m1 : Method := { name := "<init>", desc := "(J)V", sig := { parameters := [.long], returnType := none }, accessFlags := 1, code := some k9c1 }
/-- java/lang/Long -/
def k9 : Class := { plain "java/lang/Long" (some 5) with
  accessFlags := 49
  interfaces := #[6, 7, 8]
  cf := some (fileOf pool9 1 #[.nestMembers #[235]] #[{ accessFlags := 9, nameIndex := 85, descriptorIndex := 229, attributes := #[] }, { accessFlags := 1, nameIndex := 59, descriptorIndex := 242, attributes := #[] }] 49 271 #[363, 365, 367] #[{ accessFlags := 25, nameIndex := 369, descriptorIndex := 276, attributes := #[] }, { accessFlags := 25, nameIndex := 371, descriptorIndex := 276, attributes := #[] }, { accessFlags := 25, nameIndex := 361, descriptorIndex := 362, attributes := #[] }, { accessFlags := 18, nameIndex := 275, descriptorIndex := 276, attributes := #[] }, { accessFlags := 25, nameIndex := 376, descriptorIndex := 377, attributes := #[] }, { accessFlags := 25, nameIndex := 379, descriptorIndex := 377, attributes := #[] }, { accessFlags := 26, nameIndex := 381, descriptorIndex := 276, attributes := #[] }])
  fields := #[{ name := "MIN_VALUE", type := .long, accessFlags := 25, slot := 0, constantValue := 0 }, { name := "MAX_VALUE", type := .long, accessFlags := 25, slot := 1, constantValue := 0 }, { name := "TYPE", type := (.object "java/lang/Class"), accessFlags := 25, slot := 2, constantValue := 0 }, { name := "value", type := .long, accessFlags := 18, slot := 0, constantValue := 0 }, { name := "SIZE", type := .int, accessFlags := 25, slot := 3, constantValue := 0 }, { name := "BYTES", type := .int, accessFlags := 25, slot := 4, constantValue := 0 }, { name := "serialVersionUID", type := .long, accessFlags := 26, slot := 5, constantValue := 0 }]
  methods := #[k9m0, k9m1]
  instanceTypes := #[.long]
  staticTypes := #[.long, .long, (.object "java/lang/Class"), .int, .int, .long]
  resolved := Array.replicate 524 none
  statics := none }

def pool10 : Array CpInfo := pool [(2, .class_ 4), (1, u "java/lang/Object"), (0, u "<init>"), (0, u "()V"), (0, .class_ 8), (0, u "java/lang/Long"), (7, .class_ 18), (1, u "java/lang/Long$LongCache"), (0, u "$assertionsDisabled"), (0, u "Z"), (8, u "archivedCache"), (0, u "[Ljava/lang/Long;"), (7, u "cache")] 24

def k10m0 : Method := { name := "<init>", desc := "()V", sig := { parameters := [], returnType := none }, accessFlags := 2, code := none }
/-- java/lang/Long$LongCache -/
def k10 : Class := { plain "java/lang/Long$LongCache" (some 0) with
  accessFlags := 48
  interfaces := #[]
  cf := some (fileOf pool10 16 #[.nestHost 7] #[{ accessFlags := 2, nameIndex := 5, descriptorIndex := 6, attributes := #[] }] 48 2 #[] #[{ accessFlags := 24, nameIndex := 38, descriptorIndex := 30, attributes := #[] }, { accessFlags := 8, nameIndex := 29, descriptorIndex := 30, attributes := #[] }, { accessFlags := 4120, nameIndex := 19, descriptorIndex := 20, attributes := #[] }])
  fields := #[{ name := "cache", type := (.array (.object "java/lang/Long")), accessFlags := 24, slot := 0, constantValue := 0 }, { name := "archivedCache", type := (.array (.object "java/lang/Long")), accessFlags := 8, slot := 1, constantValue := 0 }, { name := "$assertionsDisabled", type := .boolean, accessFlags := 4120, slot := 2, constantValue := 0 }]
  methods := #[k10m0]
  instanceTypes := #[]
  staticTypes := #[(.array (.object "java/lang/Long")), (.array (.object "java/lang/Long")), .boolean]
  resolved := Array.replicate 63 none
  statics := some 0 }

def pool11 : Array CpInfo := pool [(1, u "java/lang/Cloneable"), (0, .class_ 1), (0, u "java/lang/Object"), (0, .class_ 3)] 3

/-- java/lang/Cloneable -/
def k11 : Class := { plain "java/lang/Cloneable" (some 0) with
  accessFlags := 1537
  interfaces := #[]
  cf := some (fileOf pool11 2 #[] #[] 1537 4 #[] #[])
  fields := #[]
  methods := #[]
  instanceTypes := #[]
  staticTypes := #[]
  resolved := Array.replicate 8 none
  statics := none }

/-- the primitive byte -/
def k12 : Class := { plain "byte" none with kind := .primitive 'B', accessFlags := 0x411 }
/-- [B -/
def k13 : Class := { plain "[B" (some 0) with kind := .array 12 .byte, interfaces := #[11, 4], accessFlags := 1041 }

/-- the primitive int -/
def k14 : Class := { plain "int" none with kind := .primitive 'I', accessFlags := 0x411 }
/-- [I -/
def k15 : Class := { plain "[I" (some 0) with kind := .array 14 .int, interfaces := #[11, 4], accessFlags := 1041 }

/-- the primitive long -/
def k16 : Class := { plain "long" none with kind := .primitive 'J', accessFlags := 0x411 }
/-- [J -/
def k17 : Class := { plain "[J" (some 0) with kind := .array 16 .long, interfaces := #[11, 4], accessFlags := 1041 }

/-- [Ljava/lang/Long; -/
def k18 : Class := { plain "[Ljava/lang/Long;" (some 0) with kind := .array 9 (.object "java/lang/Long"), interfaces := #[11, 4], accessFlags := 1041 }

def heap : Heap := #[{ cls := 10, slots := #[.ref 1, .null, .int 0], vm := .statics 10 },
  { cls := 18, slots := #[.ref 2, .ref 3, .ref 4, .ref 5, .ref 6, .ref 7, .ref 8, .ref 9, .ref 10, .ref 11, .ref 12, .ref 13, .ref 14, .ref 15, .ref 16, .ref 17, .ref 18, .ref 19, .ref 20, .ref 21, .ref 22, .ref 23, .ref 24, .ref 25, .ref 26, .ref 27, .ref 28, .ref 29, .ref 30, .ref 31, .ref 32, .ref 33, .ref 34, .ref 35, .ref 36, .ref 37, .ref 38, .ref 39, .ref 40, .ref 41, .ref 42, .ref 43, .ref 44, .ref 45, .ref 46, .ref 47, .ref 48, .ref 49, .ref 50, .ref 51, .ref 52, .ref 53, .ref 54, .ref 55, .ref 56, .ref 57, .ref 58, .ref 59, .ref 60, .ref 61, .ref 62, .ref 63, .ref 64, .ref 65, .ref 66, .ref 67, .ref 68, .ref 69, .ref 70, .ref 71, .ref 72, .ref 73, .ref 74, .ref 75, .ref 76, .ref 77, .ref 78, .ref 79, .ref 80, .ref 81, .ref 82, .ref 83, .ref 84, .ref 85, .ref 86, .ref 87, .ref 88, .ref 89, .ref 90, .ref 91, .ref 92, .ref 93, .ref 94, .ref 95, .ref 96, .ref 97, .ref 98, .ref 99, .ref 100, .ref 101, .ref 102, .ref 103, .ref 104, .ref 105, .ref 106, .ref 107, .ref 108, .ref 109, .ref 110, .ref 111, .ref 112, .ref 113, .ref 114, .ref 115, .ref 116, .ref 117, .ref 118, .ref 119, .ref 120, .ref 121, .ref 122, .ref 123, .ref 124, .ref 125, .ref 126, .ref 127, .ref 128, .ref 129, .ref 130, .ref 131, .ref 132, .ref 133, .ref 134, .ref 135, .ref 136, .ref 137, .ref 138, .ref 139, .ref 140, .ref 141, .ref 142, .ref 143, .ref 144, .ref 145, .ref 146, .ref 147, .ref 148, .ref 149, .ref 150, .ref 151, .ref 152, .ref 153, .ref 154, .ref 155, .ref 156, .ref 157, .ref 158, .ref 159, .ref 160, .ref 161, .ref 162, .ref 163, .ref 164, .ref 165, .ref 166, .ref 167, .ref 168, .ref 169, .ref 170, .ref 171, .ref 172, .ref 173, .ref 174, .ref 175, .ref 176, .ref 177, .ref 178, .ref 179, .ref 180, .ref 181, .ref 182, .ref 183, .ref 184, .ref 185, .ref 186, .ref 187, .ref 188, .ref 189, .ref 190, .ref 191, .ref 192, .ref 193, .ref 194, .ref 195, .ref 196, .ref 197, .ref 198, .ref 199, .ref 200, .ref 201, .ref 202, .ref 203, .ref 204, .ref 205, .ref 206, .ref 207, .ref 208, .ref 209, .ref 210, .ref 211, .ref 212, .ref 213, .ref 214, .ref 215, .ref 216, .ref 217, .ref 218, .ref 219, .ref 220, .ref 221, .ref 222, .ref 223, .ref 224, .ref 225, .ref 226, .ref 227, .ref 228, .ref 229, .ref 230, .ref 231, .ref 232, .ref 233, .ref 234, .ref 235, .ref 236, .ref 237, .ref 238, .ref 239, .ref 240, .ref 241, .ref 242, .ref 243, .ref 244, .ref 245, .ref 246, .ref 247, .ref 248, .ref 249, .ref 250, .ref 251, .ref 252, .ref 253, .ref 254, .ref 255, .ref 256, .ref 257], vm := .none },
  { cls := 9, slots := #[.long (-128)], vm := .none },
  { cls := 9, slots := #[.long (-127)], vm := .none },
  { cls := 9, slots := #[.long (-126)], vm := .none },
  { cls := 9, slots := #[.long (-125)], vm := .none },
  { cls := 9, slots := #[.long (-124)], vm := .none },
  { cls := 9, slots := #[.long (-123)], vm := .none },
  { cls := 9, slots := #[.long (-122)], vm := .none },
  { cls := 9, slots := #[.long (-121)], vm := .none },
  { cls := 9, slots := #[.long (-120)], vm := .none },
  { cls := 9, slots := #[.long (-119)], vm := .none },
  { cls := 9, slots := #[.long (-118)], vm := .none },
  { cls := 9, slots := #[.long (-117)], vm := .none },
  { cls := 9, slots := #[.long (-116)], vm := .none },
  { cls := 9, slots := #[.long (-115)], vm := .none },
  { cls := 9, slots := #[.long (-114)], vm := .none },
  { cls := 9, slots := #[.long (-113)], vm := .none },
  { cls := 9, slots := #[.long (-112)], vm := .none },
  { cls := 9, slots := #[.long (-111)], vm := .none },
  { cls := 9, slots := #[.long (-110)], vm := .none },
  { cls := 9, slots := #[.long (-109)], vm := .none },
  { cls := 9, slots := #[.long (-108)], vm := .none },
  { cls := 9, slots := #[.long (-107)], vm := .none },
  { cls := 9, slots := #[.long (-106)], vm := .none },
  { cls := 9, slots := #[.long (-105)], vm := .none },
  { cls := 9, slots := #[.long (-104)], vm := .none },
  { cls := 9, slots := #[.long (-103)], vm := .none },
  { cls := 9, slots := #[.long (-102)], vm := .none },
  { cls := 9, slots := #[.long (-101)], vm := .none },
  { cls := 9, slots := #[.long (-100)], vm := .none },
  { cls := 9, slots := #[.long (-99)], vm := .none },
  { cls := 9, slots := #[.long (-98)], vm := .none },
  { cls := 9, slots := #[.long (-97)], vm := .none },
  { cls := 9, slots := #[.long (-96)], vm := .none },
  { cls := 9, slots := #[.long (-95)], vm := .none },
  { cls := 9, slots := #[.long (-94)], vm := .none },
  { cls := 9, slots := #[.long (-93)], vm := .none },
  { cls := 9, slots := #[.long (-92)], vm := .none },
  { cls := 9, slots := #[.long (-91)], vm := .none },
  { cls := 9, slots := #[.long (-90)], vm := .none },
  { cls := 9, slots := #[.long (-89)], vm := .none },
  { cls := 9, slots := #[.long (-88)], vm := .none },
  { cls := 9, slots := #[.long (-87)], vm := .none },
  { cls := 9, slots := #[.long (-86)], vm := .none },
  { cls := 9, slots := #[.long (-85)], vm := .none },
  { cls := 9, slots := #[.long (-84)], vm := .none },
  { cls := 9, slots := #[.long (-83)], vm := .none },
  { cls := 9, slots := #[.long (-82)], vm := .none },
  { cls := 9, slots := #[.long (-81)], vm := .none },
  { cls := 9, slots := #[.long (-80)], vm := .none },
  { cls := 9, slots := #[.long (-79)], vm := .none },
  { cls := 9, slots := #[.long (-78)], vm := .none },
  { cls := 9, slots := #[.long (-77)], vm := .none },
  { cls := 9, slots := #[.long (-76)], vm := .none },
  { cls := 9, slots := #[.long (-75)], vm := .none },
  { cls := 9, slots := #[.long (-74)], vm := .none },
  { cls := 9, slots := #[.long (-73)], vm := .none },
  { cls := 9, slots := #[.long (-72)], vm := .none },
  { cls := 9, slots := #[.long (-71)], vm := .none },
  { cls := 9, slots := #[.long (-70)], vm := .none },
  { cls := 9, slots := #[.long (-69)], vm := .none },
  { cls := 9, slots := #[.long (-68)], vm := .none },
  { cls := 9, slots := #[.long (-67)], vm := .none },
  { cls := 9, slots := #[.long (-66)], vm := .none },
  { cls := 9, slots := #[.long (-65)], vm := .none },
  { cls := 9, slots := #[.long (-64)], vm := .none },
  { cls := 9, slots := #[.long (-63)], vm := .none },
  { cls := 9, slots := #[.long (-62)], vm := .none },
  { cls := 9, slots := #[.long (-61)], vm := .none },
  { cls := 9, slots := #[.long (-60)], vm := .none },
  { cls := 9, slots := #[.long (-59)], vm := .none },
  { cls := 9, slots := #[.long (-58)], vm := .none },
  { cls := 9, slots := #[.long (-57)], vm := .none },
  { cls := 9, slots := #[.long (-56)], vm := .none },
  { cls := 9, slots := #[.long (-55)], vm := .none },
  { cls := 9, slots := #[.long (-54)], vm := .none },
  { cls := 9, slots := #[.long (-53)], vm := .none },
  { cls := 9, slots := #[.long (-52)], vm := .none },
  { cls := 9, slots := #[.long (-51)], vm := .none },
  { cls := 9, slots := #[.long (-50)], vm := .none },
  { cls := 9, slots := #[.long (-49)], vm := .none },
  { cls := 9, slots := #[.long (-48)], vm := .none },
  { cls := 9, slots := #[.long (-47)], vm := .none },
  { cls := 9, slots := #[.long (-46)], vm := .none },
  { cls := 9, slots := #[.long (-45)], vm := .none },
  { cls := 9, slots := #[.long (-44)], vm := .none },
  { cls := 9, slots := #[.long (-43)], vm := .none },
  { cls := 9, slots := #[.long (-42)], vm := .none },
  { cls := 9, slots := #[.long (-41)], vm := .none },
  { cls := 9, slots := #[.long (-40)], vm := .none },
  { cls := 9, slots := #[.long (-39)], vm := .none },
  { cls := 9, slots := #[.long (-38)], vm := .none },
  { cls := 9, slots := #[.long (-37)], vm := .none },
  { cls := 9, slots := #[.long (-36)], vm := .none },
  { cls := 9, slots := #[.long (-35)], vm := .none },
  { cls := 9, slots := #[.long (-34)], vm := .none },
  { cls := 9, slots := #[.long (-33)], vm := .none },
  { cls := 9, slots := #[.long (-32)], vm := .none },
  { cls := 9, slots := #[.long (-31)], vm := .none },
  { cls := 9, slots := #[.long (-30)], vm := .none },
  { cls := 9, slots := #[.long (-29)], vm := .none },
  { cls := 9, slots := #[.long (-28)], vm := .none },
  { cls := 9, slots := #[.long (-27)], vm := .none },
  { cls := 9, slots := #[.long (-26)], vm := .none },
  { cls := 9, slots := #[.long (-25)], vm := .none },
  { cls := 9, slots := #[.long (-24)], vm := .none },
  { cls := 9, slots := #[.long (-23)], vm := .none },
  { cls := 9, slots := #[.long (-22)], vm := .none },
  { cls := 9, slots := #[.long (-21)], vm := .none },
  { cls := 9, slots := #[.long (-20)], vm := .none },
  { cls := 9, slots := #[.long (-19)], vm := .none },
  { cls := 9, slots := #[.long (-18)], vm := .none },
  { cls := 9, slots := #[.long (-17)], vm := .none },
  { cls := 9, slots := #[.long (-16)], vm := .none },
  { cls := 9, slots := #[.long (-15)], vm := .none },
  { cls := 9, slots := #[.long (-14)], vm := .none },
  { cls := 9, slots := #[.long (-13)], vm := .none },
  { cls := 9, slots := #[.long (-12)], vm := .none },
  { cls := 9, slots := #[.long (-11)], vm := .none },
  { cls := 9, slots := #[.long (-10)], vm := .none },
  { cls := 9, slots := #[.long (-9)], vm := .none },
  { cls := 9, slots := #[.long (-8)], vm := .none },
  { cls := 9, slots := #[.long (-7)], vm := .none },
  { cls := 9, slots := #[.long (-6)], vm := .none },
  { cls := 9, slots := #[.long (-5)], vm := .none },
  { cls := 9, slots := #[.long (-4)], vm := .none },
  { cls := 9, slots := #[.long (-3)], vm := .none },
  { cls := 9, slots := #[.long (-2)], vm := .none },
  { cls := 9, slots := #[.long (-1)], vm := .none },
  { cls := 9, slots := #[.long 0], vm := .none },
  { cls := 9, slots := #[.long 1], vm := .none },
  { cls := 9, slots := #[.long 2], vm := .none },
  { cls := 9, slots := #[.long 3], vm := .none },
  { cls := 9, slots := #[.long 4], vm := .none },
  { cls := 9, slots := #[.long 5], vm := .none },
  { cls := 9, slots := #[.long 6], vm := .none },
  { cls := 9, slots := #[.long 7], vm := .none },
  { cls := 9, slots := #[.long 8], vm := .none },
  { cls := 9, slots := #[.long 9], vm := .none },
  { cls := 9, slots := #[.long 10], vm := .none },
  { cls := 9, slots := #[.long 11], vm := .none },
  { cls := 9, slots := #[.long 12], vm := .none },
  { cls := 9, slots := #[.long 13], vm := .none },
  { cls := 9, slots := #[.long 14], vm := .none },
  { cls := 9, slots := #[.long 15], vm := .none },
  { cls := 9, slots := #[.long 16], vm := .none },
  { cls := 9, slots := #[.long 17], vm := .none },
  { cls := 9, slots := #[.long 18], vm := .none },
  { cls := 9, slots := #[.long 19], vm := .none },
  { cls := 9, slots := #[.long 20], vm := .none },
  { cls := 9, slots := #[.long 21], vm := .none },
  { cls := 9, slots := #[.long 22], vm := .none },
  { cls := 9, slots := #[.long 23], vm := .none },
  { cls := 9, slots := #[.long 24], vm := .none },
  { cls := 9, slots := #[.long 25], vm := .none },
  { cls := 9, slots := #[.long 26], vm := .none },
  { cls := 9, slots := #[.long 27], vm := .none },
  { cls := 9, slots := #[.long 28], vm := .none },
  { cls := 9, slots := #[.long 29], vm := .none },
  { cls := 9, slots := #[.long 30], vm := .none },
  { cls := 9, slots := #[.long 31], vm := .none },
  { cls := 9, slots := #[.long 32], vm := .none },
  { cls := 9, slots := #[.long 33], vm := .none },
  { cls := 9, slots := #[.long 34], vm := .none },
  { cls := 9, slots := #[.long 35], vm := .none },
  { cls := 9, slots := #[.long 36], vm := .none },
  { cls := 9, slots := #[.long 37], vm := .none },
  { cls := 9, slots := #[.long 38], vm := .none },
  { cls := 9, slots := #[.long 39], vm := .none },
  { cls := 9, slots := #[.long 40], vm := .none },
  { cls := 9, slots := #[.long 41], vm := .none },
  { cls := 9, slots := #[.long 42], vm := .none },
  { cls := 9, slots := #[.long 43], vm := .none },
  { cls := 9, slots := #[.long 44], vm := .none },
  { cls := 9, slots := #[.long 45], vm := .none },
  { cls := 9, slots := #[.long 46], vm := .none },
  { cls := 9, slots := #[.long 47], vm := .none },
  { cls := 9, slots := #[.long 48], vm := .none },
  { cls := 9, slots := #[.long 49], vm := .none },
  { cls := 9, slots := #[.long 50], vm := .none },
  { cls := 9, slots := #[.long 51], vm := .none },
  { cls := 9, slots := #[.long 52], vm := .none },
  { cls := 9, slots := #[.long 53], vm := .none },
  { cls := 9, slots := #[.long 54], vm := .none },
  { cls := 9, slots := #[.long 55], vm := .none },
  { cls := 9, slots := #[.long 56], vm := .none },
  { cls := 9, slots := #[.long 57], vm := .none },
  { cls := 9, slots := #[.long 58], vm := .none },
  { cls := 9, slots := #[.long 59], vm := .none },
  { cls := 9, slots := #[.long 60], vm := .none },
  { cls := 9, slots := #[.long 61], vm := .none },
  { cls := 9, slots := #[.long 62], vm := .none },
  { cls := 9, slots := #[.long 63], vm := .none },
  { cls := 9, slots := #[.long 64], vm := .none },
  { cls := 9, slots := #[.long 65], vm := .none },
  { cls := 9, slots := #[.long 66], vm := .none },
  { cls := 9, slots := #[.long 67], vm := .none },
  { cls := 9, slots := #[.long 68], vm := .none },
  { cls := 9, slots := #[.long 69], vm := .none },
  { cls := 9, slots := #[.long 70], vm := .none },
  { cls := 9, slots := #[.long 71], vm := .none },
  { cls := 9, slots := #[.long 72], vm := .none },
  { cls := 9, slots := #[.long 73], vm := .none },
  { cls := 9, slots := #[.long 74], vm := .none },
  { cls := 9, slots := #[.long 75], vm := .none },
  { cls := 9, slots := #[.long 76], vm := .none },
  { cls := 9, slots := #[.long 77], vm := .none },
  { cls := 9, slots := #[.long 78], vm := .none },
  { cls := 9, slots := #[.long 79], vm := .none },
  { cls := 9, slots := #[.long 80], vm := .none },
  { cls := 9, slots := #[.long 81], vm := .none },
  { cls := 9, slots := #[.long 82], vm := .none },
  { cls := 9, slots := #[.long 83], vm := .none },
  { cls := 9, slots := #[.long 84], vm := .none },
  { cls := 9, slots := #[.long 85], vm := .none },
  { cls := 9, slots := #[.long 86], vm := .none },
  { cls := 9, slots := #[.long 87], vm := .none },
  { cls := 9, slots := #[.long 88], vm := .none },
  { cls := 9, slots := #[.long 89], vm := .none },
  { cls := 9, slots := #[.long 90], vm := .none },
  { cls := 9, slots := #[.long 91], vm := .none },
  { cls := 9, slots := #[.long 92], vm := .none },
  { cls := 9, slots := #[.long 93], vm := .none },
  { cls := 9, slots := #[.long 94], vm := .none },
  { cls := 9, slots := #[.long 95], vm := .none },
  { cls := 9, slots := #[.long 96], vm := .none },
  { cls := 9, slots := #[.long 97], vm := .none },
  { cls := 9, slots := #[.long 98], vm := .none },
  { cls := 9, slots := #[.long 99], vm := .none },
  { cls := 9, slots := #[.long 100], vm := .none },
  { cls := 9, slots := #[.long 101], vm := .none },
  { cls := 9, slots := #[.long 102], vm := .none },
  { cls := 9, slots := #[.long 103], vm := .none },
  { cls := 9, slots := #[.long 104], vm := .none },
  { cls := 9, slots := #[.long 105], vm := .none },
  { cls := 9, slots := #[.long 106], vm := .none },
  { cls := 9, slots := #[.long 107], vm := .none },
  { cls := 9, slots := #[.long 108], vm := .none },
  { cls := 9, slots := #[.long 109], vm := .none },
  { cls := 9, slots := #[.long 110], vm := .none },
  { cls := 9, slots := #[.long 111], vm := .none },
  { cls := 9, slots := #[.long 112], vm := .none },
  { cls := 9, slots := #[.long 113], vm := .none },
  { cls := 9, slots := #[.long 114], vm := .none },
  { cls := 9, slots := #[.long 115], vm := .none },
  { cls := 9, slots := #[.long 116], vm := .none },
  { cls := 9, slots := #[.long 117], vm := .none },
  { cls := 9, slots := #[.long 118], vm := .none },
  { cls := 9, slots := #[.long 119], vm := .none },
  { cls := 9, slots := #[.long 120], vm := .none },
  { cls := 9, slots := #[.long 121], vm := .none },
  { cls := 9, slots := #[.long 122], vm := .none },
  { cls := 9, slots := #[.long 123], vm := .none },
  { cls := 9, slots := #[.long 124], vm := .none },
  { cls := 9, slots := #[.long 125], vm := .none },
  { cls := 9, slots := #[.long 126], vm := .none },
  { cls := 9, slots := #[.long 127], vm := .none }]
def classes : Array Class := #[k0, k1, k2, k3, k4, k5, k6, k7, k8, k9, k10, k11, k12, k13, k14, k15, k16, k17, k18]
def interned : List (Array UInt16 × Addr) := []
def slotsUsed : Nat := 515
def theMethod : MethodId := ⟨1, 2⟩
def args0 : Array Value := #[.long 5, .long 6, .long 7, .long 8, .int 3]
def aboutOver (below : List Frame) : State where
  vm := { classes := classes, interned := interned.toArray }
  heap := heap
  slotsUsed := slotsUsed
  threads := #[{ frames := .invoking theMethod args0 :: below }]
def below0 : List Frame := [.native { method := ⟨0, 0⟩, args := #[] }]
def about1 : State := aboutOver below0
def p0 : Program := .bare "" "" ""
def e0 : Env := launch0.env 0 0 0
theorem w_frames : about1.frames = Frame.invoking theMethod args0 :: below0 := rfl
set_option maxRecDepth 65536 in
theorem w_args : argsFit about1.vm theMethod args0 = true := by decide +kernel
set_option maxRecDepth 65536 in
theorem w_heap : heapFits about1 = true := by decide +kernel
set_option maxRecDepth 65536 in
theorem w_runnable : about1.curStatus? = some .runnable := by decide +kernel
set_option maxRecDepth 65536 in
theorem w_alone : about1.alone = true := by decide +kernel
set_option maxRecDepth 65536 in
theorem w_named : about1.methodNamed? x = some theMethod := by decide +kernel
set_option maxRecDepth 65536 in
theorem w_hears : about1.hears theMethod below0 = true := by decide +kernel
set_option maxRecDepth 65536 in
theorem w_ripe : about1.ripe theMethod args0 below0 = true := by decide +kernel
theorem w_running : about1.status = .running := rfl
set_option maxRecDepth 65536 in
theorem w_room : about1.hasRoom e0.platform room_1 = true :=
  launch0.hasRoom_least _ room_1 (by decide +kernel) (by decide +kernel) (by decide +kernel) (by decide +kernel) (by decide +kernel) (by decide +kernel)
theorem allAtoms_all (ts : List Jvm.Cond) (a : Array Jvm.Value) (st : Jvm.State) : (allAtoms ts).before a st = ts.all (fun c => c.before a st) := by
  induction ts with
  | nil => rfl
  | cons c t ih =>
    show (Jvm.Cond.and c (allAtoms t)).before a st = _
    rw [Jvm.Cond.before_and, ih, List.all_cons]
def words1 : List Jvm.Cond := Jvm.Cond.code x code maxLocals ret :: tables_1
/-- a 'code' word, met by the world's own term for the bytes: nothing is compared byte by byte -/
theorem code_word {y : MethodName} {bytes : ByteArray} {mx : Nat} {rt : Option FieldType} {a : Array Value} {s : State} {m : MethodId} {meth : Method} {c : Code} (h1 : s.methodNamed? y = some m) (h2 : s.vm.method? m = some meth) (h3 : meth.code = some c) (h4 : c.code = bytes)
    (h5 : (c.maxLocals == mx && c.exceptionTable.isEmpty && decide (c.maxStack ≤ mostOperands) && decide (meth.sig.returnType = rt) && !meth.locks && decide (parseMethodDescriptor y.desc = some meth.sig)) = true) : (Jvm.Cond.code y bytes mx rt).before a s = true := by
  simp only [Bool.and_eq_true, beq_iff_eq, Bool.not_eq_true', decide_eq_true_eq] at h5
  obtain ⟨⟨⟨⟨⟨g1, g2⟩, g3⟩, g4⟩, g5⟩, g6⟩ := h5
  simp [Cond.before, Cond.holds, Cond.value, h1, h2, h3, h4, g1, g2, g3, g4, g5, g6]
def isCode : Jvm.Cond → Bool
  | .code _ _ _ _ => true
  | _ => false
theorem all_split {L : List Jvm.Cond} {P : Jvm.Cond → Bool} (h1 : L.all (fun c => isCode c || P c) = true) (h2 : ∀ c ∈ L.filter isCode, P c = true) : L.all P = true := by
  refine List.all_eq_true.mpr fun c hc => ?_
  have h := List.all_eq_true.mp h1 c hc
  rcases Bool.eq_false_or_eq_true (isCode c) with hi | hi
  · exact h2 c (List.mem_filter.mpr ⟨hc, hi⟩)
  · simpa [hi] using h
set_option maxRecDepth 65536 in
theorem w_c0 : (Jvm.Cond.code x code maxLocals ret).before args0 about1 = true := code_word (m := ⟨1, 2⟩) (meth := k1m2) (c := k1c2) (by decide +kernel) rfl rfl rfl (by decide +kernel)
set_option maxRecDepth 65536 in
theorem w_c1 : (Jvm.Cond.code ({ cls := "com/example/sure_sequence/suresequence/RegionRangeEqualsPinLaw", name := "norm", desc := "(JJJ)[J" } : Jvm.MethodName) method_2_code (12 : Nat) (Option.some (Jvm.ClassFile.FieldType.array Jvm.ClassFile.FieldType.long))).before args0 about1 = true := code_word (m := ⟨1, 1⟩) (meth := k1m1) (c := k1c1) (by decide +kernel) rfl rfl rfl (by decide +kernel)
set_option maxRecDepth 65536 in
theorem w_c2 : (Jvm.Cond.code ({ cls := "java/lang/Math", name := "min", desc := "(JJ)J" } : Jvm.MethodName) jdk_29_method_70_code (4 : Nat) (Option.some Jvm.ClassFile.FieldType.long)).before args0 about1 = true := code_word (m := ⟨2, 2⟩) (meth := k2m2) (c := k2c2) (by decide +kernel) rfl rfl rfl (by decide +kernel)
set_option maxRecDepth 65536 in
theorem w_c3 : (Jvm.Cond.code ({ cls := "java/lang/Math", name := "max", desc := "(JJ)J" } : Jvm.MethodName) jdk_29_method_66_code (4 : Nat) (Option.some Jvm.ClassFile.FieldType.long)).before args0 about1 = true := code_word (m := ⟨2, 1⟩) (meth := k2m1) (c := k2c1) (by decide +kernel) rfl rfl rfl (by decide +kernel)
set_option maxRecDepth 65536 in
theorem w_c4 : (Jvm.Cond.code ({ cls := "com/example/sure_sequence/suresequence/RegionRange", name := "<init>", desc := "(JJJ)V" } : Jvm.MethodName) prog_7_method_1_code (7 : Nat) (Option.none : Option Jvm.ClassFile.FieldType)).before args0 about1 = true := code_word (m := ⟨3, 0⟩) (meth := k3m0) (c := k3c0) (by decide +kernel) rfl rfl rfl (by decide +kernel)
set_option maxRecDepth 65536 in
theorem w_c5 : (Jvm.Cond.code ({ cls := "java/lang/Object", name := "<init>", desc := "()V" } : Jvm.MethodName) object_method_1_code (1 : Nat) (Option.none : Option Jvm.ClassFile.FieldType)).before args0 about1 = true := code_word (m := ⟨0, 0⟩) (meth := k0m0) (c := k0c0) (by decide +kernel) rfl rfl rfl (by decide +kernel)
set_option maxRecDepth 65536 in
theorem w_c6 : (Jvm.Cond.code ({ cls := "com/example/sure_sequence/suresequence/RegionRange", name := "equals", desc := "(Ljava/lang/Object;)Z" } : Jvm.MethodName) prog_7_method_10_code (2 : Nat) (Option.some Jvm.ClassFile.FieldType.boolean)).before args0 about1 = true := code_word (m := ⟨3, 1⟩) (meth := k3m1) (c := k3c1) (by decide +kernel) rfl rfl rfl (by decide +kernel)
set_option maxRecDepth 65536 in
theorem w_c7 : (Jvm.Cond.code ({ cls := "java/lang/Long", name := "valueOf", desc := "(J)Ljava/lang/Long;" } : Jvm.MethodName) jdk_35_method_24_code (3 : Nat) (Option.some (Jvm.ClassFile.FieldType.object "java/lang/Long"))).before args0 about1 = true := code_word (m := ⟨9, 0⟩) (meth := k9m0) (c := k9c0) (by decide +kernel) rfl rfl rfl (by decide +kernel)
set_option maxRecDepth 65536 in
theorem w_c8 : (Jvm.Cond.code ({ cls := "java/lang/Long", name := "<init>", desc := "(J)V" } : Jvm.MethodName) jdk_35_method_26_code (3 : Nat) (Option.none : Option Jvm.ClassFile.FieldType)).before args0 about1 = true := code_word (m := ⟨9, 1⟩) (meth := k9m1) (c := k9c1) (by decide +kernel) rfl rfl rfl (by decide +kernel)
set_option maxRecDepth 65536 in
theorem w_c9 : (Jvm.Cond.code ({ cls := "java/lang/Number", name := "<init>", desc := "()V" } : Jvm.MethodName) jdk_18_method_1_code (1 : Nat) (Option.none : Option Jvm.ClassFile.FieldType)).before args0 about1 = true := code_word (m := ⟨5, 0⟩) (meth := k5m0) (c := k5c0) (by decide +kernel) rfl rfl rfl (by decide +kernel)
def codes1 : List Jvm.Cond := [Jvm.Cond.code x code maxLocals ret, Jvm.Cond.code ({ cls := "com/example/sure_sequence/suresequence/RegionRangeEqualsPinLaw", name := "norm", desc := "(JJJ)[J" } : Jvm.MethodName) method_2_code (12 : Nat) (Option.some (Jvm.ClassFile.FieldType.array Jvm.ClassFile.FieldType.long)), Jvm.Cond.code ({ cls := "java/lang/Math", name := "min", desc := "(JJ)J" } : Jvm.MethodName) jdk_29_method_70_code (4 : Nat) (Option.some Jvm.ClassFile.FieldType.long), Jvm.Cond.code ({ cls := "java/lang/Math", name := "max", desc := "(JJ)J" } : Jvm.MethodName) jdk_29_method_66_code (4 : Nat) (Option.some Jvm.ClassFile.FieldType.long), Jvm.Cond.code ({ cls := "com/example/sure_sequence/suresequence/RegionRange", name := "<init>", desc := "(JJJ)V" } : Jvm.MethodName) prog_7_method_1_code (7 : Nat) (Option.none : Option Jvm.ClassFile.FieldType), Jvm.Cond.code ({ cls := "java/lang/Object", name := "<init>", desc := "()V" } : Jvm.MethodName) object_method_1_code (1 : Nat) (Option.none : Option Jvm.ClassFile.FieldType), Jvm.Cond.code ({ cls := "com/example/sure_sequence/suresequence/RegionRange", name := "equals", desc := "(Ljava/lang/Object;)Z" } : Jvm.MethodName) prog_7_method_10_code (2 : Nat) (Option.some Jvm.ClassFile.FieldType.boolean), Jvm.Cond.code ({ cls := "java/lang/Long", name := "valueOf", desc := "(J)Ljava/lang/Long;" } : Jvm.MethodName) jdk_35_method_24_code (3 : Nat) (Option.some (Jvm.ClassFile.FieldType.object "java/lang/Long")), Jvm.Cond.code ({ cls := "java/lang/Long", name := "<init>", desc := "(J)V" } : Jvm.MethodName) jdk_35_method_26_code (3 : Nat) (Option.none : Option Jvm.ClassFile.FieldType), Jvm.Cond.code ({ cls := "java/lang/Number", name := "<init>", desc := "()V" } : Jvm.MethodName) jdk_18_method_1_code (1 : Nat) (Option.none : Option Jvm.ClassFile.FieldType)]
set_option maxRecDepth 65536 in
theorem codes_eq : words1.filter isCode = codes1 := rfl
theorem w_codes : ∀ c ∈ words1.filter isCode, c.before args0 about1 = true := by
  rw [codes_eq]
  intro c hc
  simp only [codes1, List.mem_cons, List.not_mem_nil, or_false] at hc
  rcases hc with rfl | rfl | rfl | rfl | rfl | rfl | rfl | rfl | rfl | rfl
  · exact w_c0
  · exact w_c1
  · exact w_c2
  · exact w_c3
  · exact w_c4
  · exact w_c5
  · exact w_c6
  · exact w_c7
  · exact w_c8
  · exact w_c9
set_option maxRecDepth 65536 in
theorem w_t1 : (words1.take 24).all (fun c => isCode c || c.before args0 about1) = true := by decide +kernel
set_option maxRecDepth 65536 in
theorem w_t2 : ((words1.drop 24).take 24).all (fun c => isCode c || c.before args0 about1) = true := by decide +kernel
set_option maxRecDepth 65536 in
theorem w_t3 : ((words1.drop 24).drop 24).all (fun c => isCode c || c.before args0 about1) = true := by decide +kernel
theorem w_tables : (allAtoms (Jvm.Cond.code x code maxLocals ret :: tables_1)).before args0 about1 = true := by
  rw [allAtoms_all]
  show words1.all (fun c => c.before args0 about1) = true
  refine all_split ?_ w_codes
  rw [← List.take_append_drop 24 words1, List.all_append, w_t1, ← List.take_append_drop 24 (words1.drop 24), List.all_append, w_t2, w_t3]
  rfl
set_option maxRecDepth 65536 in
theorem w_rest : rest_1_c.before args0 about1 = true := by decide +kernel
set_option maxRecDepth 65536 in
theorem w_case : (Jvm.Cond.and given_1 narrow_1).before args0 about1 = true := by decide +kernel
theorem w_applies : (headSpec (Jvm.Cond.code x code maxLocals ret :: tables_1) room_1).applies x e0.platform about1 = true :=
  (Spec.applies_iff w_frames).mpr ⟨w_running, w_runnable, w_alone, w_named, w_hears, w_ripe, w_room, w_tables⟩
theorem atStart : AtStart classFile x code maxLocals ret World_1 tables_1 room_1 Calls_1 rest_1 Pre_1 launch0 p0 e0 about1 theMethod args0 below0 :=
  ⟨lists_1, trivial, launch0.admits_env _ _ _, launch0.least_env, fairChoices_fair.cas, fairChoices_fair.clock, w_frames, w_args, w_heap, w_applies, trivial, w_rest, w_case⟩
end start1
theorem witness_1 : WitnessClaimed_1 := ⟨start1.p0, start1.e0, start1.about1, start1.theMethod, start1.args0, start1.below0, start1.atStart⟩
end Jvm.Pilot.@@N@@
