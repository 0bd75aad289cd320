import JvmDerived
import JvmDerived.Pilot.@@N@@Statement
import JvmDerived.Pilot.@@N@@Code
set_option linter.unusedVariables false
set_option linter.unusedSimpArgs false
namespace Jvm.RoadKit
open Sem ClassFile Op Lib Jvm.Stand Jvm.Free Jvm.LawKit
section New
variable {p : Program} {l : Launch} {e : Env} {R : Room} {s : State} {m : MethodId} {args : Array Value} {below : List Frame} {meth : Method} {c : Code} {T : State} {locs : List Loc} {cells slots : Nat}
theorem retI (X : Stand p l e R s m args below meth c T locs cells slots) (hx : p.tables.exec = Jvm.exec) {pc : Nat} {Ls : Array Slot} {z : Int32} {rest : List Value} (hret : meth.sig.returnType = some .int) (hd : decode c.code pc = .ok (.ireturn, 1)) {fs : List Frame}
    (hl : ∀ (f : JFrame) (acts : List Action), f.method = m → f.locked = none → f.entered = [] → (doReturn e (T.setTop f) acts (some (.int z))).1 = T.setFrames fs) : Steps p.tables e below (T.setTop (mkF m pc Ls (.int z :: rest))) (T.setFrames fs) := by
  have hm' : T.vm.method? m = some meth := X.method'
  have hn : narrow .int (.int z) = .int z := rfl
  show Steps p.tables e below (T.setTop { method := m, pc := pc, locals := Ls, stack := _ :: rest, locked := none }) _
  jvm_step X.here [X.here.top, hx, hd, hm', hret, hn]
  first | (intro acts; rw [hl _ acts rfl rfl rfl]) | rw [hl _ _ rfl rfl rfl]
  exact Steps.refl _
end New
end Jvm.RoadKit
@@BLOCK:NumsL.lean.txt@@
namespace Jvm.Pilot.@@N@@
open Jvm Jvm.ClassFile Sem Op Lib Jvm.Free Jvm.Stand Jvm.LawKit Jvm.RoadKit Bundle Jvm.Pilot.@@N@@.Jvm.D
/-- from S the run comes to an end that says Q -/
def own_Go (p : Program) (e : Env) (below : List Frame) (s : State) (Q : Option Value → Heap → List Loc → Prop) (c n : Nat) (S : State) : Prop :=
  ∃ s₂ o, Steps p.tables e below S s₂ ∧ s₂.status = .running ∧ Ended s₂ below o ∧ ∃ v L, o = .returned v ∧ Q v s₂.heap L ∧ FrameEnd s o s₂ L c n
theorem own_go {p : Program} {e : Env} {below : List Frame} {s : State} {Q : Option Value → Heap → List Loc → Prop} {c n : Nat} {S S' : State} (st : ∀ t, Steps p.tables e below S' t → Steps p.tables e below S t) (k : own_Go p e below s Q c n S') : own_Go p e below s Q c n S := by
  obtain ⟨s₂, o, h, r⟩ := k
  exact ⟨s₂, o, st _ h, r⟩
theorem own_goT {p : Program} {e : Env} {below : List Frame} {s : State} {Q : Option Value → Heap → List Loc → Prop} {c n : Nat} {S S' : State} (st : Steps p.tables e below S S') (k : own_Go p e below s Q c n S') : own_Go p e below s Q c n S := own_go (fun _ h => st.trans h) k
theorem own_end {p : Program} {e : Env} {below : List Frame} {s : State} {Q : Option Value → Heap → List Loc → Prop} {c n : Nat} {S s₂ : State} {v : Option Value} {L : List Loc} (h : Steps p.tables e below S s₂) (hrun : s₂.status = .running) (he : Ended s₂ below (.returned v)) (hq : Q v s₂.heap L) (hW : s.WarmedH s₂.vm) (hs : s.sameButNew ({ s₂ with vm := s.vm } : State) L c n) : own_Go p e below s Q c n S :=
  ⟨s₂, _, h, hrun, he, v, L, rfl, hq, ⟨_, rfl⟩, hW, hs⟩
/-- an array of known values, its class's number unsaid -/
def own_Arv (Z : State) (h : Heap) (a : Addr) (ty : FieldType) (n : Int32) (vs : List Value) (d : Value) : Prop := ∃ k, Arv Z h a k ty n vs d
theorem own_Arv.lt {Z : State} {h : Heap} {a : Addr} {ty : FieldType} {n : Int32} {vs : List Value} {d : Value} (F : own_Arv Z h a ty n vs d) : a < h.size := by obtain ⟨k, F⟩ := F; exact F.lt
theorem own_Arv.ext {Z : State} {h h' : Heap} {a : Addr} {ty : FieldType} {n : Int32} {vs : List Value} {d : Value} (F : own_Arv Z h a ty n vs d) (E : Ext h h') : own_Arv Z h' a ty n vs d := by obtain ⟨k, F⟩ := F; exact ⟨k, F.ext E⟩
theorem own_Arv.other {Z : State} {h h' : Heap} {a b : Addr} {sl : Nat} {v : Value} {ty : FieldType} {n : Int32} {vs : List Value} {d : Value} (F : own_Arv Z h b ty n vs d) (W : Wr h h' a sl v) (q : b ≠ a) : own_Arv Z h' b ty n vs d := by obtain ⟨k, F⟩ := F; exact ⟨k, F.other W q⟩
theorem own_Arv.keep {Z : State} {h h' : Heap} {a : Addr} {ws : List Addr} {ty : FieldType} {n : Int32} {vs : List Value} {d : Value} (F : own_Arv Z h a ty n vs d) (K : Keep h h' ws) (q : a ∉ ws) : own_Arv Z h' a ty n vs d := by obtain ⟨k, F⟩ := F; exact ⟨k, F.keep K q⟩
theorem own_plain {Z : State} {h : Heap} {a : Addr} {C : String} (F : Exa Z h a C) : ∃ c : Cell, h[a]? = some c ∧ c.vm.isStatics = false := by obtain ⟨c, k, h1, -, -, h4, -⟩ := F; exact ⟨c, h1, h4⟩
theorem own_sta_keep {Z : State} {h h' : Heap} {ws : List Addr} {C n d : String} {v : Value} (F : Sta Z h C n d v) (K : Keep h h' ws) (q : ∀ x ∈ ws, ∃ c : Cell, h[x]? = some c ∧ c.vm.isStatics = false) : Sta Z h' C n d v := by
  obtain ⟨cf, i, k, f, st, cell, h1, h2, h3, h4, h5, h6, h7⟩ := F
  refine ⟨cf, i, k, f, st, cell, h1, h2, h3, h4, K.2.1 st cell h5 fun hm => ?_, h6, h7⟩
  obtain ⟨c, g1, g2⟩ := q st hm
  cases h5.symm.trans g1
  rw [h6] at g2; cases g2
theorem own_ins_keep {Z : State} {h h' : Heap} {ws : List Addr} {a : Addr} {C : String} {b : Bool} (F : Ins Z h a C b) (K : Keep h h' ws) : Ins Z h' a C b := by
  obtain ⟨cell, cT, h1, h2, h3⟩ := F
  obtain ⟨c', g1, g2, g3, -⟩ := K.2.2 a cell h1
  exact ⟨c', cT, g1, h2, by rw [g2, g3]; exact h3⟩
/-- an array of which the length alone is known -/
def own_Len (Z : State) (h : Heap) (a : Addr) (ty : FieldType) (n : Int32) : Prop := ∃ c : Cell, Arr Z h a c ty ∧ c.slots.size = n.toNatClampNeg ∧ ¬ n < 0
theorem own_Len.lt {Z : State} {h : Heap} {a : Addr} {ty : FieldType} {n : Int32} (F : own_Len Z h a ty n) : a < h.size := by obtain ⟨c, A, -⟩ := F; exact A.lt
theorem own_Len.new {Z : State} {h : Heap} {a : Addr} {k : ClassId} {ty : FieldType} {n : Int32} (A : Arr Z h a (newA k ty n) ty) (q : ¬ n < 0) : own_Len Z h a ty n := ⟨_, A, sz_new _ _ _, q⟩
theorem own_Len.ext {Z : State} {h h' : Heap} {a : Addr} {ty : FieldType} {n : Int32} (F : own_Len Z h a ty n) (E : Ext h h') : own_Len Z h' a ty n := by obtain ⟨c, A, r⟩ := F; exact ⟨c, A.ext E, r⟩
theorem own_Len.other {Z : State} {h h' : Heap} {a b : Addr} {sl : Nat} {v : Value} {ty : FieldType} {n : Int32} (F : own_Len Z h b ty n) (W : Wr h h' a sl v) (q : b ≠ a) : own_Len Z h' b ty n := by obtain ⟨c, A, r⟩ := F; exact ⟨c, A.other W q, r⟩
theorem own_Len.keep {Z : State} {h h' : Heap} {a : Addr} {ws : List Addr} {ty : FieldType} {n : Int32} (F : own_Len Z h a ty n) (K : Keep h h' ws) (q : a ∉ ws) : own_Len Z h' a ty n := by obtain ⟨c, A, r⟩ := F; exact ⟨c, ⟨K.2.1 a c A.1 q, A.2⟩, r⟩
theorem own_unt_keep {h h' : Heap} {a : Addr} {ws : List Addr} (F : Unt h a) (K : Keep h h' ws) (q : a ∉ ws) : Unt h' a := by obtain ⟨c, h1, r⟩ := F; exact ⟨c, K.2.1 a c h1 q, r⟩
theorem own_unt_lt {h : Heap} {a : Addr} (F : Unt h a) : a < h.size := by obtain ⟨c, h1, -⟩ := F; exact (Array.getElem?_eq_some_iff.mp h1).1
/-- an array of references, of known values, its component's class C -/
def own_ArvR (Z : State) (h : Heap) (a : Addr) (C : String) (n : Int32) (vs : List Value) : Prop := ∃ k, Arv Z h a k (.object C) n vs .null ∧ Ovr Z k C
theorem own_ArvR.lt {Z : State} {h : Heap} {a : Addr} {C : String} {n : Int32} {vs : List Value} (F : own_ArvR Z h a C n vs) : a < h.size := by obtain ⟨k, F, -⟩ := F; exact F.lt
theorem own_ArvR.ext {Z : State} {h h' : Heap} {a : Addr} {C : String} {n : Int32} {vs : List Value} (F : own_ArvR Z h a C n vs) (E : Ext h h') : own_ArvR Z h' a C n vs := by obtain ⟨k, F, O⟩ := F; exact ⟨k, F.ext E, O⟩
theorem own_ArvR.other {Z : State} {h h' : Heap} {a b : Addr} {sl : Nat} {v : Value} {C : String} {n : Int32} {vs : List Value} (F : own_ArvR Z h b C n vs) (W : Wr h h' a sl v) (q : b ≠ a) : own_ArvR Z h' b C n vs := by obtain ⟨k, F, O⟩ := F; exact ⟨k, F.other W q, O⟩
theorem own_ArvR.keep {Z : State} {h h' : Heap} {a : Addr} {ws : List Addr} {C : String} {n : Int32} {vs : List Value} (F : own_ArvR Z h a C n vs) (K : Keep h h' ws) (q : a ∉ ws) : own_ArvR Z h' a C n vs := by obtain ⟨k, F, O⟩ := F; exact ⟨k, F.keep K q, O⟩
theorem own_plainB {Z : State} {h : Heap} {a : Addr} {C : String} {n : Int32} {vs : List Value} (F : own_ArvR Z h a C n vs) : ∃ c : Cell, h[a]? = some c ∧ c.vm.isStatics = false := by obtain ⟨k, ⟨c, A, -⟩, -⟩ := F; exact ⟨c, A.1, A.plain⟩
theorem own_plainA {Z : State} {h : Heap} {a : Addr} {ty : FieldType} {n : Int32} {vs : List Value} {d : Value} (F : own_Arv Z h a ty n vs d) : ∃ c : Cell, h[a]? = some c ∧ c.vm.isStatics = false := by obtain ⟨k, c, A, -⟩ := F; exact ⟨c, A.1, A.plain⟩
theorem own_plainL {Z : State} {h : Heap} {a : Addr} {ty : FieldType} {n : Int32} (F : own_Len Z h a ty n) : ∃ c : Cell, h[a]? = some c ∧ c.vm.isStatics = false := by obtain ⟨c, A, -⟩ := F; exact ⟨c, A.1, A.plain⟩
theorem own_neA {Z : State} {h : Heap} {x b : Addr} {C : String} {a0 : Array Value} {m : Nat} {ty : FieldType} {n : Int32} {vs : List Value} {d : Value} (E : Exa Z h x C) (F : own_Arv Z h b ty n vs d) (w : (Jvm.Cond.instantiable C m).before a0 Z = true) : x ≠ b := by obtain ⟨k, c, A, -⟩ := F; exact ne_arr E w A
theorem own_neL {Z : State} {h : Heap} {x b : Addr} {C : String} {a0 : Array Value} {m : Nat} {ty : FieldType} {n : Int32} (E : Exa Z h x C) (F : own_Len Z h b ty n) (w : (Jvm.Cond.instantiable C m).before a0 Z = true) : x ≠ b := by obtain ⟨c, A, -⟩ := F; exact ne_arr E w A
theorem own_neB {Z : State} {h : Heap} {x b : Addr} {C D : String} {a0 : Array Value} {m : Nat} {n : Int32} {vs : List Value} (E : Exa Z h x C) (F : own_ArvR Z h b D n vs) (w : (Jvm.Cond.instantiable C m).before a0 Z = true) : x ≠ b := by obtain ⟨k, ⟨c, A, -⟩, -⟩ := F; exact ne_arr E w A

theorem d1_0 : decode method_2_code 0 = .ok (.lload_n 0, 1) := by decide +kernel
theorem d1_1 : decode method_2_code 1 = .ok (.ldc2_w 9, 3) := by decide +kernel
theorem d1_4 : decode method_2_code 4 = .ok (.lcmp, 1) := by decide +kernel
theorem d1_5 : decode method_2_code 5 = .ok (.ifCond .ne 9, 3) := by decide +kernel
theorem d1_8 : decode method_2_code 8 = .ok (.ldc2_w 11, 3) := by decide +kernel
theorem d1_11 : decode method_2_code 11 = .ok (.goto 4, 3) := by decide +kernel
theorem d1_15 : decode method_2_code 15 = .ok (.lreturn, 1) := by decide +kernel
theorem d1_14 : decode method_2_code 14 = .ok (.lload_n 0, 1) := by decide +kernel
theorem pn_8 : plainName "com/example/sure_sequence/suresequence/RegionRangeIsAbovePinLaw" = true := by first | (simp [plainName, overriddenIn]; done) | decide +kernel
theorem ef_noMin (m : MethodId) (x0 : Int64) : entryFrame m #[(.long x0)] 2 = mkF m 0 #[.val (.long x0), .second] [] := by first | (simp [entryFrame, mkF, argsToLocals, Value.category]; done) | rfl
def noMin_r (q0 : Int64) : Int64 := (if q0 = (-9223372036854775808 : Int64) then (-9223372036854775807 : Int64) else q0)
def QnoMin (Z : State) (q0 : Int64) (h0 : Heap) (n0 : Nat) (v : Option Value) (h : Heap) (L : List Loc) : Prop := v = some (.long (noMin_r q0)) ∧ Fr n0 L ∧ h = h0
set_option maxRecDepth 65536 in
set_option maxHeartbeats 40000000 in
theorem noMin (l : Launch) (Z : State) (a0 : Array Value) (hw : ∀ d ∈ tables_1, d.before a0 Z = true) (ws : List Jvm.Cond) (q0 : Int64) (h0 : Heap) (n0 : Nat) (Z0 : n0 ≤ h0.size) :
    MetFree l (⟨"com/example/sure_sequence/suresequence/RegionRangeIsAbovePinLaw", "noMin", "(J)J"⟩ : MethodName) (head1 (Jvm.Cond.code (⟨"com/example/sure_sequence/suresequence/RegionRangeIsAbovePinLaw", "noMin", "(J)J"⟩ : MethodName) method_2_code 2 (some .long) :: ws) ({ frames := 0, cells := 0, slots := 0, locals := 0 } : Room)) (fun a U => a = #[(.long q0)] ∧ Z.Warmed39 U.vm ∧ U.heap = h0) (fun _ _ _ _ _ => True) (fun _ U o U' => ∃ v L, o = .returned v ∧ QnoMin Z q0 h0 n0 v U'.heap L ∧ FrameEnd U o U' L ({ frames := 0, cells := 0, slots := 0, locals := 0 } : Room).cells ({ frames := 0, cells := 0, slots := 0, locals := 0 } : Room).slots) := by
  refine MetFree.of_bodySF (plainFor_of_name pn_8) hisR ?_
  intro p e s m args below meth c s₁ Bd hml0 hP hK
  obtain ⟨rfl, hZ, hh⟩ := hP
  have hx := Bd.exec
  have hby := Bd.bytes
  have hml : c.maxLocals = 2 := hml0
  have hown : s.vm.findClass "com/example/sure_sequence/suresequence/RegionRangeIsAbovePinLaw" = some m.cls := findClass_of_methodNamed Bd.named
  have hnm := (name_of_methodNamed Bd.named Bd.method).1
  have X0 : Stand p l e ({ frames := 0, cells := 0, slots := 0, locals := 0 } : Room) s m #[(.long q0)] below meth c s₁ [] 0 0 := Stand.of_body Bd
  have e0 : s₁.heap = h0 := by rw [← hh, Bd.state]; rfl
  have N0 := Fr.nil n0
  show own_Go p e below s (QnoMin Z q0 h0 n0) ({ frames := 0, cells := 0, slots := 0, locals := 0 } : Room).cells ({ frames := 0, cells := 0, slots := 0, locals := 0 } : Room).slots (s₁.setTop (entryFrame m #[(.long q0)] 2))
  rw [ef_noMin m q0]
  have K0 : Keep h0 h0 [] := Keep.refl h0 []
  refine own_go (S' := s₁.setTop (mkF m 5 #[.val (.long q0), .second] [(.int (Jvm.Free.XT.cmpL q0 (-9223372036854775808 : Int64)))])) (fun t k => ?_) ?_
  · show Steps p.tables e below (s₁.setTop (mkF m 0 #[.val (.long q0), .second] [])) t
    refine XS.lloadN X0.here hx rfl (hb hby d1_0) rfl ?_
    show Steps p.tables e below (s₁.setTop (mkF m 1 #[.val (.long q0), .second] [(.long q0)])) t
    refine X0.ldc2Long hx hown (mvT hZ (hw _ (List.mem_of_getElem? (i := 4) rfl))) (g := (mkF m 1 #[.val (.long q0), .second] [(.long q0)])) rfl (hb hby d1_1) _ ?_
    show Steps p.tables e below (s₁.setTop (mkF m 4 #[.val (.long q0), .second] [(.long (-9223372036854775808 : Int64)), (.long q0)])) t
    refine XS.lcmp X0.here hx rfl (hb hby d1_4) rfl ?_
    exact k
  by_cases hc5 : q0 = (-9223372036854775808 : Int64)
  · skip
    refine own_go (S' := s₁.setTop (mkF m 15 #[.val (.long q0), .second] [(.long (-9223372036854775807 : Int64))])) (fun t k => ?_) ?_
    · show Steps p.tables e below (s₁.setTop (mkF m 5 #[.val (.long q0), .second] [(.int (Jvm.Free.XT.cmpL q0 (-9223372036854775808 : Int64)))])) t
      refine XS.ifNo X0.here hx rfl (hb hby d1_5) rfl (Jvm.Free.XT.ll_ne_f hc5) ?_
      show Steps p.tables e below (s₁.setTop (mkF m 8 #[.val (.long q0), .second] [])) t
      refine X0.ldc2Long hx hown (mvT hZ (hw _ (List.mem_of_getElem? (i := 35) rfl))) (g := (mkF m 8 #[.val (.long q0), .second] [])) rfl (hb hby d1_8) _ ?_
      show Steps p.tables e below (s₁.setTop (mkF m 11 #[.val (.long q0), .second] [(.long (-9223372036854775807 : Int64))])) t
      refine XS.goto X0.here hx rfl (pc0 := 11) (pc' := 15) rfl (hb hby d1_11) (by decide) (by decide) ?_
      exact k
    obtain ⟨fs, hr, hrun, hended, hW, hsame⟩ := X0.leave (v := some (.long (-9223372036854775807 : Int64))) (fun h => by rw [Bd.returns] at h; cases h)
    refine own_end (v := some (.long (-9223372036854775807 : Int64))) ?_ hrun hended ?_ hW (hsame.mono (by decide) (by decide))
    · show Steps p.tables e below (s₁.setTop (mkF m 15 #[.val (.long q0), .second] [(.long (-9223372036854775807 : Int64))])) _
      jvm_step X0.here [X0.here.top, hx, (hb hby d1_15), X0.method', Bd.returns, narrow]
      first | (intro acts; rw [hr _ acts rfl rfl rfl]) | rw [hr _ _ rfl rfl rfl]
      exact Steps.refl _
    · show QnoMin Z q0 h0 n0 _ s₁.heap _
      rw [e0]
      exact ⟨(by simp only [noMin_r, if_pos hc5]), N0, rfl⟩
  · skip
    refine own_go (S' := s₁.setTop (mkF m 15 #[.val (.long q0), .second] [(.long q0)])) (fun t k => ?_) ?_
    · show Steps p.tables e below (s₁.setTop (mkF m 5 #[.val (.long q0), .second] [(.int (Jvm.Free.XT.cmpL q0 (-9223372036854775808 : Int64)))])) t
      refine XS.ifYes X0.here hx rfl (pc0 := 5) (pc' := 14) rfl (hb hby d1_5) rfl (Jvm.Free.XT.ll_ne_t hc5) (by decide) (by decide) ?_
      show Steps p.tables e below (s₁.setTop (mkF m 14 #[.val (.long q0), .second] [])) t
      refine XS.lloadN X0.here hx rfl (hb hby d1_14) rfl ?_
      exact k
    obtain ⟨fs, hr, hrun, hended, hW, hsame⟩ := X0.leave (v := some (.long q0)) (fun h => by rw [Bd.returns] at h; cases h)
    refine own_end (v := some (.long q0)) ?_ hrun hended ?_ hW (hsame.mono (by decide) (by decide))
    · show Steps p.tables e below (s₁.setTop (mkF m 15 #[.val (.long q0), .second] [(.long q0)])) _
      jvm_step X0.here [X0.here.top, hx, (hb hby d1_15), X0.method', Bd.returns, narrow]
      first | (intro acts; rw [hr _ acts rfl rfl rfl]) | rw [hr _ _ rfl rfl rfl]
      exact Steps.refl _
    · show QnoMin Z q0 h0 n0 _ s₁.heap _
      rw [e0]
      exact ⟨(by simp only [noMin_r, if_neg hc5]), N0, rfl⟩
theorem d2_0 : decode jdk_29_method_70_code 0 = .ok (.lload_n 0, 1) := by decide +kernel
theorem d2_1 : decode jdk_29_method_70_code 1 = .ok (.lload_n 2, 1) := by decide +kernel
theorem d2_2 : decode jdk_29_method_70_code 2 = .ok (.lcmp, 1) := by decide +kernel
theorem d2_3 : decode jdk_29_method_70_code 3 = .ok (.ifCond .gt 7, 3) := by decide +kernel
theorem d2_10 : decode jdk_29_method_70_code 10 = .ok (.lload_n 2, 1) := by decide +kernel
theorem d2_11 : decode jdk_29_method_70_code 11 = .ok (.lreturn, 1) := by decide +kernel
theorem d2_6 : decode jdk_29_method_70_code 6 = .ok (.lload_n 0, 1) := by decide +kernel
theorem d2_7 : decode jdk_29_method_70_code 7 = .ok (.goto 4, 3) := by decide +kernel
theorem ef_minL (m : MethodId) (x0 : Int64) (x1 : Int64) : entryFrame m #[(.long x0), (.long x1)] 4 = mkF m 0 #[.val (.long x0), .second, .val (.long x1), .second] [] := by first | (simp [entryFrame, mkF, argsToLocals, Value.category]; done) | rfl
def minL_r (q0 : Int64) (q1 : Int64) : Int64 := (if q1 < q0 then q1 else q0)
def QminL (Z : State) (q0 : Int64) (q1 : Int64) (h0 : Heap) (n0 : Nat) (v : Option Value) (h : Heap) (L : List Loc) : Prop := v = some (.long (minL_r q0 q1)) ∧ Fr n0 L ∧ h = h0
set_option maxRecDepth 65536 in
set_option maxHeartbeats 40000000 in
theorem minL (l : Launch) (Z : State) (a0 : Array Value) (hw : ∀ d ∈ tables_1, d.before a0 Z = true) (ws : List Jvm.Cond) (q0 : Int64) (q1 : Int64) (h0 : Heap) (n0 : Nat) (Z0 : n0 ≤ h0.size) :
    MetFree l (⟨"java/lang/Math", "min", "(JJ)J"⟩ : MethodName) (head1 (Jvm.Cond.code (⟨"java/lang/Math", "min", "(JJ)J"⟩ : MethodName) jdk_29_method_70_code 4 (some .long) :: ws) ({ frames := 0, cells := 0, slots := 0, locals := 0 } : Room)) (fun a U => a = #[(.long q0), (.long q1)] ∧ Z.Warmed39 U.vm ∧ U.heap = h0) (fun _ _ _ _ _ => True) (fun _ U o U' => ∃ v L, o = .returned v ∧ QminL Z q0 q1 h0 n0 v U'.heap L ∧ FrameEnd U o U' L ({ frames := 0, cells := 0, slots := 0, locals := 0 } : Room).cells ({ frames := 0, cells := 0, slots := 0, locals := 0 } : Room).slots) := by
  refine MetFree.of_bodySF (Jvm.Free.JP.mathPlain rfl (by decide +kernel)) hisR ?_
  intro p e s m args below meth c s₁ Bd hml0 hP hK
  obtain ⟨rfl, hZ, hh⟩ := hP
  have hx := Bd.exec
  have hby := Bd.bytes
  have hml : c.maxLocals = 4 := hml0
  have hown : s.vm.findClass "java/lang/Math" = some m.cls := findClass_of_methodNamed Bd.named
  have hnm := (name_of_methodNamed Bd.named Bd.method).1
  have X0 : Stand p l e ({ frames := 0, cells := 0, slots := 0, locals := 0 } : Room) s m #[(.long q0), (.long q1)] below meth c s₁ [] 0 0 := Stand.of_body Bd
  have e0 : s₁.heap = h0 := by rw [← hh, Bd.state]; rfl
  have N0 := Fr.nil n0
  show own_Go p e below s (QminL Z q0 q1 h0 n0) ({ frames := 0, cells := 0, slots := 0, locals := 0 } : Room).cells ({ frames := 0, cells := 0, slots := 0, locals := 0 } : Room).slots (s₁.setTop (entryFrame m #[(.long q0), (.long q1)] 4))
  rw [ef_minL m q0 q1]
  have K0 : Keep h0 h0 [] := Keep.refl h0 []
  refine own_go (S' := s₁.setTop (mkF m 3 #[.val (.long q0), .second, .val (.long q1), .second] [(.int (Jvm.Free.XT.cmpL q0 q1))])) (fun t k => ?_) ?_
  · show Steps p.tables e below (s₁.setTop (mkF m 0 #[.val (.long q0), .second, .val (.long q1), .second] [])) t
    refine XS.lloadN X0.here hx rfl (hb hby d2_0) rfl ?_
    show Steps p.tables e below (s₁.setTop (mkF m 1 #[.val (.long q0), .second, .val (.long q1), .second] [(.long q0)])) t
    refine XS.lloadN X0.here hx rfl (hb hby d2_1) rfl ?_
    show Steps p.tables e below (s₁.setTop (mkF m 2 #[.val (.long q0), .second, .val (.long q1), .second] [(.long q1), (.long q0)])) t
    refine XS.lcmp X0.here hx rfl (hb hby d2_2) rfl ?_
    exact k
  by_cases hc3 : q1 < q0
  · skip
    refine own_go (S' := s₁.setTop (mkF m 11 #[.val (.long q0), .second, .val (.long q1), .second] [(.long q1)])) (fun t k => ?_) ?_
    · show Steps p.tables e below (s₁.setTop (mkF m 3 #[.val (.long q0), .second, .val (.long q1), .second] [(.int (Jvm.Free.XT.cmpL q0 q1))])) t
      refine XS.ifYes X0.here hx rfl (pc0 := 3) (pc' := 10) rfl (hb hby d2_3) rfl (Jvm.Free.XT.ll_gt_t hc3) (by decide) (by decide) ?_
      show Steps p.tables e below (s₁.setTop (mkF m 10 #[.val (.long q0), .second, .val (.long q1), .second] [])) t
      refine XS.lloadN X0.here hx rfl (hb hby d2_10) rfl ?_
      exact k
    obtain ⟨fs, hr, hrun, hended, hW, hsame⟩ := X0.leave (v := some (.long q1)) (fun h => by rw [Bd.returns] at h; cases h)
    refine own_end (v := some (.long q1)) ?_ hrun hended ?_ hW (hsame.mono (by decide) (by decide))
    · show Steps p.tables e below (s₁.setTop (mkF m 11 #[.val (.long q0), .second, .val (.long q1), .second] [(.long q1)])) _
      jvm_step X0.here [X0.here.top, hx, (hb hby d2_11), X0.method', Bd.returns, narrow]
      first | (intro acts; rw [hr _ acts rfl rfl rfl]) | rw [hr _ _ rfl rfl rfl]
      exact Steps.refl _
    · show QminL Z q0 q1 h0 n0 _ s₁.heap _
      rw [e0]
      exact ⟨(by simp only [minL_r, if_pos hc3]), N0, rfl⟩
  · skip
    refine own_go (S' := s₁.setTop (mkF m 11 #[.val (.long q0), .second, .val (.long q1), .second] [(.long q0)])) (fun t k => ?_) ?_
    · show Steps p.tables e below (s₁.setTop (mkF m 3 #[.val (.long q0), .second, .val (.long q1), .second] [(.int (Jvm.Free.XT.cmpL q0 q1))])) t
      refine XS.ifNo X0.here hx rfl (hb hby d2_3) rfl (Jvm.Free.XT.ll_gt_f hc3) ?_
      show Steps p.tables e below (s₁.setTop (mkF m 6 #[.val (.long q0), .second, .val (.long q1), .second] [])) t
      refine XS.lloadN X0.here hx rfl (hb hby d2_6) rfl ?_
      show Steps p.tables e below (s₁.setTop (mkF m 7 #[.val (.long q0), .second, .val (.long q1), .second] [(.long q0)])) t
      refine XS.goto X0.here hx rfl (pc0 := 7) (pc' := 11) rfl (hb hby d2_7) (by decide) (by decide) ?_
      exact k
    obtain ⟨fs, hr, hrun, hended, hW, hsame⟩ := X0.leave (v := some (.long q0)) (fun h => by rw [Bd.returns] at h; cases h)
    refine own_end (v := some (.long q0)) ?_ hrun hended ?_ hW (hsame.mono (by decide) (by decide))
    · show Steps p.tables e below (s₁.setTop (mkF m 11 #[.val (.long q0), .second, .val (.long q1), .second] [(.long q0)])) _
      jvm_step X0.here [X0.here.top, hx, (hb hby d2_11), X0.method', Bd.returns, narrow]
      first | (intro acts; rw [hr _ acts rfl rfl rfl]) | rw [hr _ _ rfl rfl rfl]
      exact Steps.refl _
    · show QminL Z q0 q1 h0 n0 _ s₁.heap _
      rw [e0]
      exact ⟨(by simp only [minL_r, if_neg hc3]), N0, rfl⟩
theorem d3_0 : decode jdk_29_method_66_code 0 = .ok (.lload_n 0, 1) := by decide +kernel
theorem d3_1 : decode jdk_29_method_66_code 1 = .ok (.lload_n 2, 1) := by decide +kernel
theorem d3_2 : decode jdk_29_method_66_code 2 = .ok (.lcmp, 1) := by decide +kernel
theorem d3_3 : decode jdk_29_method_66_code 3 = .ok (.ifCond .lt 7, 3) := by decide +kernel
theorem d3_10 : decode jdk_29_method_66_code 10 = .ok (.lload_n 2, 1) := by decide +kernel
theorem d3_11 : decode jdk_29_method_66_code 11 = .ok (.lreturn, 1) := by decide +kernel
theorem d3_6 : decode jdk_29_method_66_code 6 = .ok (.lload_n 0, 1) := by decide +kernel
theorem d3_7 : decode jdk_29_method_66_code 7 = .ok (.goto 4, 3) := by decide +kernel
theorem ef_maxL (m : MethodId) (x0 : Int64) (x1 : Int64) : entryFrame m #[(.long x0), (.long x1)] 4 = mkF m 0 #[.val (.long x0), .second, .val (.long x1), .second] [] := by first | (simp [entryFrame, mkF, argsToLocals, Value.category]; done) | rfl
def maxL_r (q0 : Int64) (q1 : Int64) : Int64 := (if q0 < q1 then q1 else q0)
def QmaxL (Z : State) (q0 : Int64) (q1 : Int64) (h0 : Heap) (n0 : Nat) (v : Option Value) (h : Heap) (L : List Loc) : Prop := v = some (.long (maxL_r q0 q1)) ∧ Fr n0 L ∧ h = h0
set_option maxRecDepth 65536 in
set_option maxHeartbeats 40000000 in
theorem maxL (l : Launch) (Z : State) (a0 : Array Value) (hw : ∀ d ∈ tables_1, d.before a0 Z = true) (ws : List Jvm.Cond) (q0 : Int64) (q1 : Int64) (h0 : Heap) (n0 : Nat) (Z0 : n0 ≤ h0.size) :
    MetFree l (⟨"java/lang/Math", "max", "(JJ)J"⟩ : MethodName) (head1 (Jvm.Cond.code (⟨"java/lang/Math", "max", "(JJ)J"⟩ : MethodName) jdk_29_method_66_code 4 (some .long) :: ws) ({ frames := 0, cells := 0, slots := 0, locals := 0 } : Room)) (fun a U => a = #[(.long q0), (.long q1)] ∧ Z.Warmed39 U.vm ∧ U.heap = h0) (fun _ _ _ _ _ => True) (fun _ U o U' => ∃ v L, o = .returned v ∧ QmaxL Z q0 q1 h0 n0 v U'.heap L ∧ FrameEnd U o U' L ({ frames := 0, cells := 0, slots := 0, locals := 0 } : Room).cells ({ frames := 0, cells := 0, slots := 0, locals := 0 } : Room).slots) := by
  refine MetFree.of_bodySF (Jvm.Free.JP.mathPlain rfl (by decide +kernel)) hisR ?_
  intro p e s m args below meth c s₁ Bd hml0 hP hK
  obtain ⟨rfl, hZ, hh⟩ := hP
  have hx := Bd.exec
  have hby := Bd.bytes
  have hml : c.maxLocals = 4 := hml0
  have hown : s.vm.findClass "java/lang/Math" = some m.cls := findClass_of_methodNamed Bd.named
  have hnm := (name_of_methodNamed Bd.named Bd.method).1
  have X0 : Stand p l e ({ frames := 0, cells := 0, slots := 0, locals := 0 } : Room) s m #[(.long q0), (.long q1)] below meth c s₁ [] 0 0 := Stand.of_body Bd
  have e0 : s₁.heap = h0 := by rw [← hh, Bd.state]; rfl
  have N0 := Fr.nil n0
  show own_Go p e below s (QmaxL Z q0 q1 h0 n0) ({ frames := 0, cells := 0, slots := 0, locals := 0 } : Room).cells ({ frames := 0, cells := 0, slots := 0, locals := 0 } : Room).slots (s₁.setTop (entryFrame m #[(.long q0), (.long q1)] 4))
  rw [ef_maxL m q0 q1]
  have K0 : Keep h0 h0 [] := Keep.refl h0 []
  refine own_go (S' := s₁.setTop (mkF m 3 #[.val (.long q0), .second, .val (.long q1), .second] [(.int (Jvm.Free.XT.cmpL q0 q1))])) (fun t k => ?_) ?_
  · show Steps p.tables e below (s₁.setTop (mkF m 0 #[.val (.long q0), .second, .val (.long q1), .second] [])) t
    refine XS.lloadN X0.here hx rfl (hb hby d3_0) rfl ?_
    show Steps p.tables e below (s₁.setTop (mkF m 1 #[.val (.long q0), .second, .val (.long q1), .second] [(.long q0)])) t
    refine XS.lloadN X0.here hx rfl (hb hby d3_1) rfl ?_
    show Steps p.tables e below (s₁.setTop (mkF m 2 #[.val (.long q0), .second, .val (.long q1), .second] [(.long q1), (.long q0)])) t
    refine XS.lcmp X0.here hx rfl (hb hby d3_2) rfl ?_
    exact k
  by_cases hc3 : q0 < q1
  · skip
    refine own_go (S' := s₁.setTop (mkF m 11 #[.val (.long q0), .second, .val (.long q1), .second] [(.long q1)])) (fun t k => ?_) ?_
    · show Steps p.tables e below (s₁.setTop (mkF m 3 #[.val (.long q0), .second, .val (.long q1), .second] [(.int (Jvm.Free.XT.cmpL q0 q1))])) t
      refine XS.ifYes X0.here hx rfl (pc0 := 3) (pc' := 10) rfl (hb hby d3_3) rfl (Jvm.Free.XT.ll_lt_t hc3) (by decide) (by decide) ?_
      show Steps p.tables e below (s₁.setTop (mkF m 10 #[.val (.long q0), .second, .val (.long q1), .second] [])) t
      refine XS.lloadN X0.here hx rfl (hb hby d3_10) rfl ?_
      exact k
    obtain ⟨fs, hr, hrun, hended, hW, hsame⟩ := X0.leave (v := some (.long q1)) (fun h => by rw [Bd.returns] at h; cases h)
    refine own_end (v := some (.long q1)) ?_ hrun hended ?_ hW (hsame.mono (by decide) (by decide))
    · show Steps p.tables e below (s₁.setTop (mkF m 11 #[.val (.long q0), .second, .val (.long q1), .second] [(.long q1)])) _
      jvm_step X0.here [X0.here.top, hx, (hb hby d3_11), X0.method', Bd.returns, narrow]
      first | (intro acts; rw [hr _ acts rfl rfl rfl]) | rw [hr _ _ rfl rfl rfl]
      exact Steps.refl _
    · show QmaxL Z q0 q1 h0 n0 _ s₁.heap _
      rw [e0]
      exact ⟨(by simp only [maxL_r, if_pos hc3]), N0, rfl⟩
  · skip
    refine own_go (S' := s₁.setTop (mkF m 11 #[.val (.long q0), .second, .val (.long q1), .second] [(.long q0)])) (fun t k => ?_) ?_
    · show Steps p.tables e below (s₁.setTop (mkF m 3 #[.val (.long q0), .second, .val (.long q1), .second] [(.int (Jvm.Free.XT.cmpL q0 q1))])) t
      refine XS.ifNo X0.here hx rfl (hb hby d3_3) rfl (Jvm.Free.XT.ll_lt_f hc3) ?_
      show Steps p.tables e below (s₁.setTop (mkF m 6 #[.val (.long q0), .second, .val (.long q1), .second] [])) t
      refine XS.lloadN X0.here hx rfl (hb hby d3_6) rfl ?_
      show Steps p.tables e below (s₁.setTop (mkF m 7 #[.val (.long q0), .second, .val (.long q1), .second] [(.long q0)])) t
      refine XS.goto X0.here hx rfl (pc0 := 7) (pc' := 11) rfl (hb hby d3_7) (by decide) (by decide) ?_
      exact k
    obtain ⟨fs, hr, hrun, hended, hW, hsame⟩ := X0.leave (v := some (.long q0)) (fun h => by rw [Bd.returns] at h; cases h)
    refine own_end (v := some (.long q0)) ?_ hrun hended ?_ hW (hsame.mono (by decide) (by decide))
    · show Steps p.tables e below (s₁.setTop (mkF m 11 #[.val (.long q0), .second, .val (.long q1), .second] [(.long q0)])) _
      jvm_step X0.here [X0.here.top, hx, (hb hby d3_11), X0.method', Bd.returns, narrow]
      first | (intro acts; rw [hr _ acts rfl rfl rfl]) | rw [hr _ _ rfl rfl rfl]
      exact Steps.refl _
    · show QmaxL Z q0 q1 h0 n0 _ s₁.heap _
      rw [e0]
      exact ⟨(by simp only [maxL_r, if_neg hc3]), N0, rfl⟩
theorem d4_0 : decode method_3_code 0 = .ok (.iload 4, 2) := by decide +kernel
theorem d4_2 : decode method_3_code 2 = .ok (.iconst 3, 1) := by decide +kernel
theorem d4_3 : decode method_3_code 3 = .ok (.iand, 1) := by decide +kernel
theorem d4_4 : decode method_3_code 4 = .ok (.istore 5, 2) := by decide +kernel
theorem d4_6 : decode method_3_code 6 = .ok (.iload 5, 2) := by decide +kernel
theorem d4_8 : decode method_3_code 8 = .ok (.ifCond .ne 7, 3) := by decide +kernel
theorem d4_11 : decode method_3_code 11 = .ok (.lload_n 0, 1) := by decide +kernel
theorem d4_12 : decode method_3_code 12 = .ok (.lconst 1, 1) := by decide +kernel
theorem d4_13 : decode method_3_code 13 = .ok (.lsub, 1) := by decide +kernel
theorem d4_14 : decode method_3_code 14 = .ok (.lreturn, 1) := by decide +kernel
theorem d4_15 : decode method_3_code 15 = .ok (.iload 5, 2) := by decide +kernel
theorem d4_17 : decode method_3_code 17 = .ok (.iconst 1, 1) := by decide +kernel
theorem d4_18 : decode method_3_code 18 = .ok (.if_icmp .ne 5, 3) := by decide +kernel
theorem d4_21 : decode method_3_code 21 = .ok (.lload_n 0, 1) := by decide +kernel
theorem d4_22 : decode method_3_code 22 = .ok (.lreturn, 1) := by decide +kernel
theorem d4_23 : decode method_3_code 23 = .ok (.iload 5, 2) := by decide +kernel
theorem d4_25 : decode method_3_code 25 = .ok (.iconst 2, 1) := by decide +kernel
theorem d4_26 : decode method_3_code 26 = .ok (.if_icmp .ne 5, 3) := by decide +kernel
theorem d4_29 : decode method_3_code 29 = .ok (.lload_n 2, 1) := by decide +kernel
theorem d4_30 : decode method_3_code 30 = .ok (.lreturn, 1) := by decide +kernel
theorem d4_31 : decode method_3_code 31 = .ok (.lload_n 2, 1) := by decide +kernel
theorem d4_32 : decode method_3_code 32 = .ok (.lconst 1, 1) := by decide +kernel
theorem d4_33 : decode method_3_code 33 = .ok (.lsub, 1) := by decide +kernel
theorem d4_34 : decode method_3_code 34 = .ok (.lreturn, 1) := by decide +kernel
theorem ef_mark (m : MethodId) (x0 : Int64) (x1 : Int64) (x2 : Int32) : entryFrame m #[(.long x0), (.long x1), (.int x2)] 6 = mkF m 0 #[.val (.long x0), .second, .val (.long x1), .second, .val (.int x2), .unset] [] := by first | (simp [entryFrame, mkF, argsToLocals, Value.category]; done) | rfl
def mark_r (q0 : Int64) (q1 : Int64) (p2 : Int32) : Int64 := (if (p2 &&& (3 : Int32)) = (0 : Int32) then (q0 - (1 : Int64)) else (if (p2 &&& (3 : Int32)) = (1 : Int32) then q0 else (if (p2 &&& (3 : Int32)) = (2 : Int32) then q1 else (q1 - (1 : Int64)))))
def Qmark (Z : State) (q0 : Int64) (q1 : Int64) (p2 : Int32) (h0 : Heap) (n0 : Nat) (v : Option Value) (h : Heap) (L : List Loc) : Prop := v = some (.long (mark_r q0 q1 p2)) ∧ Fr n0 L ∧ h = h0
set_option maxRecDepth 65536 in
set_option maxHeartbeats 40000000 in
theorem mark (l : Launch) (Z : State) (a0 : Array Value) (hw : ∀ d ∈ tables_1, d.before a0 Z = true) (ws : List Jvm.Cond) (q0 : Int64) (q1 : Int64) (p2 : Int32) (h0 : Heap) (n0 : Nat) (Z0 : n0 ≤ h0.size) :
    MetFree l (⟨"com/example/sure_sequence/suresequence/RegionRangeIsAbovePinLaw", "mark", "(JJI)J"⟩ : MethodName) (head1 (Jvm.Cond.code (⟨"com/example/sure_sequence/suresequence/RegionRangeIsAbovePinLaw", "mark", "(JJI)J"⟩ : MethodName) method_3_code 6 (some .long) :: ws) ({ frames := 0, cells := 0, slots := 0, locals := 0 } : Room)) (fun a U => a = #[(.long q0), (.long q1), (.int p2)] ∧ Z.Warmed39 U.vm ∧ U.heap = h0) (fun _ _ _ _ _ => True) (fun _ U o U' => ∃ v L, o = .returned v ∧ Qmark Z q0 q1 p2 h0 n0 v U'.heap L ∧ FrameEnd U o U' L ({ frames := 0, cells := 0, slots := 0, locals := 0 } : Room).cells ({ frames := 0, cells := 0, slots := 0, locals := 0 } : Room).slots) := by
  refine MetFree.of_bodySF (plainFor_of_name pn_8) hisR ?_
  intro p e s m args below meth c s₁ Bd hml0 hP hK
  obtain ⟨rfl, hZ, hh⟩ := hP
  have hx := Bd.exec
  have hby := Bd.bytes
  have hml : c.maxLocals = 6 := hml0
  have hown : s.vm.findClass "com/example/sure_sequence/suresequence/RegionRangeIsAbovePinLaw" = some m.cls := findClass_of_methodNamed Bd.named
  have hnm := (name_of_methodNamed Bd.named Bd.method).1
  have X0 : Stand p l e ({ frames := 0, cells := 0, slots := 0, locals := 0 } : Room) s m #[(.long q0), (.long q1), (.int p2)] below meth c s₁ [] 0 0 := Stand.of_body Bd
  have e0 : s₁.heap = h0 := by rw [← hh, Bd.state]; rfl
  have N0 := Fr.nil n0
  show own_Go p e below s (Qmark Z q0 q1 p2 h0 n0) ({ frames := 0, cells := 0, slots := 0, locals := 0 } : Room).cells ({ frames := 0, cells := 0, slots := 0, locals := 0 } : Room).slots (s₁.setTop (entryFrame m #[(.long q0), (.long q1), (.int p2)] 6))
  rw [ef_mark m q0 q1 p2]
  have K0 : Keep h0 h0 [] := Keep.refl h0 []
  refine own_go (S' := s₁.setTop (mkF m 8 #[.val (.long q0), .second, .val (.long q1), .second, .val (.int p2), .val (.int (p2 &&& (3 : Int32)))] [(.int (p2 &&& (3 : Int32)))])) (fun t k => ?_) ?_
  · show Steps p.tables e below (s₁.setTop (mkF m 0 #[.val (.long q0), .second, .val (.long q1), .second, .val (.int p2), .unset] [])) t
    refine XS.iload X0.here hx rfl (hb hby d4_0) rfl ?_
    show Steps p.tables e below (s₁.setTop (mkF m 2 #[.val (.long q0), .second, .val (.long q1), .second, .val (.int p2), .unset] [(.int p2)])) t
    refine XS.iconst X0.here hx rfl (hb hby d4_2) ?_
    show Steps p.tables e below (s₁.setTop (mkF m 3 #[.val (.long q0), .second, .val (.long q1), .second, .val (.int p2), .unset] [(.int (3 : Int32)), (.int p2)])) t
    refine XS.iand X0.here hx rfl (hb hby d4_3) rfl ?_
    show Steps p.tables e below (s₁.setTop (mkF m 4 #[.val (.long q0), .second, .val (.long q1), .second, .val (.int p2), .unset] [(.int (p2 &&& (3 : Int32)))])) t
    refine XS.istore X0.here hx rfl (hb hby d4_4) rfl (l' := #[.val (.long q0), .second, .val (.long q1), .second, .val (.int p2), .val (.int (p2 &&& (3 : Int32)))]) rfl ?_
    show Steps p.tables e below (s₁.setTop (mkF m 6 #[.val (.long q0), .second, .val (.long q1), .second, .val (.int p2), .val (.int (p2 &&& (3 : Int32)))] [])) t
    refine XS.iload X0.here hx rfl (hb hby d4_6) rfl ?_
    exact k
  by_cases hc8 : (p2 &&& (3 : Int32)) = (0 : Int32)
  · skip
    refine own_go (S' := s₁.setTop (mkF m 14 #[.val (.long q0), .second, .val (.long q1), .second, .val (.int p2), .val (.int (p2 &&& (3 : Int32)))] [(.long (q0 - (1 : Int64)))])) (fun t k => ?_) ?_
    · show Steps p.tables e below (s₁.setTop (mkF m 8 #[.val (.long q0), .second, .val (.long q1), .second, .val (.int p2), .val (.int (p2 &&& (3 : Int32)))] [(.int (p2 &&& (3 : Int32)))])) t
      refine XS.ifNo X0.here hx rfl (hb hby d4_8) rfl ((if0 _ _).trans (teq hc8).2) ?_
      show Steps p.tables e below (s₁.setTop (mkF m 11 #[.val (.long q0), .second, .val (.long q1), .second, .val (.int p2), .val (.int (p2 &&& (3 : Int32)))] [])) t
      refine XS.lloadN X0.here hx rfl (hb hby d4_11) rfl ?_
      show Steps p.tables e below (s₁.setTop (mkF m 12 #[.val (.long q0), .second, .val (.long q1), .second, .val (.int p2), .val (.int (p2 &&& (3 : Int32)))] [(.long q0)])) t
      refine XS.lconst X0.here hx rfl (hb hby d4_12) ?_
      show Steps p.tables e below (s₁.setTop (mkF m 13 #[.val (.long q0), .second, .val (.long q1), .second, .val (.int p2), .val (.int (p2 &&& (3 : Int32)))] [(.long (1 : Int64)), (.long q0)])) t
      refine XS.lsub X0.here hx rfl (hb hby d4_13) rfl ?_
      exact k
    obtain ⟨fs, hr, hrun, hended, hW, hsame⟩ := X0.leave (v := some (.long (q0 - (1 : Int64)))) (fun h => by rw [Bd.returns] at h; cases h)
    refine own_end (v := some (.long (q0 - (1 : Int64)))) ?_ hrun hended ?_ hW (hsame.mono (by decide) (by decide))
    · show Steps p.tables e below (s₁.setTop (mkF m 14 #[.val (.long q0), .second, .val (.long q1), .second, .val (.int p2), .val (.int (p2 &&& (3 : Int32)))] [(.long (q0 - (1 : Int64)))])) _
      jvm_step X0.here [X0.here.top, hx, (hb hby d4_14), X0.method', Bd.returns, narrow]
      first | (intro acts; rw [hr _ acts rfl rfl rfl]) | rw [hr _ _ rfl rfl rfl]
      exact Steps.refl _
    · show Qmark Z q0 q1 p2 h0 n0 _ s₁.heap _
      rw [e0]
      exact ⟨(by simp only [mark_r, if_pos hc8]), N0, rfl⟩
  · skip
    refine own_go (S' := s₁.setTop (mkF m 18 #[.val (.long q0), .second, .val (.long q1), .second, .val (.int p2), .val (.int (p2 &&& (3 : Int32)))] [(.int (1 : Int32)), (.int (p2 &&& (3 : Int32)))])) (fun t k => ?_) ?_
    · show Steps p.tables e below (s₁.setTop (mkF m 8 #[.val (.long q0), .second, .val (.long q1), .second, .val (.int p2), .val (.int (p2 &&& (3 : Int32)))] [(.int (p2 &&& (3 : Int32)))])) t
      refine XS.ifYes X0.here hx rfl (pc0 := 8) (pc' := 15) rfl (hb hby d4_8) rfl ((if0 _ _).trans (feq hc8).2) (by decide) (by decide) ?_
      show Steps p.tables e below (s₁.setTop (mkF m 15 #[.val (.long q0), .second, .val (.long q1), .second, .val (.int p2), .val (.int (p2 &&& (3 : Int32)))] [])) t
      refine XS.iload X0.here hx rfl (hb hby d4_15) rfl ?_
      show Steps p.tables e below (s₁.setTop (mkF m 17 #[.val (.long q0), .second, .val (.long q1), .second, .val (.int p2), .val (.int (p2 &&& (3 : Int32)))] [(.int (p2 &&& (3 : Int32)))])) t
      refine XS.iconst X0.here hx rfl (hb hby d4_17) ?_
      exact k
    by_cases hc18 : (p2 &&& (3 : Int32)) = (1 : Int32)
    · skip
      refine own_go (S' := s₁.setTop (mkF m 22 #[.val (.long q0), .second, .val (.long q1), .second, .val (.int p2), .val (.int (p2 &&& (3 : Int32)))] [(.long q0)])) (fun t k => ?_) ?_
      · show Steps p.tables e below (s₁.setTop (mkF m 18 #[.val (.long q0), .second, .val (.long q1), .second, .val (.int p2), .val (.int (p2 &&& (3 : Int32)))] [(.int (1 : Int32)), (.int (p2 &&& (3 : Int32)))])) t
        refine XS.icmpNo X0.here hx rfl (hb hby d4_18) rfl (teq hc18).2 ?_
        show Steps p.tables e below (s₁.setTop (mkF m 21 #[.val (.long q0), .second, .val (.long q1), .second, .val (.int p2), .val (.int (p2 &&& (3 : Int32)))] [])) t
        refine XS.lloadN X0.here hx rfl (hb hby d4_21) rfl ?_
        exact k
      obtain ⟨fs, hr, hrun, hended, hW, hsame⟩ := X0.leave (v := some (.long q0)) (fun h => by rw [Bd.returns] at h; cases h)
      refine own_end (v := some (.long q0)) ?_ hrun hended ?_ hW (hsame.mono (by decide) (by decide))
      · show Steps p.tables e below (s₁.setTop (mkF m 22 #[.val (.long q0), .second, .val (.long q1), .second, .val (.int p2), .val (.int (p2 &&& (3 : Int32)))] [(.long q0)])) _
        jvm_step X0.here [X0.here.top, hx, (hb hby d4_22), X0.method', Bd.returns, narrow]
        first | (intro acts; rw [hr _ acts rfl rfl rfl]) | rw [hr _ _ rfl rfl rfl]
        exact Steps.refl _
      · show Qmark Z q0 q1 p2 h0 n0 _ s₁.heap _
        rw [e0]
        exact ⟨(by simp only [mark_r, if_neg hc8, if_pos hc18]), N0, rfl⟩
    · skip
      refine own_go (S' := s₁.setTop (mkF m 26 #[.val (.long q0), .second, .val (.long q1), .second, .val (.int p2), .val (.int (p2 &&& (3 : Int32)))] [(.int (2 : Int32)), (.int (p2 &&& (3 : Int32)))])) (fun t k => ?_) ?_
      · show Steps p.tables e below (s₁.setTop (mkF m 18 #[.val (.long q0), .second, .val (.long q1), .second, .val (.int p2), .val (.int (p2 &&& (3 : Int32)))] [(.int (1 : Int32)), (.int (p2 &&& (3 : Int32)))])) t
        refine XS.icmpYes X0.here hx rfl (pc0 := 18) (pc' := 23) rfl (hb hby d4_18) rfl (feq hc18).2 (by decide) (by decide) ?_
        show Steps p.tables e below (s₁.setTop (mkF m 23 #[.val (.long q0), .second, .val (.long q1), .second, .val (.int p2), .val (.int (p2 &&& (3 : Int32)))] [])) t
        refine XS.iload X0.here hx rfl (hb hby d4_23) rfl ?_
        show Steps p.tables e below (s₁.setTop (mkF m 25 #[.val (.long q0), .second, .val (.long q1), .second, .val (.int p2), .val (.int (p2 &&& (3 : Int32)))] [(.int (p2 &&& (3 : Int32)))])) t
        refine XS.iconst X0.here hx rfl (hb hby d4_25) ?_
        exact k
      by_cases hc26 : (p2 &&& (3 : Int32)) = (2 : Int32)
      · skip
        refine own_go (S' := s₁.setTop (mkF m 30 #[.val (.long q0), .second, .val (.long q1), .second, .val (.int p2), .val (.int (p2 &&& (3 : Int32)))] [(.long q1)])) (fun t k => ?_) ?_
        · show Steps p.tables e below (s₁.setTop (mkF m 26 #[.val (.long q0), .second, .val (.long q1), .second, .val (.int p2), .val (.int (p2 &&& (3 : Int32)))] [(.int (2 : Int32)), (.int (p2 &&& (3 : Int32)))])) t
          refine XS.icmpNo X0.here hx rfl (hb hby d4_26) rfl (teq hc26).2 ?_
          show Steps p.tables e below (s₁.setTop (mkF m 29 #[.val (.long q0), .second, .val (.long q1), .second, .val (.int p2), .val (.int (p2 &&& (3 : Int32)))] [])) t
          refine XS.lloadN X0.here hx rfl (hb hby d4_29) rfl ?_
          exact k
        obtain ⟨fs, hr, hrun, hended, hW, hsame⟩ := X0.leave (v := some (.long q1)) (fun h => by rw [Bd.returns] at h; cases h)
        refine own_end (v := some (.long q1)) ?_ hrun hended ?_ hW (hsame.mono (by decide) (by decide))
        · show Steps p.tables e below (s₁.setTop (mkF m 30 #[.val (.long q0), .second, .val (.long q1), .second, .val (.int p2), .val (.int (p2 &&& (3 : Int32)))] [(.long q1)])) _
          jvm_step X0.here [X0.here.top, hx, (hb hby d4_30), X0.method', Bd.returns, narrow]
          first | (intro acts; rw [hr _ acts rfl rfl rfl]) | rw [hr _ _ rfl rfl rfl]
          exact Steps.refl _
        · show Qmark Z q0 q1 p2 h0 n0 _ s₁.heap _
          rw [e0]
          exact ⟨(by simp only [mark_r, if_neg hc8, if_neg hc18, if_pos hc26]), N0, rfl⟩
      · skip
        refine own_go (S' := s₁.setTop (mkF m 34 #[.val (.long q0), .second, .val (.long q1), .second, .val (.int p2), .val (.int (p2 &&& (3 : Int32)))] [(.long (q1 - (1 : Int64)))])) (fun t k => ?_) ?_
        · show Steps p.tables e below (s₁.setTop (mkF m 26 #[.val (.long q0), .second, .val (.long q1), .second, .val (.int p2), .val (.int (p2 &&& (3 : Int32)))] [(.int (2 : Int32)), (.int (p2 &&& (3 : Int32)))])) t
          refine XS.icmpYes X0.here hx rfl (pc0 := 26) (pc' := 31) rfl (hb hby d4_26) rfl (feq hc26).2 (by decide) (by decide) ?_
          show Steps p.tables e below (s₁.setTop (mkF m 31 #[.val (.long q0), .second, .val (.long q1), .second, .val (.int p2), .val (.int (p2 &&& (3 : Int32)))] [])) t
          refine XS.lloadN X0.here hx rfl (hb hby d4_31) rfl ?_
          show Steps p.tables e below (s₁.setTop (mkF m 32 #[.val (.long q0), .second, .val (.long q1), .second, .val (.int p2), .val (.int (p2 &&& (3 : Int32)))] [(.long q1)])) t
          refine XS.lconst X0.here hx rfl (hb hby d4_32) ?_
          show Steps p.tables e below (s₁.setTop (mkF m 33 #[.val (.long q0), .second, .val (.long q1), .second, .val (.int p2), .val (.int (p2 &&& (3 : Int32)))] [(.long (1 : Int64)), (.long q1)])) t
          refine XS.lsub X0.here hx rfl (hb hby d4_33) rfl ?_
          exact k
        obtain ⟨fs, hr, hrun, hended, hW, hsame⟩ := X0.leave (v := some (.long (q1 - (1 : Int64)))) (fun h => by rw [Bd.returns] at h; cases h)
        refine own_end (v := some (.long (q1 - (1 : Int64)))) ?_ hrun hended ?_ hW (hsame.mono (by decide) (by decide))
        · show Steps p.tables e below (s₁.setTop (mkF m 34 #[.val (.long q0), .second, .val (.long q1), .second, .val (.int p2), .val (.int (p2 &&& (3 : Int32)))] [(.long (q1 - (1 : Int64)))])) _
          jvm_step X0.here [X0.here.top, hx, (hb hby d4_34), X0.method', Bd.returns, narrow]
          first | (intro acts; rw [hr _ acts rfl rfl rfl]) | rw [hr _ _ rfl rfl rfl]
          exact Steps.refl _
        · show Qmark Z q0 q1 p2 h0 n0 _ s₁.heap _
          rw [e0]
          exact ⟨(by simp only [mark_r, if_neg hc8, if_neg hc18, if_neg hc26]), N0, rfl⟩
theorem d5_0 : decode prog_7_method_1_code 0 = .ok (.aload_n 0, 1) := by decide +kernel
theorem d5_1 : decode prog_7_method_1_code 1 = .ok (.invokespecial 1, 3) := by decide +kernel
theorem d5_4 : decode prog_7_method_1_code 4 = .ok (.lload_n 1, 1) := by decide +kernel
theorem d5_5 : decode prog_7_method_1_code 5 = .ok (.lload_n 3, 1) := by decide +kernel
theorem d5_6 : decode prog_7_method_1_code 6 = .ok (.lcmp, 1) := by decide +kernel
theorem d5_7 : decode prog_7_method_1_code 7 = .ok (.ifCond .gt 19, 3) := by decide +kernel
theorem d5_10 : decode prog_7_method_1_code 10 = .ok (.lload 5, 2) := by decide +kernel
theorem d5_12 : decode prog_7_method_1_code 12 = .ok (.lload_n 1, 1) := by decide +kernel
theorem d5_13 : decode prog_7_method_1_code 13 = .ok (.lconst 1, 1) := by decide +kernel
theorem d5_14 : decode prog_7_method_1_code 14 = .ok (.lsub, 1) := by decide +kernel
theorem d5_15 : decode prog_7_method_1_code 15 = .ok (.lcmp, 1) := by decide +kernel
theorem d5_16 : decode prog_7_method_1_code 16 = .ok (.ifCond .lt 10, 3) := by decide +kernel
theorem d5_19 : decode prog_7_method_1_code 19 = .ok (.lload 5, 2) := by decide +kernel
theorem d5_21 : decode prog_7_method_1_code 21 = .ok (.lload_n 3, 1) := by decide +kernel
theorem d5_22 : decode prog_7_method_1_code 22 = .ok (.lcmp, 1) := by decide +kernel
theorem d5_23 : decode prog_7_method_1_code 23 = .ok (.ifCond .le 24, 3) := by decide +kernel
theorem d5_47 : decode prog_7_method_1_code 47 = .ok (.aload_n 0, 1) := by decide +kernel
theorem d5_48 : decode prog_7_method_1_code 48 = .ok (.lload_n 1, 1) := by decide +kernel
theorem d5_49 : decode prog_7_method_1_code 49 = .ok (.putfield 16, 3) := by decide +kernel
theorem d5_52 : decode prog_7_method_1_code 52 = .ok (.aload_n 0, 1) := by decide +kernel
theorem d5_53 : decode prog_7_method_1_code 53 = .ok (.lload_n 3, 1) := by decide +kernel
theorem d5_54 : decode prog_7_method_1_code 54 = .ok (.putfield 22, 3) := by decide +kernel
theorem d5_57 : decode prog_7_method_1_code 57 = .ok (.aload_n 0, 1) := by decide +kernel
theorem d5_58 : decode prog_7_method_1_code 58 = .ok (.lload 5, 2) := by decide +kernel
theorem d5_60 : decode prog_7_method_1_code 60 = .ok (.putfield 25, 3) := by decide +kernel
theorem d5_63 : decode prog_7_method_1_code 63 = .ok (.return_, 1) := by decide +kernel
theorem pn_75 : plainName "com/example/sure_sequence/suresequence/RegionRange" = true := by first | (simp [plainName, overriddenIn]; done) | decide +kernel
theorem ef_ini (m : MethodId) (x0 : Addr) (x1 : Int64) (x2 : Int64) (x3 : Int64) : entryFrame m #[(.ref x0), (.long x1), (.long x2), (.long x3)] 7 = mkF m 0 #[.val (.ref x0), .val (.long x1), .second, .val (.long x2), .second, .val (.long x3), .second] [] := by first | (simp [entryFrame, mkF, argsToLocals, Value.category]; done) | rfl
def Qini (Z : State) (o0 : Addr) (q1 : Int64) (q2 : Int64) (q3 : Int64) (w_o0_low : Int64) (w_o0_high : Int64) (w_o0_highWater : Int64) (h0 : Heap) (n0 : Nat) (v : Option Value) (h : Heap) (L : List Loc) : Prop := v = none ∧ Fr n0 L ∧ Keep h0 h [o0] ∧ Exa Z h o0 "com/example/sure_sequence/suresequence/RegionRange" ∧ Fld Z h o0 "com/example/sure_sequence/suresequence/RegionRange" "low" "J" (.long q1) ∧ Fld Z h o0 "com/example/sure_sequence/suresequence/RegionRange" "high" "J" (.long q2) ∧ Fld Z h o0 "com/example/sure_sequence/suresequence/RegionRange" "highWater" "J" (.long q3)
set_option maxRecDepth 65536 in
set_option maxHeartbeats 40000000 in
theorem ini (l : Launch) (Z : State) (a0 : Array Value) (hw : ∀ d ∈ tables_1, d.before a0 Z = true) (ws : List Jvm.Cond) (o0 : Addr) (q1 : Int64) (q2 : Int64) (q3 : Int64) (w_o0_low : Int64) (w_o0_high : Int64) (w_o0_highWater : Int64) (h0 : Heap) (n0 : Nat) (Z0 : n0 ≤ h0.size) (hc7 : ¬ (q2 < q1)) (hc16 : ¬ (q3 < (q1 - (1 : Int64)))) (hc23 : ¬ (q2 < q3)) (E_o0 : Exa Z h0 o0 "com/example/sure_sequence/suresequence/RegionRange") (F_o0_low : Fld Z h0 o0 "com/example/sure_sequence/suresequence/RegionRange" "low" "J" (.long w_o0_low)) (F_o0_high : Fld Z h0 o0 "com/example/sure_sequence/suresequence/RegionRange" "high" "J" (.long w_o0_high)) (F_o0_highWater : Fld Z h0 o0 "com/example/sure_sequence/suresequence/RegionRange" "highWater" "J" (.long w_o0_highWater)) (g_o0 : n0 ≤ o0) :
    MetFree l (⟨"com/example/sure_sequence/suresequence/RegionRange", "<init>", "(JJJ)V"⟩ : MethodName) (head1 (Jvm.Cond.code (⟨"com/example/sure_sequence/suresequence/RegionRange", "<init>", "(JJJ)V"⟩ : MethodName) prog_7_method_1_code 7 none :: ws) ({ frames := 1, cells := 0, slots := 0, locals := 12 } : Room)) (fun a U => a = #[(.ref o0), (.long q1), (.long q2), (.long q3)] ∧ Z.Warmed39 U.vm ∧ U.heap = h0) (fun _ _ _ _ _ => True) (fun _ U o U' => ∃ v L, o = .returned v ∧ Qini Z o0 q1 q2 q3 w_o0_low w_o0_high w_o0_highWater h0 n0 v U'.heap L ∧ FrameEnd U o U' L ({ frames := 1, cells := 0, slots := 0, locals := 12 } : Room).cells ({ frames := 1, cells := 0, slots := 0, locals := 12 } : Room).slots) := by
  refine MetFree.of_bodySF (plainFor_of_name pn_75) hisR ?_
  intro p e s m args below meth c s₁ Bd hml0 hP hK
  obtain ⟨rfl, hZ, hh⟩ := hP
  have hx := Bd.exec
  have hby := Bd.bytes
  have hml : c.maxLocals = 7 := hml0
  have hown : s.vm.findClass "com/example/sure_sequence/suresequence/RegionRange" = some m.cls := findClass_of_methodNamed Bd.named
  have hnm := (name_of_methodNamed Bd.named Bd.method).1
  have X0 : Stand p l e ({ frames := 1, cells := 0, slots := 0, locals := 12 } : Room) s m #[(.ref o0), (.long q1), (.long q2), (.long q3)] below meth c s₁ [] 0 0 := Stand.of_body Bd
  have e0 : s₁.heap = h0 := by rw [← hh, Bd.state]; rfl
  have N0 := Fr.nil n0
  show own_Go p e below s (Qini Z o0 q1 q2 q3 w_o0_low w_o0_high w_o0_highWater h0 n0) ({ frames := 1, cells := 0, slots := 0, locals := 12 } : Room).cells ({ frames := 1, cells := 0, slots := 0, locals := 12 } : Room).slots (s₁.setTop (entryFrame m #[(.ref o0), (.long q1), (.long q2), (.long q3)] 7))
  rw [ef_ini m o0 q1 q2 q3]
  have K0 : Keep h0 h0 [o0] := Keep.refl h0 [o0]
  refine own_go (S' := s₁.setTop (mkF m 1 #[.val (.ref o0), .val (.long q1), .second, .val (.long q2), .second, .val (.long q3), .second] [(.ref o0)])) (fun t k => ?_) ?_
  · show Steps p.tables e below (s₁.setTop (mkF m 0 #[.val (.ref o0), .val (.long q1), .second, .val (.long q2), .second, .val (.long q3), .second] [])) t
    refine XS.aloadN X0.here hx rfl (hb hby d5_0) rfl rfl ?_
    exact k
  obtain ⟨T1, X1, e1, st1⟩ := initO X0 hx hZ hown (hw _ (List.mem_of_getElem? (i := 21) rfl)) (hw _ (List.mem_of_getElem? (i := 22) rfl)) (hw _ (List.mem_of_getElem? (i := 23) rfl)) e0 (g := (mkF m 1 #[.val (.ref o0), .val (.long q1), .second, .val (.long q2), .second, .val (.long q3), .second] [(.ref o0)])) rfl (by rw [hml]; rfl) rfl (hb hby d5_1) (by decide) (W := 0) (by show 2 * 0 + _ ≤ _; exact Nat.le_of_eq rfl) (by decide)
  refine own_go st1 ?_
  refine own_go (S' := T1.setTop (mkF m 49 #[.val (.ref o0), .val (.long q1), .second, .val (.long q2), .second, .val (.long q3), .second] [(.long q1), (.ref o0)])) (fun t k => ?_) ?_
  · show Steps p.tables e below (T1.setTop (mkF m 4 #[.val (.ref o0), .val (.long q1), .second, .val (.long q2), .second, .val (.long q3), .second] [])) t
    refine XS.lloadN X1.here hx rfl (hb hby d5_4) rfl ?_
    show Steps p.tables e below (T1.setTop (mkF m 5 #[.val (.ref o0), .val (.long q1), .second, .val (.long q2), .second, .val (.long q3), .second] [(.long q1)])) t
    refine XS.lloadN X1.here hx rfl (hb hby d5_5) rfl ?_
    show Steps p.tables e below (T1.setTop (mkF m 6 #[.val (.ref o0), .val (.long q1), .second, .val (.long q2), .second, .val (.long q3), .second] [(.long q2), (.long q1)])) t
    refine XS.lcmp X1.here hx rfl (hb hby d5_6) rfl ?_
    show Steps p.tables e below (T1.setTop (mkF m 7 #[.val (.ref o0), .val (.long q1), .second, .val (.long q2), .second, .val (.long q3), .second] [(.int (Jvm.Free.XT.cmpL q1 q2))])) t
    refine XS.ifNo X1.here hx rfl (hb hby d5_7) rfl (Jvm.Free.XT.ll_gt_f hc7) ?_
    show Steps p.tables e below (T1.setTop (mkF m 10 #[.val (.ref o0), .val (.long q1), .second, .val (.long q2), .second, .val (.long q3), .second] [])) t
    refine XS.lload X1.here hx rfl (hb hby d5_10) rfl ?_
    show Steps p.tables e below (T1.setTop (mkF m 12 #[.val (.ref o0), .val (.long q1), .second, .val (.long q2), .second, .val (.long q3), .second] [(.long q3)])) t
    refine XS.lloadN X1.here hx rfl (hb hby d5_12) rfl ?_
    show Steps p.tables e below (T1.setTop (mkF m 13 #[.val (.ref o0), .val (.long q1), .second, .val (.long q2), .second, .val (.long q3), .second] [(.long q1), (.long q3)])) t
    refine XS.lconst X1.here hx rfl (hb hby d5_13) ?_
    show Steps p.tables e below (T1.setTop (mkF m 14 #[.val (.ref o0), .val (.long q1), .second, .val (.long q2), .second, .val (.long q3), .second] [(.long (1 : Int64)), (.long q1), (.long q3)])) t
    refine XS.lsub X1.here hx rfl (hb hby d5_14) rfl ?_
    show Steps p.tables e below (T1.setTop (mkF m 15 #[.val (.ref o0), .val (.long q1), .second, .val (.long q2), .second, .val (.long q3), .second] [(.long (q1 - (1 : Int64))), (.long q3)])) t
    refine XS.lcmp X1.here hx rfl (hb hby d5_15) rfl ?_
    show Steps p.tables e below (T1.setTop (mkF m 16 #[.val (.ref o0), .val (.long q1), .second, .val (.long q2), .second, .val (.long q3), .second] [(.int (Jvm.Free.XT.cmpL q3 (q1 - (1 : Int64))))])) t
    refine XS.ifNo X1.here hx rfl (hb hby d5_16) rfl (Jvm.Free.XT.ll_lt_f hc16) ?_
    show Steps p.tables e below (T1.setTop (mkF m 19 #[.val (.ref o0), .val (.long q1), .second, .val (.long q2), .second, .val (.long q3), .second] [])) t
    refine XS.lload X1.here hx rfl (hb hby d5_19) rfl ?_
    show Steps p.tables e below (T1.setTop (mkF m 21 #[.val (.ref o0), .val (.long q1), .second, .val (.long q2), .second, .val (.long q3), .second] [(.long q3)])) t
    refine XS.lloadN X1.here hx rfl (hb hby d5_21) rfl ?_
    show Steps p.tables e below (T1.setTop (mkF m 22 #[.val (.ref o0), .val (.long q1), .second, .val (.long q2), .second, .val (.long q3), .second] [(.long q2), (.long q3)])) t
    refine XS.lcmp X1.here hx rfl (hb hby d5_22) rfl ?_
    show Steps p.tables e below (T1.setTop (mkF m 23 #[.val (.ref o0), .val (.long q1), .second, .val (.long q2), .second, .val (.long q3), .second] [(.int (Jvm.Free.XT.cmpL q3 q2))])) t
    refine XS.ifYes X1.here hx rfl (pc0 := 23) (pc' := 47) rfl (hb hby d5_23) rfl (Jvm.Free.XT.ll_le_t hc23) (by decide) (by decide) ?_
    show Steps p.tables e below (T1.setTop (mkF m 47 #[.val (.ref o0), .val (.long q1), .second, .val (.long q2), .second, .val (.long q3), .second] [])) t
    refine XS.aloadN X1.here hx rfl (hb hby d5_47) rfl rfl ?_
    show Steps p.tables e below (T1.setTop (mkF m 48 #[.val (.ref o0), .val (.long q1), .second, .val (.long q2), .second, .val (.long q3), .second] [(.ref o0)])) t
    refine XS.lloadN X1.here hx rfl (hb hby d5_48) rfl ?_
    exact k
  obtain ⟨T2, h2, X2, e2, W2, st2⟩ := putF X1 hx hZ hown (host := "") (Or.inl (hw _ (List.mem_of_getElem? (i := 24) rfl))) Via.refl e1 F_o0_low E_o0 (Or.inr ⟨(hw _ (List.mem_of_getElem? (i := 25) rfl)), rfl, hnm⟩) (hw _ (List.mem_of_getElem? (i := 13) rfl)) (ty := .long) (by decide) rfl rfl (g := (mkF m 49 #[.val (.ref o0), .val (.long q1), .second, .val (.long q2), .second, .val (.long q3), .second] [(.long q1), (.ref o0)])) rfl rfl (hb hby d5_49)
  have f3 : Exa Z h2 o0 "com/example/sure_sequence/suresequence/RegionRange" := E_o0.wr W2
  have f4 : Fld Z h2 o0 "com/example/sure_sequence/suresequence/RegionRange" "high" "J" (.long w_o0_high) := F_o0_high.other W2 (Or.inr (slot_ne (Or.inr (hw _ (List.mem_of_getElem? (i := 27) rfl))) (Or.inr (hw _ (List.mem_of_getElem? (i := 25) rfl))) (by decide) (t := .long) (t' := .long) (by decide) (by decide)))
  have f5 : Fld Z h2 o0 "com/example/sure_sequence/suresequence/RegionRange" "highWater" "J" (.long w_o0_highWater) := F_o0_highWater.other W2 (Or.inr (slot_ne (Or.inr (hw _ (List.mem_of_getElem? (i := 29) rfl))) (Or.inr (hw _ (List.mem_of_getElem? (i := 25) rfl))) (by decide) (t := .long) (t' := .long) (by decide) (by decide)))
  have f6 : Fld Z h2 o0 "com/example/sure_sequence/suresequence/RegionRange" "low" "J" (.long q1) := F_o0_low.same W2
  have N7 := Fr.snoc X2 N0 g_o0
  have Z8 : n0 ≤ h2.size := Nat.le_trans Z0 (Keep.of_wr W2).1
  have K9 : Keep h0 h2 [o0] := K0.wr W2 (Or.inl (List.mem_of_getElem? (i := 0) rfl))
  refine own_go st2 ?_
  refine own_go (S' := T2.setTop (mkF m 54 #[.val (.ref o0), .val (.long q1), .second, .val (.long q2), .second, .val (.long q3), .second] [(.long q2), (.ref o0)])) (fun t k => ?_) ?_
  · show Steps p.tables e below (T2.setTop (mkF m 52 #[.val (.ref o0), .val (.long q1), .second, .val (.long q2), .second, .val (.long q3), .second] [])) t
    refine XS.aloadN X2.here hx rfl (hb hby d5_52) rfl rfl ?_
    show Steps p.tables e below (T2.setTop (mkF m 53 #[.val (.ref o0), .val (.long q1), .second, .val (.long q2), .second, .val (.long q3), .second] [(.ref o0)])) t
    refine XS.lloadN X2.here hx rfl (hb hby d5_53) rfl ?_
    exact k
  obtain ⟨T10, h10, X10, e10, W10, st10⟩ := putF X2 hx hZ hown (host := "") (Or.inl (hw _ (List.mem_of_getElem? (i := 26) rfl))) Via.refl e2 f4 f3 (Or.inr ⟨(hw _ (List.mem_of_getElem? (i := 27) rfl)), rfl, hnm⟩) (hw _ (List.mem_of_getElem? (i := 13) rfl)) (ty := .long) (by decide) rfl rfl (g := (mkF m 54 #[.val (.ref o0), .val (.long q1), .second, .val (.long q2), .second, .val (.long q3), .second] [(.long q2), (.ref o0)])) rfl rfl (hb hby d5_54)
  have f11 : Exa Z h10 o0 "com/example/sure_sequence/suresequence/RegionRange" := f3.wr W10
  have f12 : Fld Z h10 o0 "com/example/sure_sequence/suresequence/RegionRange" "highWater" "J" (.long w_o0_highWater) := f5.other W10 (Or.inr (slot_ne (Or.inr (hw _ (List.mem_of_getElem? (i := 29) rfl))) (Or.inr (hw _ (List.mem_of_getElem? (i := 27) rfl))) (by decide) (t := .long) (t' := .long) (by decide) (by decide)))
  have f13 : Fld Z h10 o0 "com/example/sure_sequence/suresequence/RegionRange" "low" "J" (.long q1) := f6.other W10 (Or.inr (slot_ne (Or.inr (hw _ (List.mem_of_getElem? (i := 25) rfl))) (Or.inr (hw _ (List.mem_of_getElem? (i := 27) rfl))) (by decide) (t := .long) (t' := .long) (by decide) (by decide)))
  have f14 : Fld Z h10 o0 "com/example/sure_sequence/suresequence/RegionRange" "high" "J" (.long q2) := f4.same W10
  have N15 := Fr.snoc X10 N7 g_o0
  have Z16 : n0 ≤ h10.size := Nat.le_trans Z8 (Keep.of_wr W10).1
  have K17 : Keep h0 h10 [o0] := K9.wr W10 (Or.inl (List.mem_of_getElem? (i := 0) rfl))
  refine own_go st10 ?_
  refine own_go (S' := T10.setTop (mkF m 60 #[.val (.ref o0), .val (.long q1), .second, .val (.long q2), .second, .val (.long q3), .second] [(.long q3), (.ref o0)])) (fun t k => ?_) ?_
  · show Steps p.tables e below (T10.setTop (mkF m 57 #[.val (.ref o0), .val (.long q1), .second, .val (.long q2), .second, .val (.long q3), .second] [])) t
    refine XS.aloadN X10.here hx rfl (hb hby d5_57) rfl rfl ?_
    show Steps p.tables e below (T10.setTop (mkF m 58 #[.val (.ref o0), .val (.long q1), .second, .val (.long q2), .second, .val (.long q3), .second] [(.ref o0)])) t
    refine XS.lload X10.here hx rfl (hb hby d5_58) rfl ?_
    exact k
  obtain ⟨T18, h18, X18, e18, W18, st18⟩ := putF X10 hx hZ hown (host := "") (Or.inl (hw _ (List.mem_of_getElem? (i := 28) rfl))) Via.refl e10 f12 f11 (Or.inr ⟨(hw _ (List.mem_of_getElem? (i := 29) rfl)), rfl, hnm⟩) (hw _ (List.mem_of_getElem? (i := 13) rfl)) (ty := .long) (by decide) rfl rfl (g := (mkF m 60 #[.val (.ref o0), .val (.long q1), .second, .val (.long q2), .second, .val (.long q3), .second] [(.long q3), (.ref o0)])) rfl rfl (hb hby d5_60)
  have f19 : Exa Z h18 o0 "com/example/sure_sequence/suresequence/RegionRange" := f11.wr W18
  have f20 : Fld Z h18 o0 "com/example/sure_sequence/suresequence/RegionRange" "low" "J" (.long q1) := f13.other W18 (Or.inr (slot_ne (Or.inr (hw _ (List.mem_of_getElem? (i := 25) rfl))) (Or.inr (hw _ (List.mem_of_getElem? (i := 29) rfl))) (by decide) (t := .long) (t' := .long) (by decide) (by decide)))
  have f21 : Fld Z h18 o0 "com/example/sure_sequence/suresequence/RegionRange" "high" "J" (.long q2) := f14.other W18 (Or.inr (slot_ne (Or.inr (hw _ (List.mem_of_getElem? (i := 27) rfl))) (Or.inr (hw _ (List.mem_of_getElem? (i := 29) rfl))) (by decide) (t := .long) (t' := .long) (by decide) (by decide)))
  have f22 : Fld Z h18 o0 "com/example/sure_sequence/suresequence/RegionRange" "highWater" "J" (.long q3) := f12.same W18
  have N23 := Fr.snoc X18 N15 g_o0
  have Z24 : n0 ≤ h18.size := Nat.le_trans Z16 (Keep.of_wr W18).1
  have K25 : Keep h0 h18 [o0] := K17.wr W18 (Or.inl (List.mem_of_getElem? (i := 0) rfl))
  refine own_go st18 ?_
  obtain ⟨fs, hr, hrun, hended, hW, hsame⟩ := X18.leave (v := none) (fun _ => rfl)
  refine own_end (v := none) ?_ hrun hended ?_ hW (hsame.mono (by decide) (by decide))
  · show Steps p.tables e below (T18.setTop (mkF m 63 #[.val (.ref o0), .val (.long q1), .second, .val (.long q2), .second, .val (.long q3), .second] [])) _
    exact X18.returnOut hx Bd.returns (hb hby d5_63) hr
  · show Qini Z o0 q1 q2 q3 w_o0_low w_o0_high w_o0_highWater h0 n0 _ T18.heap _
    rw [e18]
    exact ⟨rfl, N23, K25, f19, f20, f21, f22⟩
theorem d7_0 : decode prog_7_method_9_code 0 = .ok (.aload_n 0, 1) := by decide +kernel
theorem d7_1 : decode prog_7_method_9_code 1 = .ok (.getfield 16, 3) := by decide +kernel
theorem d7_4 : decode prog_7_method_9_code 4 = .ok (.aload_n 1, 1) := by decide +kernel
theorem d7_5 : decode prog_7_method_9_code 5 = .ok (.getfield 22, 3) := by decide +kernel
theorem d7_8 : decode prog_7_method_9_code 8 = .ok (.lcmp, 1) := by decide +kernel
theorem d7_9 : decode prog_7_method_9_code 9 = .ok (.ifCond .le 7, 3) := by decide +kernel
theorem d7_12 : decode prog_7_method_9_code 12 = .ok (.iconst 1, 1) := by decide +kernel
theorem d7_13 : decode prog_7_method_9_code 13 = .ok (.goto 4, 3) := by decide +kernel
theorem d7_17 : decode prog_7_method_9_code 17 = .ok (.ireturn, 1) := by decide +kernel
theorem d7_16 : decode prog_7_method_9_code 16 = .ok (.iconst 0, 1) := by decide +kernel
theorem ef_above (m : MethodId) (x0 : Addr) (x1 : Addr) : entryFrame m #[(.ref x0), (.ref x1)] 2 = mkF m 0 #[.val (.ref x0), .val (.ref x1)] [] := by first | (simp [entryFrame, mkF, argsToLocals, Value.category]; done) | rfl
def above_r (w_o0_low : Int64) (w_o1_high : Int64) : Int32 := (if w_o1_high < w_o0_low then (1 : Int32) else (0 : Int32))
def Qabove (Z : State) (o0 : Addr) (o1 : Addr) (w_o0_low : Int64) (w_o1_high : Int64) (h0 : Heap) (n0 : Nat) (v : Option Value) (h : Heap) (L : List Loc) : Prop := v = some (.int (above_r w_o0_low w_o1_high)) ∧ Fr n0 L ∧ h = h0
set_option maxRecDepth 65536 in
set_option maxHeartbeats 40000000 in
theorem above (l : Launch) (Z : State) (a0 : Array Value) (hw : ∀ d ∈ tables_1, d.before a0 Z = true) (ws : List Jvm.Cond) (o0 : Addr) (o1 : Addr) (w_o0_low : Int64) (w_o1_high : Int64) (h0 : Heap) (n0 : Nat) (Z0 : n0 ≤ h0.size) (F_o0_low : Fld Z h0 o0 "com/example/sure_sequence/suresequence/RegionRange" "low" "J" (.long w_o0_low)) (F_o1_high : Fld Z h0 o1 "com/example/sure_sequence/suresequence/RegionRange" "high" "J" (.long w_o1_high)) :
    MetFree l (⟨"com/example/sure_sequence/suresequence/RegionRange", "isAbove", "(Lcom/example/sure_sequence/suresequence/RegionRange;)Z"⟩ : MethodName) (head1 (Jvm.Cond.code (⟨"com/example/sure_sequence/suresequence/RegionRange", "isAbove", "(Lcom/example/sure_sequence/suresequence/RegionRange;)Z"⟩ : MethodName) prog_7_method_9_code 2 (some .boolean) :: ws) ({ frames := 0, cells := 0, slots := 0, locals := 0 } : Room)) (fun a U => a = #[(.ref o0), (.ref o1)] ∧ Z.Warmed39 U.vm ∧ U.heap = h0) (fun _ _ _ _ _ => True) (fun _ U o U' => ∃ v L, o = .returned v ∧ Qabove Z o0 o1 w_o0_low w_o1_high h0 n0 v U'.heap L ∧ FrameEnd U o U' L ({ frames := 0, cells := 0, slots := 0, locals := 0 } : Room).cells ({ frames := 0, cells := 0, slots := 0, locals := 0 } : Room).slots) := by
  refine MetFree.of_bodySF (plainFor_of_name pn_75) hisR ?_
  intro p e s m args below meth c s₁ Bd hml0 hP hK
  obtain ⟨rfl, hZ, hh⟩ := hP
  have hx := Bd.exec
  have hby := Bd.bytes
  have hml : c.maxLocals = 2 := hml0
  have hown : s.vm.findClass "com/example/sure_sequence/suresequence/RegionRange" = some m.cls := findClass_of_methodNamed Bd.named
  have hnm := (name_of_methodNamed Bd.named Bd.method).1
  have X0 : Stand p l e ({ frames := 0, cells := 0, slots := 0, locals := 0 } : Room) s m #[(.ref o0), (.ref o1)] below meth c s₁ [] 0 0 := Stand.of_body Bd
  have e0 : s₁.heap = h0 := by rw [← hh, Bd.state]; rfl
  have N0 := Fr.nil n0
  show own_Go p e below s (Qabove Z o0 o1 w_o0_low w_o1_high h0 n0) ({ frames := 0, cells := 0, slots := 0, locals := 0 } : Room).cells ({ frames := 0, cells := 0, slots := 0, locals := 0 } : Room).slots (s₁.setTop (entryFrame m #[(.ref o0), (.ref o1)] 2))
  rw [ef_above m o0 o1]
  have K0 : Keep h0 h0 [] := Keep.refl h0 []
  refine own_go (S' := s₁.setTop (mkF m 1 #[.val (.ref o0), .val (.ref o1)] [(.ref o0)])) (fun t k => ?_) ?_
  · show Steps p.tables e below (s₁.setTop (mkF m 0 #[.val (.ref o0), .val (.ref o1)] [])) t
    refine XS.aloadN X0.here hx rfl (hb hby d7_0) rfl rfl ?_
    exact k
  obtain ⟨T26, X26, e26, st26⟩ := getF X0 hx hZ hown (host := "") (Or.inl (hw _ (List.mem_of_getElem? (i := 24) rfl))) Via.refl e0 F_o0_low (g := (mkF m 1 #[.val (.ref o0), .val (.ref o1)] [(.ref o0)])) rfl rfl (hb hby d7_1)
  refine own_go st26 ?_
  refine own_go (S' := T26.setTop (mkF m 5 #[.val (.ref o0), .val (.ref o1)] [(.ref o1), (.long w_o0_low)])) (fun t k => ?_) ?_
  · show Steps p.tables e below (T26.setTop (mkF m 4 #[.val (.ref o0), .val (.ref o1)] [(.long w_o0_low)])) t
    refine XS.aloadN X26.here hx rfl (hb hby d7_4) rfl rfl ?_
    exact k
  obtain ⟨T27, X27, e27, st27⟩ := getF X26 hx hZ hown (host := "") (Or.inl (hw _ (List.mem_of_getElem? (i := 26) rfl))) Via.refl e26 F_o1_high (g := (mkF m 5 #[.val (.ref o0), .val (.ref o1)] [(.ref o1), (.long w_o0_low)])) rfl rfl (hb hby d7_5)
  refine own_go st27 ?_
  refine own_go (S' := T27.setTop (mkF m 9 #[.val (.ref o0), .val (.ref o1)] [(.int (Jvm.Free.XT.cmpL w_o0_low w_o1_high))])) (fun t k => ?_) ?_
  · show Steps p.tables e below (T27.setTop (mkF m 8 #[.val (.ref o0), .val (.ref o1)] [(.long w_o1_high), (.long w_o0_low)])) t
    refine XS.lcmp X27.here hx rfl (hb hby d7_8) rfl ?_
    exact k
  by_cases hc9 : w_o1_high < w_o0_low
  · skip
    refine own_go (S' := T27.setTop (mkF m 17 #[.val (.ref o0), .val (.ref o1)] [(.int (1 : Int32))])) (fun t k => ?_) ?_
    · show Steps p.tables e below (T27.setTop (mkF m 9 #[.val (.ref o0), .val (.ref o1)] [(.int (Jvm.Free.XT.cmpL w_o0_low w_o1_high))])) t
      refine XS.ifNo X27.here hx rfl (hb hby d7_9) rfl (Jvm.Free.XT.ll_le_f hc9) ?_
      show Steps p.tables e below (T27.setTop (mkF m 12 #[.val (.ref o0), .val (.ref o1)] [])) t
      refine XS.iconst X27.here hx rfl (hb hby d7_12) ?_
      show Steps p.tables e below (T27.setTop (mkF m 13 #[.val (.ref o0), .val (.ref o1)] [(.int (1 : Int32))])) t
      refine XS.goto X27.here hx rfl (pc0 := 13) (pc' := 17) rfl (hb hby d7_13) (by decide) (by decide) ?_
      exact k
    obtain ⟨fs, hr, hrun, hended, hW, hsame⟩ := X27.leave (v := some (.int (1 : Int32))) (fun h => by rw [Bd.returns] at h; cases h)
    refine own_end (v := some (.int (1 : Int32))) ?_ hrun hended ?_ hW (hsame.mono (by decide) (by decide))
    · show Steps p.tables e below (T27.setTop (mkF m 17 #[.val (.ref o0), .val (.ref o1)] [(.int (1 : Int32))])) _
      exact retN X27 hx (t := .boolean) Bd.returns (by simp) (hb hby d7_17) hr
    · show Qabove Z o0 o1 w_o0_low w_o1_high h0 n0 _ T27.heap _
      rw [e27]
      exact ⟨(by simp only [above_r, if_pos hc9]), N0, rfl⟩
  · skip
    refine own_go (S' := T27.setTop (mkF m 17 #[.val (.ref o0), .val (.ref o1)] [(.int (0 : Int32))])) (fun t k => ?_) ?_
    · show Steps p.tables e below (T27.setTop (mkF m 9 #[.val (.ref o0), .val (.ref o1)] [(.int (Jvm.Free.XT.cmpL w_o0_low w_o1_high))])) t
      refine XS.ifYes X27.here hx rfl (pc0 := 9) (pc' := 16) rfl (hb hby d7_9) rfl (Jvm.Free.XT.ll_le_t hc9) (by decide) (by decide) ?_
      show Steps p.tables e below (T27.setTop (mkF m 16 #[.val (.ref o0), .val (.ref o1)] [])) t
      refine XS.iconst X27.here hx rfl (hb hby d7_16) ?_
      exact k
    obtain ⟨fs, hr, hrun, hended, hW, hsame⟩ := X27.leave (v := some (.int (0 : Int32))) (fun h => by rw [Bd.returns] at h; cases h)
    refine own_end (v := some (.int (0 : Int32))) ?_ hrun hended ?_ hW (hsame.mono (by decide) (by decide))
    · show Steps p.tables e below (T27.setTop (mkF m 17 #[.val (.ref o0), .val (.ref o1)] [(.int (0 : Int32))])) _
      exact retN X27 hx (t := .boolean) Bd.returns (by simp) (hb hby d7_17) hr
    · show Qabove Z o0 o1 w_o0_low w_o1_high h0 n0 _ T27.heap _
      rw [e27]
      exact ⟨(by simp only [above_r, if_neg hc9]), N0, rfl⟩
theorem own_noMin (q : Int64) : -2 ^ 63 < (noMin_r q).toInt := by
  unfold noMin_r
  split
  · decide
  · rename_i h
    have b := q.le_toInt
    have : q.toInt ≠ -2 ^ 63 := fun e => h (Int64.toInt_inj.mp (by rw [e]; rfl))
    omega
theorem own_min {x y : Int64} (hx : -2 ^ 63 < x.toInt) (hy : -2 ^ 63 < y.toInt) : -2 ^ 63 < (minL_r x y).toInt := by
  unfold minL_r; split <;> assumption
theorem own_mm (x y : Int64) : ¬ maxL_r x y < minL_r x y := by
  unfold maxL_r minL_r
  simp only [Int64.lt_iff_toInt_lt]
  split <;> split <;> omega
theorem own_mark (lo hi : Int64) (w : Int32) (h1 : ¬ hi < lo) (h2 : -2 ^ 63 < lo.toInt) : ¬ mark_r lo hi w < lo - 1 ∧ ¬ hi < mark_r lo hi w := by
  have e1 : (1 : Int64).toInt = 1 := rfl
  have b1 := lo.toInt_lt
  have b2 := hi.toInt_lt
  rw [Int64.lt_iff_toInt_lt] at h1
  have s1 : (lo - 1).toInt = lo.toInt - 1 := by rw [Jvm.Kit.i64_sub (by omega) (by omega)]; omega
  have s2 : (hi - 1).toInt = hi.toInt - 1 := by rw [Jvm.Kit.i64_sub (by omega) (by omega)]; omega
  unfold mark_r
  simp only [Int64.lt_iff_toInt_lt]
  split
  · omega
  · split
    · omega
    · split <;> omega
theorem own_abv (al ah bl bh : Int64) (h1 : ¬ ah < al) (h2 : ¬ bh < bl) : above_r al bh = (if (if bh < al then (0 : Int32) else (if ah < bl then (0 : Int32) else (1 : Int32))) = (0 : Int32) then (if bl < al then (1 : Int32) else (0 : Int32)) else (0 : Int32)) := by
  unfold above_r
  simp only [Int64.lt_iff_toInt_lt] at *
  by_cases a : bh.toInt < al.toInt
  · have b : bl.toInt < al.toInt := by omega
    simp [a, b]
  · by_cases c : ah.toInt < bl.toInt
    · have b : ¬ bl.toInt < al.toInt := by omega
      simp [a, b, c]
    · simp [a, c]
theorem own_abw (al ah bl bh : Int64) (h1 : ¬ ah < al) (h2 : ¬ bh < bl) : above_r bl ah = (if (if bh < al then (0 : Int32) else (if ah < bl then (0 : Int32) else (1 : Int32))) = (0 : Int32) then (if al < bl then (1 : Int32) else (0 : Int32)) else (0 : Int32)) := by
  unfold above_r
  simp only [Int64.lt_iff_toInt_lt] at *
  by_cases a : ah.toInt < bl.toInt
  · have b : al.toInt < bl.toInt := by omega
    have d : ¬ bh.toInt < al.toInt := by omega
    simp [a, b, d]
  · by_cases c : bh.toInt < al.toInt
    · have b : ¬ al.toInt < bl.toInt := by omega
      simp [a, b, c]
    · simp [a, c]
theorem pd_86 : parseMethodDescriptor "(J)J" = some ⟨[.long], some .long⟩ := by decide +kernel
theorem pd_87 : parseMethodDescriptor "(JJ)J" = some ⟨[.long, .long], some .long⟩ := by decide +kernel
theorem pd_88 : parseMethodDescriptor "(JJI)J" = some ⟨[.long, .long, .int], some .long⟩ := by decide +kernel
theorem pd_89 : parseMethodDescriptor "(JJJ)V" = some ⟨[.long, .long, .long], none⟩ := by decide +kernel
theorem pd_90 : parseMethodDescriptor "(Lcom/example/sure_sequence/suresequence/RegionRange;)Z" = some ⟨[(.object "com/example/sure_sequence/suresequence/RegionRange")], some .boolean⟩ := by decide +kernel
theorem ef_rm0 (m : MethodId) (x0 : Int64) (x1 : Int64) (x2 : Int64) (x3 : Int64) (x4 : Int32) (x5 : Int32) : entryFrame m #[(.long x0), (.long x1), (.long x2), (.long x3), (.int x4), (.int x5)] maxLocals = mkF m 0 #[.val (.long x0), .second, .val (.long x1), .second, .val (.long x2), .second, .val (.long x3), .second, .val (.int x4), .val (.int x5), .unset, .unset, .unset, .unset, .unset, .unset, .unset, .unset, .unset, .unset, .unset, .unset, .unset, .unset, .unset, .unset, .unset, .unset, .unset, .unset, .unset] [] := by first | (simp [entryFrame, mkF, argsToLocals, Value.category, maxLocals]; done) | rfl
def Qrm0 (Z : State) (q0 : Int64) (q1 : Int64) (q2 : Int64) (q3 : Int64) (p4 : Int32) (p5 : Int32) (h0 : Heap) (n0 : Nat) (v : Option Value) (h : Heap) (L : List Loc) : Prop := v = some (.int 1) ∧ Fr n0 L
set_option maxRecDepth 65536 in
set_option maxHeartbeats 40000000 in
theorem rm0 (l : Launch) (Z : State) (a0 : Array Value) (hw : ∀ d ∈ tables_1, d.before a0 Z = true) (ws : List Jvm.Cond) (q0 : Int64) (q1 : Int64) (q2 : Int64) (q3 : Int64) (p4 : Int32) (p5 : Int32) (h0 : Heap) (n0 : Nat) (Z0 : n0 ≤ h0.size) :
    MetFree l x (head1 (Jvm.Cond.code x code maxLocals ret :: ws) room_1) (fun a U => a = #[(.long q0), (.long q1), (.long q2), (.long q3), (.int p4), (.int p5)] ∧ Z.Warmed39 U.vm ∧ U.heap = h0) (fun _ _ _ _ _ => True) (fun _ U o U' => ∃ v L, o = .returned v ∧ Qrm0 Z q0 q1 q2 q3 p4 p5 h0 n0 v U'.heap L ∧ FrameEnd U o U' L room_1.cells room_1.slots) := by
  refine MetFree.of_bodySF (plainFor_of_name pn_8) hisR ?_
  intro p e s m args below meth c s₁ Bd hml0 hP hK
  obtain ⟨rfl, hZ, hh⟩ := hP
  have hx := Bd.exec
  have hby := Bd.bytes
  have hml : c.maxLocals = 31 := hml0
  have hown : s.vm.findClass "com/example/sure_sequence/suresequence/RegionRangeIsAbovePinLaw" = some m.cls := findClass_of_methodNamed Bd.named
  have hnm := (name_of_methodNamed Bd.named Bd.method).1
  have X0 : Stand p l e room_1 s m #[(.long q0), (.long q1), (.long q2), (.long q3), (.int p4), (.int p5)] below meth c s₁ [] 0 0 := Stand.of_body Bd
  have e0 : s₁.heap = h0 := by rw [← hh, Bd.state]; rfl
  have N0 := Fr.nil n0
  show own_Go p e below s (Qrm0 Z q0 q1 q2 q3 p4 p5 h0 n0) room_1.cells room_1.slots (s₁.setTop (entryFrame m #[(.long q0), (.long q1), (.long q2), (.long q3), (.int p4), (.int p5)] maxLocals))
  rw [ef_rm0 m q0 q1 q2 q3 p4 p5]
  refine own_go (S' := s₁.setTop (mkF m 1 #[.val (.long q0), .second, .val (.long q1), .second, .val (.long q2), .second, .val (.long q3), .second, .val (.int p4), .val (.int p5), .unset, .unset, .unset, .unset, .unset, .unset, .unset, .unset, .unset, .unset, .unset, .unset, .unset, .unset, .unset, .unset, .unset, .unset, .unset, .unset, .unset] [(.long q0)])) (fun t k => ?_) ?_
  · show Steps p.tables e below (s₁.setTop (mkF m 0 #[.val (.long q0), .second, .val (.long q1), .second, .val (.long q2), .second, .val (.long q3), .second, .val (.int p4), .val (.int p5), .unset, .unset, .unset, .unset, .unset, .unset, .unset, .unset, .unset, .unset, .unset, .unset, .unset, .unset, .unset, .unset, .unset, .unset, .unset, .unset, .unset] [])) t
    refine XS.lloadN X0.here hx rfl (hb hby at_0) rfl ?_
    exact k
  obtain ⟨_, _, ⟨T28, L28, kk28, nn28⟩, -, X28, ⟨Lc28, hQ28, l28, y28, z28⟩, st28⟩ := Jvm.LawKit.callS X0 hx (y := (⟨"com/example/sure_sequence/suresequence/RegionRangeIsAbovePinLaw", "noMin", "(J)J"⟩ : MethodName)) hown (mvT hZ (hw _ (List.mem_of_getElem? (i := 0) rfl))) (mvT hZ (hw _ (List.mem_of_getElem? (i := 1) rfl))) (mvT hZ (hw _ (List.mem_of_getElem? (i := 2) rfl))) (mvT hZ (hw _ (List.mem_of_getElem? (i := 3) rfl))) (by decide) (backOf (W := 0) (noMin l Z a0 hw [] q0 h0 n0 Z0 ) hZ (hw _ (List.mem_of_getElem? (i := 3) rfl)) (hw _ (List.mem_of_getElem? (i := 2) rfl)) (by decide) (by decide)) (g := (mkF m 1 #[.val (.long q0), .second, .val (.long q1), .second, .val (.long q2), .second, .val (.long q3), .second, .val (.int p4), .val (.int p5), .unset, .unset, .unset, .unset, .unset, .unset, .unset, .unset, .unset, .unset, .unset, .unset, .unset, .unset, .unset, .unset, .unset, .unset, .unset, .unset, .unset] [(.long q0)])) rfl (by rw [hml]; rfl) (argsL := [(.long q0)]) (rest := []) (lenOf pd_86 rfl) rfl (by show 2 * 0 + _ ≤ _; exact Nat.le_of_eq rfl) (hb hby at_1) (fun _ _ => ⟨rfl, e0, (by decide : 0 + 0 ≤ _), (by decide : 0 + 0 ≤ _)⟩)
  dsimp only [Pt.U, Pt.locs, Pt.cells, Pt.slots] at X28 l28 y28 z28 st28 hQ28
  subst l28 y28 z28
  obtain ⟨rfl, N29, e28⟩ := hQ28
  have N31 := Fr.app N0 N29
  refine own_go st28 ?_
  refine own_go (S' := T28.setTop (mkF m 7 #[.val (.long q0), .second, .val (.long q1), .second, .val (.long q2), .second, .val (.long q3), .second, .val (.int p4), .val (.int p5), .val (.long (noMin_r q0)), .second, .unset, .unset, .unset, .unset, .unset, .unset, .unset, .unset, .unset, .unset, .unset, .unset, .unset, .unset, .unset, .unset, .unset, .unset, .unset] [(.long q1)])) (fun t k => ?_) ?_
  · show Steps p.tables e below (T28.setTop (mkF m 4 #[.val (.long q0), .second, .val (.long q1), .second, .val (.long q2), .second, .val (.long q3), .second, .val (.int p4), .val (.int p5), .unset, .unset, .unset, .unset, .unset, .unset, .unset, .unset, .unset, .unset, .unset, .unset, .unset, .unset, .unset, .unset, .unset, .unset, .unset, .unset, .unset] [(.long (noMin_r q0))])) t
    refine XS.lstore X28.here hx rfl (hb hby at_4) rfl (l' := #[.val (.long q0), .second, .val (.long q1), .second, .val (.long q2), .second, .val (.long q3), .second, .val (.int p4), .val (.int p5), .val (.long (noMin_r q0)), .second, .unset, .unset, .unset, .unset, .unset, .unset, .unset, .unset, .unset, .unset, .unset, .unset, .unset, .unset, .unset, .unset, .unset, .unset, .unset]) rfl ?_
    show Steps p.tables e below (T28.setTop (mkF m 6 #[.val (.long q0), .second, .val (.long q1), .second, .val (.long q2), .second, .val (.long q3), .second, .val (.int p4), .val (.int p5), .val (.long (noMin_r q0)), .second, .unset, .unset, .unset, .unset, .unset, .unset, .unset, .unset, .unset, .unset, .unset, .unset, .unset, .unset, .unset, .unset, .unset, .unset, .unset] [])) t
    refine XS.lloadN X28.here hx rfl (hb hby at_6) rfl ?_
    exact k
  obtain ⟨_, _, ⟨T32, L32, kk32, nn32⟩, -, X32, ⟨Lc32, hQ32, l32, y32, z32⟩, st32⟩ := Jvm.LawKit.callS X28 hx (y := (⟨"com/example/sure_sequence/suresequence/RegionRangeIsAbovePinLaw", "noMin", "(J)J"⟩ : MethodName)) hown (mvT hZ (hw _ (List.mem_of_getElem? (i := 0) rfl))) (mvT hZ (hw _ (List.mem_of_getElem? (i := 1) rfl))) (mvT hZ (hw _ (List.mem_of_getElem? (i := 2) rfl))) (mvT hZ (hw _ (List.mem_of_getElem? (i := 3) rfl))) (by decide) (backOf (W := 0) (noMin l Z a0 hw [] q1 h0 n0 Z0 ) hZ (hw _ (List.mem_of_getElem? (i := 3) rfl)) (hw _ (List.mem_of_getElem? (i := 2) rfl)) (by decide) (by decide)) (g := (mkF m 7 #[.val (.long q0), .second, .val (.long q1), .second, .val (.long q2), .second, .val (.long q3), .second, .val (.int p4), .val (.int p5), .val (.long (noMin_r q0)), .second, .unset, .unset, .unset, .unset, .unset, .unset, .unset, .unset, .unset, .unset, .unset, .unset, .unset, .unset, .unset, .unset, .unset, .unset, .unset] [(.long q1)])) rfl (by rw [hml]; rfl) (argsL := [(.long q1)]) (rest := []) (lenOf pd_86 rfl) rfl (by show 2 * 0 + _ ≤ _; exact Nat.le_of_eq rfl) (hb hby at_7) (fun _ _ => ⟨rfl, e28, (by decide : 0 + 0 ≤ _), (by decide : 0 + 0 ≤ _)⟩)
  dsimp only [Pt.U, Pt.locs, Pt.cells, Pt.slots] at X32 l32 y32 z32 st32 hQ32
  subst l32 y32 z32
  obtain ⟨rfl, N33, e32⟩ := hQ32
  have N35 := Fr.app N31 N33
  refine own_go st32 ?_
  refine own_go (S' := T32.setTop (mkF m 14 #[.val (.long q0), .second, .val (.long q1), .second, .val (.long q2), .second, .val (.long q3), .second, .val (.int p4), .val (.int p5), .val (.long (noMin_r q0)), .second, .val (.long (noMin_r q1)), .second, .unset, .unset, .unset, .unset, .unset, .unset, .unset, .unset, .unset, .unset, .unset, .unset, .unset, .unset, .unset, .unset, .unset] [(.long q2)])) (fun t k => ?_) ?_
  · show Steps p.tables e below (T32.setTop (mkF m 10 #[.val (.long q0), .second, .val (.long q1), .second, .val (.long q2), .second, .val (.long q3), .second, .val (.int p4), .val (.int p5), .val (.long (noMin_r q0)), .second, .unset, .unset, .unset, .unset, .unset, .unset, .unset, .unset, .unset, .unset, .unset, .unset, .unset, .unset, .unset, .unset, .unset, .unset, .unset] [(.long (noMin_r q1))])) t
    refine XS.lstore X32.here hx rfl (hb hby at_10) rfl (l' := #[.val (.long q0), .second, .val (.long q1), .second, .val (.long q2), .second, .val (.long q3), .second, .val (.int p4), .val (.int p5), .val (.long (noMin_r q0)), .second, .val (.long (noMin_r q1)), .second, .unset, .unset, .unset, .unset, .unset, .unset, .unset, .unset, .unset, .unset, .unset, .unset, .unset, .unset, .unset, .unset, .unset]) rfl ?_
    show Steps p.tables e below (T32.setTop (mkF m 12 #[.val (.long q0), .second, .val (.long q1), .second, .val (.long q2), .second, .val (.long q3), .second, .val (.int p4), .val (.int p5), .val (.long (noMin_r q0)), .second, .val (.long (noMin_r q1)), .second, .unset, .unset, .unset, .unset, .unset, .unset, .unset, .unset, .unset, .unset, .unset, .unset, .unset, .unset, .unset, .unset, .unset] [])) t
    refine XS.lload X32.here hx rfl (hb hby at_12) rfl ?_
    exact k
  obtain ⟨_, _, ⟨T36, L36, kk36, nn36⟩, -, X36, ⟨Lc36, hQ36, l36, y36, z36⟩, st36⟩ := Jvm.LawKit.callS X32 hx (y := (⟨"com/example/sure_sequence/suresequence/RegionRangeIsAbovePinLaw", "noMin", "(J)J"⟩ : MethodName)) hown (mvT hZ (hw _ (List.mem_of_getElem? (i := 0) rfl))) (mvT hZ (hw _ (List.mem_of_getElem? (i := 1) rfl))) (mvT hZ (hw _ (List.mem_of_getElem? (i := 2) rfl))) (mvT hZ (hw _ (List.mem_of_getElem? (i := 3) rfl))) (by decide) (backOf (W := 0) (noMin l Z a0 hw [] q2 h0 n0 Z0 ) hZ (hw _ (List.mem_of_getElem? (i := 3) rfl)) (hw _ (List.mem_of_getElem? (i := 2) rfl)) (by decide) (by decide)) (g := (mkF m 14 #[.val (.long q0), .second, .val (.long q1), .second, .val (.long q2), .second, .val (.long q3), .second, .val (.int p4), .val (.int p5), .val (.long (noMin_r q0)), .second, .val (.long (noMin_r q1)), .second, .unset, .unset, .unset, .unset, .unset, .unset, .unset, .unset, .unset, .unset, .unset, .unset, .unset, .unset, .unset, .unset, .unset] [(.long q2)])) rfl (by rw [hml]; rfl) (argsL := [(.long q2)]) (rest := []) (lenOf pd_86 rfl) rfl (by show 2 * 0 + _ ≤ _; exact Nat.le_of_eq rfl) (hb hby at_14) (fun _ _ => ⟨rfl, e32, (by decide : 0 + 0 ≤ _), (by decide : 0 + 0 ≤ _)⟩)
  dsimp only [Pt.U, Pt.locs, Pt.cells, Pt.slots] at X36 l36 y36 z36 st36 hQ36
  subst l36 y36 z36
  obtain ⟨rfl, N37, e36⟩ := hQ36
  have N39 := Fr.app N35 N37
  refine own_go st36 ?_
  refine own_go (S' := T36.setTop (mkF m 21 #[.val (.long q0), .second, .val (.long q1), .second, .val (.long q2), .second, .val (.long q3), .second, .val (.int p4), .val (.int p5), .val (.long (noMin_r q0)), .second, .val (.long (noMin_r q1)), .second, .val (.long (noMin_r q2)), .second, .unset, .unset, .unset, .unset, .unset, .unset, .unset, .unset, .unset, .unset, .unset, .unset, .unset, .unset, .unset] [(.long q3)])) (fun t k => ?_) ?_
  · show Steps p.tables e below (T36.setTop (mkF m 17 #[.val (.long q0), .second, .val (.long q1), .second, .val (.long q2), .second, .val (.long q3), .second, .val (.int p4), .val (.int p5), .val (.long (noMin_r q0)), .second, .val (.long (noMin_r q1)), .second, .unset, .unset, .unset, .unset, .unset, .unset, .unset, .unset, .unset, .unset, .unset, .unset, .unset, .unset, .unset, .unset, .unset] [(.long (noMin_r q2))])) t
    refine XS.lstore X36.here hx rfl (hb hby at_17) rfl (l' := #[.val (.long q0), .second, .val (.long q1), .second, .val (.long q2), .second, .val (.long q3), .second, .val (.int p4), .val (.int p5), .val (.long (noMin_r q0)), .second, .val (.long (noMin_r q1)), .second, .val (.long (noMin_r q2)), .second, .unset, .unset, .unset, .unset, .unset, .unset, .unset, .unset, .unset, .unset, .unset, .unset, .unset, .unset, .unset]) rfl ?_
    show Steps p.tables e below (T36.setTop (mkF m 19 #[.val (.long q0), .second, .val (.long q1), .second, .val (.long q2), .second, .val (.long q3), .second, .val (.int p4), .val (.int p5), .val (.long (noMin_r q0)), .second, .val (.long (noMin_r q1)), .second, .val (.long (noMin_r q2)), .second, .unset, .unset, .unset, .unset, .unset, .unset, .unset, .unset, .unset, .unset, .unset, .unset, .unset, .unset, .unset] [])) t
    refine XS.lload X36.here hx rfl (hb hby at_19) rfl ?_
    exact k
  obtain ⟨_, _, ⟨T40, L40, kk40, nn40⟩, -, X40, ⟨Lc40, hQ40, l40, y40, z40⟩, st40⟩ := Jvm.LawKit.callS X36 hx (y := (⟨"com/example/sure_sequence/suresequence/RegionRangeIsAbovePinLaw", "noMin", "(J)J"⟩ : MethodName)) hown (mvT hZ (hw _ (List.mem_of_getElem? (i := 0) rfl))) (mvT hZ (hw _ (List.mem_of_getElem? (i := 1) rfl))) (mvT hZ (hw _ (List.mem_of_getElem? (i := 2) rfl))) (mvT hZ (hw _ (List.mem_of_getElem? (i := 3) rfl))) (by decide) (backOf (W := 0) (noMin l Z a0 hw [] q3 h0 n0 Z0 ) hZ (hw _ (List.mem_of_getElem? (i := 3) rfl)) (hw _ (List.mem_of_getElem? (i := 2) rfl)) (by decide) (by decide)) (g := (mkF m 21 #[.val (.long q0), .second, .val (.long q1), .second, .val (.long q2), .second, .val (.long q3), .second, .val (.int p4), .val (.int p5), .val (.long (noMin_r q0)), .second, .val (.long (noMin_r q1)), .second, .val (.long (noMin_r q2)), .second, .unset, .unset, .unset, .unset, .unset, .unset, .unset, .unset, .unset, .unset, .unset, .unset, .unset, .unset, .unset] [(.long q3)])) rfl (by rw [hml]; rfl) (argsL := [(.long q3)]) (rest := []) (lenOf pd_86 rfl) rfl (by show 2 * 0 + _ ≤ _; exact Nat.le_of_eq rfl) (hb hby at_21) (fun _ _ => ⟨rfl, e36, (by decide : 0 + 0 ≤ _), (by decide : 0 + 0 ≤ _)⟩)
  dsimp only [Pt.U, Pt.locs, Pt.cells, Pt.slots] at X40 l40 y40 z40 st40 hQ40
  subst l40 y40 z40
  obtain ⟨rfl, N41, e40⟩ := hQ40
  have N43 := Fr.app N39 N41
  refine own_go st40 ?_
  refine own_go (S' := T40.setTop (mkF m 30 #[.val (.long q0), .second, .val (.long q1), .second, .val (.long q2), .second, .val (.long q3), .second, .val (.int p4), .val (.int p5), .val (.long (noMin_r q0)), .second, .val (.long (noMin_r q1)), .second, .val (.long (noMin_r q2)), .second, .val (.long (noMin_r q3)), .second, .unset, .unset, .unset, .unset, .unset, .unset, .unset, .unset, .unset, .unset, .unset, .unset, .unset] [(.long (noMin_r q1)), (.long (noMin_r q0))])) (fun t k => ?_) ?_
  · show Steps p.tables e below (T40.setTop (mkF m 24 #[.val (.long q0), .second, .val (.long q1), .second, .val (.long q2), .second, .val (.long q3), .second, .val (.int p4), .val (.int p5), .val (.long (noMin_r q0)), .second, .val (.long (noMin_r q1)), .second, .val (.long (noMin_r q2)), .second, .unset, .unset, .unset, .unset, .unset, .unset, .unset, .unset, .unset, .unset, .unset, .unset, .unset, .unset, .unset] [(.long (noMin_r q3))])) t
    refine XS.lstore X40.here hx rfl (hb hby at_24) rfl (l' := #[.val (.long q0), .second, .val (.long q1), .second, .val (.long q2), .second, .val (.long q3), .second, .val (.int p4), .val (.int p5), .val (.long (noMin_r q0)), .second, .val (.long (noMin_r q1)), .second, .val (.long (noMin_r q2)), .second, .val (.long (noMin_r q3)), .second, .unset, .unset, .unset, .unset, .unset, .unset, .unset, .unset, .unset, .unset, .unset, .unset, .unset]) rfl ?_
    show Steps p.tables e below (T40.setTop (mkF m 26 #[.val (.long q0), .second, .val (.long q1), .second, .val (.long q2), .second, .val (.long q3), .second, .val (.int p4), .val (.int p5), .val (.long (noMin_r q0)), .second, .val (.long (noMin_r q1)), .second, .val (.long (noMin_r q2)), .second, .val (.long (noMin_r q3)), .second, .unset, .unset, .unset, .unset, .unset, .unset, .unset, .unset, .unset, .unset, .unset, .unset, .unset] [])) t
    refine XS.lload X40.here hx rfl (hb hby at_26) rfl ?_
    show Steps p.tables e below (T40.setTop (mkF m 28 #[.val (.long q0), .second, .val (.long q1), .second, .val (.long q2), .second, .val (.long q3), .second, .val (.int p4), .val (.int p5), .val (.long (noMin_r q0)), .second, .val (.long (noMin_r q1)), .second, .val (.long (noMin_r q2)), .second, .val (.long (noMin_r q3)), .second, .unset, .unset, .unset, .unset, .unset, .unset, .unset, .unset, .unset, .unset, .unset, .unset, .unset] [(.long (noMin_r q0))])) t
    refine XS.lload X40.here hx rfl (hb hby at_28) rfl ?_
    exact k
  obtain ⟨_, _, ⟨T44, L44, kk44, nn44⟩, -, X44, ⟨Lc44, hQ44, l44, y44, z44⟩, st44⟩ := Jvm.LawKit.callS X40 hx (y := (⟨"java/lang/Math", "min", "(JJ)J"⟩ : MethodName)) hown (mvT hZ (hw _ (List.mem_of_getElem? (i := 5) rfl))) (mvT hZ (hw _ (List.mem_of_getElem? (i := 6) rfl))) (mvT hZ (hw _ (List.mem_of_getElem? (i := 7) rfl))) (mvT hZ (hw _ (List.mem_of_getElem? (i := 8) rfl))) (by decide) (backOf (W := 0) (minL l Z a0 hw [] (noMin_r q0) (noMin_r q1) h0 n0 Z0 ) hZ (hw _ (List.mem_of_getElem? (i := 8) rfl)) (hw _ (List.mem_of_getElem? (i := 7) rfl)) (by decide) (by decide)) (g := (mkF m 30 #[.val (.long q0), .second, .val (.long q1), .second, .val (.long q2), .second, .val (.long q3), .second, .val (.int p4), .val (.int p5), .val (.long (noMin_r q0)), .second, .val (.long (noMin_r q1)), .second, .val (.long (noMin_r q2)), .second, .val (.long (noMin_r q3)), .second, .unset, .unset, .unset, .unset, .unset, .unset, .unset, .unset, .unset, .unset, .unset, .unset, .unset] [(.long (noMin_r q1)), (.long (noMin_r q0))])) rfl (by rw [hml]; rfl) (argsL := [(.long (noMin_r q0)), (.long (noMin_r q1))]) (rest := []) (lenOf pd_87 rfl) rfl (by show 2 * 0 + _ ≤ _; exact Nat.le_of_eq rfl) (hb hby at_30) (fun _ _ => ⟨rfl, e40, (by decide : 0 + 0 ≤ _), (by decide : 0 + 0 ≤ _)⟩)
  dsimp only [Pt.U, Pt.locs, Pt.cells, Pt.slots] at X44 l44 y44 z44 st44 hQ44
  subst l44 y44 z44
  obtain ⟨rfl, N45, e44⟩ := hQ44
  have N47 := Fr.app N43 N45
  refine own_go st44 ?_
  refine own_go (S' := T44.setTop (mkF m 39 #[.val (.long q0), .second, .val (.long q1), .second, .val (.long q2), .second, .val (.long q3), .second, .val (.int p4), .val (.int p5), .val (.long (noMin_r q0)), .second, .val (.long (noMin_r q1)), .second, .val (.long (noMin_r q2)), .second, .val (.long (noMin_r q3)), .second, .val (.long (minL_r (noMin_r q0) (noMin_r q1))), .second, .unset, .unset, .unset, .unset, .unset, .unset, .unset, .unset, .unset, .unset, .unset] [(.long (noMin_r q1)), (.long (noMin_r q0))])) (fun t k => ?_) ?_
  · show Steps p.tables e below (T44.setTop (mkF m 33 #[.val (.long q0), .second, .val (.long q1), .second, .val (.long q2), .second, .val (.long q3), .second, .val (.int p4), .val (.int p5), .val (.long (noMin_r q0)), .second, .val (.long (noMin_r q1)), .second, .val (.long (noMin_r q2)), .second, .val (.long (noMin_r q3)), .second, .unset, .unset, .unset, .unset, .unset, .unset, .unset, .unset, .unset, .unset, .unset, .unset, .unset] [(.long (minL_r (noMin_r q0) (noMin_r q1)))])) t
    refine XS.lstore X44.here hx rfl (hb hby at_33) rfl (l' := #[.val (.long q0), .second, .val (.long q1), .second, .val (.long q2), .second, .val (.long q3), .second, .val (.int p4), .val (.int p5), .val (.long (noMin_r q0)), .second, .val (.long (noMin_r q1)), .second, .val (.long (noMin_r q2)), .second, .val (.long (noMin_r q3)), .second, .val (.long (minL_r (noMin_r q0) (noMin_r q1))), .second, .unset, .unset, .unset, .unset, .unset, .unset, .unset, .unset, .unset, .unset, .unset]) rfl ?_
    show Steps p.tables e below (T44.setTop (mkF m 35 #[.val (.long q0), .second, .val (.long q1), .second, .val (.long q2), .second, .val (.long q3), .second, .val (.int p4), .val (.int p5), .val (.long (noMin_r q0)), .second, .val (.long (noMin_r q1)), .second, .val (.long (noMin_r q2)), .second, .val (.long (noMin_r q3)), .second, .val (.long (minL_r (noMin_r q0) (noMin_r q1))), .second, .unset, .unset, .unset, .unset, .unset, .unset, .unset, .unset, .unset, .unset, .unset] [])) t
    refine XS.lload X44.here hx rfl (hb hby at_35) rfl ?_
    show Steps p.tables e below (T44.setTop (mkF m 37 #[.val (.long q0), .second, .val (.long q1), .second, .val (.long q2), .second, .val (.long q3), .second, .val (.int p4), .val (.int p5), .val (.long (noMin_r q0)), .second, .val (.long (noMin_r q1)), .second, .val (.long (noMin_r q2)), .second, .val (.long (noMin_r q3)), .second, .val (.long (minL_r (noMin_r q0) (noMin_r q1))), .second, .unset, .unset, .unset, .unset, .unset, .unset, .unset, .unset, .unset, .unset, .unset] [(.long (noMin_r q0))])) t
    refine XS.lload X44.here hx rfl (hb hby at_37) rfl ?_
    exact k
  obtain ⟨_, _, ⟨T48, L48, kk48, nn48⟩, -, X48, ⟨Lc48, hQ48, l48, y48, z48⟩, st48⟩ := Jvm.LawKit.callS X44 hx (y := (⟨"java/lang/Math", "max", "(JJ)J"⟩ : MethodName)) hown (mvT hZ (hw _ (List.mem_of_getElem? (i := 9) rfl))) (mvT hZ (hw _ (List.mem_of_getElem? (i := 10) rfl))) (mvT hZ (hw _ (List.mem_of_getElem? (i := 7) rfl))) (mvT hZ (hw _ (List.mem_of_getElem? (i := 11) rfl))) (by decide) (backOf (W := 0) (maxL l Z a0 hw [] (noMin_r q0) (noMin_r q1) h0 n0 Z0 ) hZ (hw _ (List.mem_of_getElem? (i := 11) rfl)) (hw _ (List.mem_of_getElem? (i := 7) rfl)) (by decide) (by decide)) (g := (mkF m 39 #[.val (.long q0), .second, .val (.long q1), .second, .val (.long q2), .second, .val (.long q3), .second, .val (.int p4), .val (.int p5), .val (.long (noMin_r q0)), .second, .val (.long (noMin_r q1)), .second, .val (.long (noMin_r q2)), .second, .val (.long (noMin_r q3)), .second, .val (.long (minL_r (noMin_r q0) (noMin_r q1))), .second, .unset, .unset, .unset, .unset, .unset, .unset, .unset, .unset, .unset, .unset, .unset] [(.long (noMin_r q1)), (.long (noMin_r q0))])) rfl (by rw [hml]; rfl) (argsL := [(.long (noMin_r q0)), (.long (noMin_r q1))]) (rest := []) (lenOf pd_87 rfl) rfl (by show 2 * 0 + _ ≤ _; exact Nat.le_of_eq rfl) (hb hby at_39) (fun _ _ => ⟨rfl, e44, (by decide : 0 + 0 ≤ _), (by decide : 0 + 0 ≤ _)⟩)
  dsimp only [Pt.U, Pt.locs, Pt.cells, Pt.slots] at X48 l48 y48 z48 st48 hQ48
  subst l48 y48 z48
  obtain ⟨rfl, N49, e48⟩ := hQ48
  have N51 := Fr.app N47 N49
  refine own_go st48 ?_
  refine own_go (S' := T48.setTop (mkF m 48 #[.val (.long q0), .second, .val (.long q1), .second, .val (.long q2), .second, .val (.long q3), .second, .val (.int p4), .val (.int p5), .val (.long (noMin_r q0)), .second, .val (.long (noMin_r q1)), .second, .val (.long (noMin_r q2)), .second, .val (.long (noMin_r q3)), .second, .val (.long (minL_r (noMin_r q0) (noMin_r q1))), .second, .val (.long (maxL_r (noMin_r q0) (noMin_r q1))), .second, .unset, .unset, .unset, .unset, .unset, .unset, .unset, .unset, .unset] [(.long (noMin_r q3)), (.long (noMin_r q2))])) (fun t k => ?_) ?_
  · show Steps p.tables e below (T48.setTop (mkF m 42 #[.val (.long q0), .second, .val (.long q1), .second, .val (.long q2), .second, .val (.long q3), .second, .val (.int p4), .val (.int p5), .val (.long (noMin_r q0)), .second, .val (.long (noMin_r q1)), .second, .val (.long (noMin_r q2)), .second, .val (.long (noMin_r q3)), .second, .val (.long (minL_r (noMin_r q0) (noMin_r q1))), .second, .unset, .unset, .unset, .unset, .unset, .unset, .unset, .unset, .unset, .unset, .unset] [(.long (maxL_r (noMin_r q0) (noMin_r q1)))])) t
    refine XS.lstore X48.here hx rfl (hb hby at_42) rfl (l' := #[.val (.long q0), .second, .val (.long q1), .second, .val (.long q2), .second, .val (.long q3), .second, .val (.int p4), .val (.int p5), .val (.long (noMin_r q0)), .second, .val (.long (noMin_r q1)), .second, .val (.long (noMin_r q2)), .second, .val (.long (noMin_r q3)), .second, .val (.long (minL_r (noMin_r q0) (noMin_r q1))), .second, .val (.long (maxL_r (noMin_r q0) (noMin_r q1))), .second, .unset, .unset, .unset, .unset, .unset, .unset, .unset, .unset, .unset]) rfl ?_
    show Steps p.tables e below (T48.setTop (mkF m 44 #[.val (.long q0), .second, .val (.long q1), .second, .val (.long q2), .second, .val (.long q3), .second, .val (.int p4), .val (.int p5), .val (.long (noMin_r q0)), .second, .val (.long (noMin_r q1)), .second, .val (.long (noMin_r q2)), .second, .val (.long (noMin_r q3)), .second, .val (.long (minL_r (noMin_r q0) (noMin_r q1))), .second, .val (.long (maxL_r (noMin_r q0) (noMin_r q1))), .second, .unset, .unset, .unset, .unset, .unset, .unset, .unset, .unset, .unset] [])) t
    refine XS.lload X48.here hx rfl (hb hby at_44) rfl ?_
    show Steps p.tables e below (T48.setTop (mkF m 46 #[.val (.long q0), .second, .val (.long q1), .second, .val (.long q2), .second, .val (.long q3), .second, .val (.int p4), .val (.int p5), .val (.long (noMin_r q0)), .second, .val (.long (noMin_r q1)), .second, .val (.long (noMin_r q2)), .second, .val (.long (noMin_r q3)), .second, .val (.long (minL_r (noMin_r q0) (noMin_r q1))), .second, .val (.long (maxL_r (noMin_r q0) (noMin_r q1))), .second, .unset, .unset, .unset, .unset, .unset, .unset, .unset, .unset, .unset] [(.long (noMin_r q2))])) t
    refine XS.lload X48.here hx rfl (hb hby at_46) rfl ?_
    exact k
  obtain ⟨_, _, ⟨T52, L52, kk52, nn52⟩, -, X52, ⟨Lc52, hQ52, l52, y52, z52⟩, st52⟩ := Jvm.LawKit.callS X48 hx (y := (⟨"java/lang/Math", "min", "(JJ)J"⟩ : MethodName)) hown (mvT hZ (hw _ (List.mem_of_getElem? (i := 5) rfl))) (mvT hZ (hw _ (List.mem_of_getElem? (i := 6) rfl))) (mvT hZ (hw _ (List.mem_of_getElem? (i := 7) rfl))) (mvT hZ (hw _ (List.mem_of_getElem? (i := 8) rfl))) (by decide) (backOf (W := 0) (minL l Z a0 hw [] (noMin_r q2) (noMin_r q3) h0 n0 Z0 ) hZ (hw _ (List.mem_of_getElem? (i := 8) rfl)) (hw _ (List.mem_of_getElem? (i := 7) rfl)) (by decide) (by decide)) (g := (mkF m 48 #[.val (.long q0), .second, .val (.long q1), .second, .val (.long q2), .second, .val (.long q3), .second, .val (.int p4), .val (.int p5), .val (.long (noMin_r q0)), .second, .val (.long (noMin_r q1)), .second, .val (.long (noMin_r q2)), .second, .val (.long (noMin_r q3)), .second, .val (.long (minL_r (noMin_r q0) (noMin_r q1))), .second, .val (.long (maxL_r (noMin_r q0) (noMin_r q1))), .second, .unset, .unset, .unset, .unset, .unset, .unset, .unset, .unset, .unset] [(.long (noMin_r q3)), (.long (noMin_r q2))])) rfl (by rw [hml]; rfl) (argsL := [(.long (noMin_r q2)), (.long (noMin_r q3))]) (rest := []) (lenOf pd_87 rfl) rfl (by show 2 * 0 + _ ≤ _; exact Nat.le_of_eq rfl) (hb hby at_48) (fun _ _ => ⟨rfl, e48, (by decide : 0 + 0 ≤ _), (by decide : 0 + 0 ≤ _)⟩)
  dsimp only [Pt.U, Pt.locs, Pt.cells, Pt.slots] at X52 l52 y52 z52 st52 hQ52
  subst l52 y52 z52
  obtain ⟨rfl, N53, e52⟩ := hQ52
  have N55 := Fr.app N51 N53
  refine own_go st52 ?_
  refine own_go (S' := T52.setTop (mkF m 57 #[.val (.long q0), .second, .val (.long q1), .second, .val (.long q2), .second, .val (.long q3), .second, .val (.int p4), .val (.int p5), .val (.long (noMin_r q0)), .second, .val (.long (noMin_r q1)), .second, .val (.long (noMin_r q2)), .second, .val (.long (noMin_r q3)), .second, .val (.long (minL_r (noMin_r q0) (noMin_r q1))), .second, .val (.long (maxL_r (noMin_r q0) (noMin_r q1))), .second, .val (.long (minL_r (noMin_r q2) (noMin_r q3))), .second, .unset, .unset, .unset, .unset, .unset, .unset, .unset] [(.long (noMin_r q3)), (.long (noMin_r q2))])) (fun t k => ?_) ?_
  · show Steps p.tables e below (T52.setTop (mkF m 51 #[.val (.long q0), .second, .val (.long q1), .second, .val (.long q2), .second, .val (.long q3), .second, .val (.int p4), .val (.int p5), .val (.long (noMin_r q0)), .second, .val (.long (noMin_r q1)), .second, .val (.long (noMin_r q2)), .second, .val (.long (noMin_r q3)), .second, .val (.long (minL_r (noMin_r q0) (noMin_r q1))), .second, .val (.long (maxL_r (noMin_r q0) (noMin_r q1))), .second, .unset, .unset, .unset, .unset, .unset, .unset, .unset, .unset, .unset] [(.long (minL_r (noMin_r q2) (noMin_r q3)))])) t
    refine XS.lstore X52.here hx rfl (hb hby at_51) rfl (l' := #[.val (.long q0), .second, .val (.long q1), .second, .val (.long q2), .second, .val (.long q3), .second, .val (.int p4), .val (.int p5), .val (.long (noMin_r q0)), .second, .val (.long (noMin_r q1)), .second, .val (.long (noMin_r q2)), .second, .val (.long (noMin_r q3)), .second, .val (.long (minL_r (noMin_r q0) (noMin_r q1))), .second, .val (.long (maxL_r (noMin_r q0) (noMin_r q1))), .second, .val (.long (minL_r (noMin_r q2) (noMin_r q3))), .second, .unset, .unset, .unset, .unset, .unset, .unset, .unset]) rfl ?_
    show Steps p.tables e below (T52.setTop (mkF m 53 #[.val (.long q0), .second, .val (.long q1), .second, .val (.long q2), .second, .val (.long q3), .second, .val (.int p4), .val (.int p5), .val (.long (noMin_r q0)), .second, .val (.long (noMin_r q1)), .second, .val (.long (noMin_r q2)), .second, .val (.long (noMin_r q3)), .second, .val (.long (minL_r (noMin_r q0) (noMin_r q1))), .second, .val (.long (maxL_r (noMin_r q0) (noMin_r q1))), .second, .val (.long (minL_r (noMin_r q2) (noMin_r q3))), .second, .unset, .unset, .unset, .unset, .unset, .unset, .unset] [])) t
    refine XS.lload X52.here hx rfl (hb hby at_53) rfl ?_
    show Steps p.tables e below (T52.setTop (mkF m 55 #[.val (.long q0), .second, .val (.long q1), .second, .val (.long q2), .second, .val (.long q3), .second, .val (.int p4), .val (.int p5), .val (.long (noMin_r q0)), .second, .val (.long (noMin_r q1)), .second, .val (.long (noMin_r q2)), .second, .val (.long (noMin_r q3)), .second, .val (.long (minL_r (noMin_r q0) (noMin_r q1))), .second, .val (.long (maxL_r (noMin_r q0) (noMin_r q1))), .second, .val (.long (minL_r (noMin_r q2) (noMin_r q3))), .second, .unset, .unset, .unset, .unset, .unset, .unset, .unset] [(.long (noMin_r q2))])) t
    refine XS.lload X52.here hx rfl (hb hby at_55) rfl ?_
    exact k
  obtain ⟨_, _, ⟨T56, L56, kk56, nn56⟩, -, X56, ⟨Lc56, hQ56, l56, y56, z56⟩, st56⟩ := Jvm.LawKit.callS X52 hx (y := (⟨"java/lang/Math", "max", "(JJ)J"⟩ : MethodName)) hown (mvT hZ (hw _ (List.mem_of_getElem? (i := 9) rfl))) (mvT hZ (hw _ (List.mem_of_getElem? (i := 10) rfl))) (mvT hZ (hw _ (List.mem_of_getElem? (i := 7) rfl))) (mvT hZ (hw _ (List.mem_of_getElem? (i := 11) rfl))) (by decide) (backOf (W := 0) (maxL l Z a0 hw [] (noMin_r q2) (noMin_r q3) h0 n0 Z0 ) hZ (hw _ (List.mem_of_getElem? (i := 11) rfl)) (hw _ (List.mem_of_getElem? (i := 7) rfl)) (by decide) (by decide)) (g := (mkF m 57 #[.val (.long q0), .second, .val (.long q1), .second, .val (.long q2), .second, .val (.long q3), .second, .val (.int p4), .val (.int p5), .val (.long (noMin_r q0)), .second, .val (.long (noMin_r q1)), .second, .val (.long (noMin_r q2)), .second, .val (.long (noMin_r q3)), .second, .val (.long (minL_r (noMin_r q0) (noMin_r q1))), .second, .val (.long (maxL_r (noMin_r q0) (noMin_r q1))), .second, .val (.long (minL_r (noMin_r q2) (noMin_r q3))), .second, .unset, .unset, .unset, .unset, .unset, .unset, .unset] [(.long (noMin_r q3)), (.long (noMin_r q2))])) rfl (by rw [hml]; rfl) (argsL := [(.long (noMin_r q2)), (.long (noMin_r q3))]) (rest := []) (lenOf pd_87 rfl) rfl (by show 2 * 0 + _ ≤ _; exact Nat.le_of_eq rfl) (hb hby at_57) (fun _ _ => ⟨rfl, e52, (by decide : 0 + 0 ≤ _), (by decide : 0 + 0 ≤ _)⟩)
  dsimp only [Pt.U, Pt.locs, Pt.cells, Pt.slots] at X56 l56 y56 z56 st56 hQ56
  subst l56 y56 z56
  obtain ⟨rfl, N57, e56⟩ := hQ56
  have N59 := Fr.app N55 N57
  refine own_go st56 ?_
  refine own_go (S' := T56.setTop (mkF m 62 #[.val (.long q0), .second, .val (.long q1), .second, .val (.long q2), .second, .val (.long q3), .second, .val (.int p4), .val (.int p5), .val (.long (noMin_r q0)), .second, .val (.long (noMin_r q1)), .second, .val (.long (noMin_r q2)), .second, .val (.long (noMin_r q3)), .second, .val (.long (minL_r (noMin_r q0) (noMin_r q1))), .second, .val (.long (maxL_r (noMin_r q0) (noMin_r q1))), .second, .val (.long (minL_r (noMin_r q2) (noMin_r q3))), .second, .val (.long (maxL_r (noMin_r q2) (noMin_r q3))), .second, .unset, .unset, .unset, .unset, .unset] [])) (fun t k => ?_) ?_
  · show Steps p.tables e below (T56.setTop (mkF m 60 #[.val (.long q0), .second, .val (.long q1), .second, .val (.long q2), .second, .val (.long q3), .second, .val (.int p4), .val (.int p5), .val (.long (noMin_r q0)), .second, .val (.long (noMin_r q1)), .second, .val (.long (noMin_r q2)), .second, .val (.long (noMin_r q3)), .second, .val (.long (minL_r (noMin_r q0) (noMin_r q1))), .second, .val (.long (maxL_r (noMin_r q0) (noMin_r q1))), .second, .val (.long (minL_r (noMin_r q2) (noMin_r q3))), .second, .unset, .unset, .unset, .unset, .unset, .unset, .unset] [(.long (maxL_r (noMin_r q2) (noMin_r q3)))])) t
    refine XS.lstore X56.here hx rfl (hb hby at_60) rfl (l' := #[.val (.long q0), .second, .val (.long q1), .second, .val (.long q2), .second, .val (.long q3), .second, .val (.int p4), .val (.int p5), .val (.long (noMin_r q0)), .second, .val (.long (noMin_r q1)), .second, .val (.long (noMin_r q2)), .second, .val (.long (noMin_r q3)), .second, .val (.long (minL_r (noMin_r q0) (noMin_r q1))), .second, .val (.long (maxL_r (noMin_r q0) (noMin_r q1))), .second, .val (.long (minL_r (noMin_r q2) (noMin_r q3))), .second, .val (.long (maxL_r (noMin_r q2) (noMin_r q3))), .second, .unset, .unset, .unset, .unset, .unset]) rfl ?_
    exact k
  obtain ⟨T60, h60, X60, e60, E60, A60, D60, -, st60⟩ := newO X56 hx hZ hown (hw _ (List.mem_of_getElem? (i := 12) rfl)) (hw _ (List.mem_of_getElem? (i := 13) rfl)) (hw _ (List.mem_of_getElem? (i := 14) rfl)) e56 (g := (mkF m 62 #[.val (.long q0), .second, .val (.long q1), .second, .val (.long q2), .second, .val (.long q3), .second, .val (.int p4), .val (.int p5), .val (.long (noMin_r q0)), .second, .val (.long (noMin_r q1)), .second, .val (.long (noMin_r q2)), .second, .val (.long (noMin_r q3)), .second, .val (.long (minL_r (noMin_r q0) (noMin_r q1))), .second, .val (.long (maxL_r (noMin_r q0) (noMin_r q1))), .second, .val (.long (minL_r (noMin_r q2) (noMin_r q3))), .second, .val (.long (maxL_r (noMin_r q2) (noMin_r q3))), .second, .unset, .unset, .unset, .unset, .unset] [])) rfl (hb hby at_62) (by decide) (by decide)
  obtain ⟨b60, g60⟩ : ∃ z, z = h0.size := ⟨_, rfl⟩
  rw [← g60] at A60 D60 st60
  have g_b60 : n0 ≤ b60 := Nat.le_trans Z0 (Nat.le_of_eq g60.symm)
  have Z61 : n0 ≤ h60.size := Nat.le_trans Z0 E60.1
  have f62 : Fld Z h60 b60 "com/example/sure_sequence/suresequence/RegionRange" "low" "J" (.long (0 : Int64)) := D60 (Or.inr (hw _ (List.mem_of_getElem? (i := 25) rfl))) (ty := .long) (by decide)
  have f63 : Fld Z h60 b60 "com/example/sure_sequence/suresequence/RegionRange" "high" "J" (.long (0 : Int64)) := D60 (Or.inr (hw _ (List.mem_of_getElem? (i := 27) rfl))) (ty := .long) (by decide)
  have f64 : Fld Z h60 b60 "com/example/sure_sequence/suresequence/RegionRange" "highWater" "J" (.long (0 : Int64)) := D60 (Or.inr (hw _ (List.mem_of_getElem? (i := 29) rfl))) (ty := .long) (by decide)
  refine own_go st60 ?_
  refine own_go (S' := T60.setTop (mkF m 76 #[.val (.long q0), .second, .val (.long q1), .second, .val (.long q2), .second, .val (.long q3), .second, .val (.int p4), .val (.int p5), .val (.long (noMin_r q0)), .second, .val (.long (noMin_r q1)), .second, .val (.long (noMin_r q2)), .second, .val (.long (noMin_r q3)), .second, .val (.long (minL_r (noMin_r q0) (noMin_r q1))), .second, .val (.long (maxL_r (noMin_r q0) (noMin_r q1))), .second, .val (.long (minL_r (noMin_r q2) (noMin_r q3))), .second, .val (.long (maxL_r (noMin_r q2) (noMin_r q3))), .second, .unset, .unset, .unset, .unset, .unset] [(.int p4), (.long (maxL_r (noMin_r q0) (noMin_r q1))), (.long (minL_r (noMin_r q0) (noMin_r q1))), (.long (maxL_r (noMin_r q0) (noMin_r q1))), (.long (minL_r (noMin_r q0) (noMin_r q1))), (.ref b60), (.ref b60)])) (fun t k => ?_) ?_
  · show Steps p.tables e below (T60.setTop (mkF m 65 #[.val (.long q0), .second, .val (.long q1), .second, .val (.long q2), .second, .val (.long q3), .second, .val (.int p4), .val (.int p5), .val (.long (noMin_r q0)), .second, .val (.long (noMin_r q1)), .second, .val (.long (noMin_r q2)), .second, .val (.long (noMin_r q3)), .second, .val (.long (minL_r (noMin_r q0) (noMin_r q1))), .second, .val (.long (maxL_r (noMin_r q0) (noMin_r q1))), .second, .val (.long (minL_r (noMin_r q2) (noMin_r q3))), .second, .val (.long (maxL_r (noMin_r q2) (noMin_r q3))), .second, .unset, .unset, .unset, .unset, .unset] [(.ref b60)])) t
    refine XS.dup X60.here hx rfl (hb hby at_65) rfl rfl ?_
    show Steps p.tables e below (T60.setTop (mkF m 66 #[.val (.long q0), .second, .val (.long q1), .second, .val (.long q2), .second, .val (.long q3), .second, .val (.int p4), .val (.int p5), .val (.long (noMin_r q0)), .second, .val (.long (noMin_r q1)), .second, .val (.long (noMin_r q2)), .second, .val (.long (noMin_r q3)), .second, .val (.long (minL_r (noMin_r q0) (noMin_r q1))), .second, .val (.long (maxL_r (noMin_r q0) (noMin_r q1))), .second, .val (.long (minL_r (noMin_r q2) (noMin_r q3))), .second, .val (.long (maxL_r (noMin_r q2) (noMin_r q3))), .second, .unset, .unset, .unset, .unset, .unset] [(.ref b60), (.ref b60)])) t
    refine XS.lload X60.here hx rfl (hb hby at_66) rfl ?_
    show Steps p.tables e below (T60.setTop (mkF m 68 #[.val (.long q0), .second, .val (.long q1), .second, .val (.long q2), .second, .val (.long q3), .second, .val (.int p4), .val (.int p5), .val (.long (noMin_r q0)), .second, .val (.long (noMin_r q1)), .second, .val (.long (noMin_r q2)), .second, .val (.long (noMin_r q3)), .second, .val (.long (minL_r (noMin_r q0) (noMin_r q1))), .second, .val (.long (maxL_r (noMin_r q0) (noMin_r q1))), .second, .val (.long (minL_r (noMin_r q2) (noMin_r q3))), .second, .val (.long (maxL_r (noMin_r q2) (noMin_r q3))), .second, .unset, .unset, .unset, .unset, .unset] [(.long (minL_r (noMin_r q0) (noMin_r q1))), (.ref b60), (.ref b60)])) t
    refine XS.lload X60.here hx rfl (hb hby at_68) rfl ?_
    show Steps p.tables e below (T60.setTop (mkF m 70 #[.val (.long q0), .second, .val (.long q1), .second, .val (.long q2), .second, .val (.long q3), .second, .val (.int p4), .val (.int p5), .val (.long (noMin_r q0)), .second, .val (.long (noMin_r q1)), .second, .val (.long (noMin_r q2)), .second, .val (.long (noMin_r q3)), .second, .val (.long (minL_r (noMin_r q0) (noMin_r q1))), .second, .val (.long (maxL_r (noMin_r q0) (noMin_r q1))), .second, .val (.long (minL_r (noMin_r q2) (noMin_r q3))), .second, .val (.long (maxL_r (noMin_r q2) (noMin_r q3))), .second, .unset, .unset, .unset, .unset, .unset] [(.long (maxL_r (noMin_r q0) (noMin_r q1))), (.long (minL_r (noMin_r q0) (noMin_r q1))), (.ref b60), (.ref b60)])) t
    refine XS.lload X60.here hx rfl (hb hby at_70) rfl ?_
    show Steps p.tables e below (T60.setTop (mkF m 72 #[.val (.long q0), .second, .val (.long q1), .second, .val (.long q2), .second, .val (.long q3), .second, .val (.int p4), .val (.int p5), .val (.long (noMin_r q0)), .second, .val (.long (noMin_r q1)), .second, .val (.long (noMin_r q2)), .second, .val (.long (noMin_r q3)), .second, .val (.long (minL_r (noMin_r q0) (noMin_r q1))), .second, .val (.long (maxL_r (noMin_r q0) (noMin_r q1))), .second, .val (.long (minL_r (noMin_r q2) (noMin_r q3))), .second, .val (.long (maxL_r (noMin_r q2) (noMin_r q3))), .second, .unset, .unset, .unset, .unset, .unset] [(.long (minL_r (noMin_r q0) (noMin_r q1))), (.long (maxL_r (noMin_r q0) (noMin_r q1))), (.long (minL_r (noMin_r q0) (noMin_r q1))), (.ref b60), (.ref b60)])) t
    refine XS.lload X60.here hx rfl (hb hby at_72) rfl ?_
    show Steps p.tables e below (T60.setTop (mkF m 74 #[.val (.long q0), .second, .val (.long q1), .second, .val (.long q2), .second, .val (.long q3), .second, .val (.int p4), .val (.int p5), .val (.long (noMin_r q0)), .second, .val (.long (noMin_r q1)), .second, .val (.long (noMin_r q2)), .second, .val (.long (noMin_r q3)), .second, .val (.long (minL_r (noMin_r q0) (noMin_r q1))), .second, .val (.long (maxL_r (noMin_r q0) (noMin_r q1))), .second, .val (.long (minL_r (noMin_r q2) (noMin_r q3))), .second, .val (.long (maxL_r (noMin_r q2) (noMin_r q3))), .second, .unset, .unset, .unset, .unset, .unset] [(.long (maxL_r (noMin_r q0) (noMin_r q1))), (.long (minL_r (noMin_r q0) (noMin_r q1))), (.long (maxL_r (noMin_r q0) (noMin_r q1))), (.long (minL_r (noMin_r q0) (noMin_r q1))), (.ref b60), (.ref b60)])) t
    refine XS.iload X60.here hx rfl (hb hby at_74) rfl ?_
    exact k
  obtain ⟨_, _, ⟨T65, L65, kk65, nn65⟩, -, X65, ⟨Lc65, hQ65, l65, y65, z65⟩, st65⟩ := Jvm.LawKit.callS X60 hx (y := (⟨"com/example/sure_sequence/suresequence/RegionRangeIsAbovePinLaw", "mark", "(JJI)J"⟩ : MethodName)) hown (mvT hZ (hw _ (List.mem_of_getElem? (i := 15) rfl))) (mvT hZ (hw _ (List.mem_of_getElem? (i := 16) rfl))) (mvT hZ (hw _ (List.mem_of_getElem? (i := 2) rfl))) (mvT hZ (hw _ (List.mem_of_getElem? (i := 17) rfl))) (by decide) (backOf (W := 6) (mark l Z a0 hw [] (minL_r (noMin_r q0) (noMin_r q1)) (maxL_r (noMin_r q0) (noMin_r q1)) p4 h60 n0 Z61 ) hZ (hw _ (List.mem_of_getElem? (i := 17) rfl)) (hw _ (List.mem_of_getElem? (i := 2) rfl)) (by decide) (by decide)) (g := (mkF m 76 #[.val (.long q0), .second, .val (.long q1), .second, .val (.long q2), .second, .val (.long q3), .second, .val (.int p4), .val (.int p5), .val (.long (noMin_r q0)), .second, .val (.long (noMin_r q1)), .second, .val (.long (noMin_r q2)), .second, .val (.long (noMin_r q3)), .second, .val (.long (minL_r (noMin_r q0) (noMin_r q1))), .second, .val (.long (maxL_r (noMin_r q0) (noMin_r q1))), .second, .val (.long (minL_r (noMin_r q2) (noMin_r q3))), .second, .val (.long (maxL_r (noMin_r q2) (noMin_r q3))), .second, .unset, .unset, .unset, .unset, .unset] [(.int p4), (.long (maxL_r (noMin_r q0) (noMin_r q1))), (.long (minL_r (noMin_r q0) (noMin_r q1))), (.long (maxL_r (noMin_r q0) (noMin_r q1))), (.long (minL_r (noMin_r q0) (noMin_r q1))), (.ref b60), (.ref b60)])) rfl (by rw [hml]; rfl) (argsL := [(.long (minL_r (noMin_r q0) (noMin_r q1))), (.long (maxL_r (noMin_r q0) (noMin_r q1))), (.int p4)]) (rest := [(.long (maxL_r (noMin_r q0) (noMin_r q1))), (.long (minL_r (noMin_r q0) (noMin_r q1))), (.ref b60), (.ref b60)]) (lenOf pd_88 rfl) rfl (by show 2 * 0 + _ ≤ _; exact Nat.le_of_eq rfl) (hb hby at_76) (fun _ _ => ⟨rfl, e60, (by decide : 1 + 0 ≤ _), (by decide : 3 + 0 ≤ _)⟩)
  dsimp only [Pt.U, Pt.locs, Pt.cells, Pt.slots] at X65 l65 y65 z65 st65 hQ65
  subst l65 y65 z65
  obtain ⟨rfl, N66, e65⟩ := hQ65
  have N68 := Fr.app N59 N66
  refine own_go st65 ?_
  obtain ⟨_, _, ⟨T69, L69, kk69, nn69⟩, -, X69, ⟨Lc69, hQ69, l69, y69, z69⟩, st69⟩ := X65.specialBack hx (y := (⟨"com/example/sure_sequence/suresequence/RegionRange", "<init>", "(JJJ)V"⟩ : MethodName)) rfl hown (mvT hZ (hw _ (List.mem_of_getElem? (i := 18) rfl))) (mvT hZ (hw _ (List.mem_of_getElem? (i := 19) rfl))) (mvT hZ (hw _ (List.mem_of_getElem? (i := 20) rfl))) (by decide) (backOf (W := 1) (ini l Z a0 hw [] b60 (minL_r (noMin_r q0) (noMin_r q1)) (maxL_r (noMin_r q0) (noMin_r q1)) (mark_r (minL_r (noMin_r q0) (noMin_r q1)) (maxL_r (noMin_r q0) (noMin_r q1)) p4) (0 : Int64) (0 : Int64) (0 : Int64) h60 n0 Z61 (own_mm _ _ : ¬ ((maxL_r (noMin_r q0) (noMin_r q1)) < (minL_r (noMin_r q0) (noMin_r q1)))) ((own_mark _ _ _ (own_mm _ _) (own_min (own_noMin _) (own_noMin _))).1 : ¬ ((mark_r (minL_r (noMin_r q0) (noMin_r q1)) (maxL_r (noMin_r q0) (noMin_r q1)) p4) < ((minL_r (noMin_r q0) (noMin_r q1)) - (1 : Int64)))) ((own_mark _ _ _ (own_mm _ _) (own_min (own_noMin _) (own_noMin _))).2 : ¬ ((maxL_r (noMin_r q0) (noMin_r q1)) < (mark_r (minL_r (noMin_r q0) (noMin_r q1)) (maxL_r (noMin_r q0) (noMin_r q1)) p4))) A60 f62 f63 f64 g_b60) hZ (hw _ (List.mem_of_getElem? (i := 20) rfl)) (hw _ (List.mem_of_getElem? (i := 14) rfl)) (by decide) (by decide)) (g := (mkF m 79 #[.val (.long q0), .second, .val (.long q1), .second, .val (.long q2), .second, .val (.long q3), .second, .val (.int p4), .val (.int p5), .val (.long (noMin_r q0)), .second, .val (.long (noMin_r q1)), .second, .val (.long (noMin_r q2)), .second, .val (.long (noMin_r q3)), .second, .val (.long (minL_r (noMin_r q0) (noMin_r q1))), .second, .val (.long (maxL_r (noMin_r q0) (noMin_r q1))), .second, .val (.long (minL_r (noMin_r q2) (noMin_r q3))), .second, .val (.long (maxL_r (noMin_r q2) (noMin_r q3))), .second, .unset, .unset, .unset, .unset, .unset] [(.long (mark_r (minL_r (noMin_r q0) (noMin_r q1)) (maxL_r (noMin_r q0) (noMin_r q1)) p4)), (.long (maxL_r (noMin_r q0) (noMin_r q1))), (.long (minL_r (noMin_r q0) (noMin_r q1))), (.ref b60), (.ref b60)])) rfl (by rw [hml]; rfl) (Steps.refl _) (a := b60) (argsL := [(.long (minL_r (noMin_r q0) (noMin_r q1))), (.long (maxL_r (noMin_r q0) (noMin_r q1))), (.long (mark_r (minL_r (noMin_r q0) (noMin_r q1)) (maxL_r (noMin_r q0) (noMin_r q1)) p4))]) (rest := [(.ref b60)]) (lenOf pd_89 rfl) rfl (by show 2 * 0 + _ ≤ _; exact Nat.le_of_eq rfl) (hb hby at_79) (fun _ _ => ⟨rfl, e65, (by decide : 1 + 0 ≤ _), (by decide : 3 + 0 ≤ _)⟩)
  dsimp only [Pt.U, Pt.locs, Pt.cells, Pt.slots] at X69 l69 y69 z69 st69 hQ69
  subst l69 y69 z69
  obtain ⟨rfl, N70, K71, p72, p73, p74, p75⟩ := hQ69
  have N76 := Fr.app N68 N70
  have f77 : Exa Z T69.heap b60 "com/example/sure_sequence/suresequence/RegionRange" := A60.keep K71
  have Z78 : n0 ≤ T69.heap.size := Nat.le_trans Z61 K71.1
  refine own_goT st69 ?_
  refine own_go (S' := T69.setTop (mkF m 84 #[.val (.long q0), .second, .val (.long q1), .second, .val (.long q2), .second, .val (.long q3), .second, .val (.int p4), .val (.int p5), .val (.long (noMin_r q0)), .second, .val (.long (noMin_r q1)), .second, .val (.long (noMin_r q2)), .second, .val (.long (noMin_r q3)), .second, .val (.long (minL_r (noMin_r q0) (noMin_r q1))), .second, .val (.long (maxL_r (noMin_r q0) (noMin_r q1))), .second, .val (.long (minL_r (noMin_r q2) (noMin_r q3))), .second, .val (.long (maxL_r (noMin_r q2) (noMin_r q3))), .second, .val (.ref b60), .unset, .unset, .unset, .unset] [])) (fun t k => ?_) ?_
  · show Steps p.tables e below (T69.setTop (mkF m 82 #[.val (.long q0), .second, .val (.long q1), .second, .val (.long q2), .second, .val (.long q3), .second, .val (.int p4), .val (.int p5), .val (.long (noMin_r q0)), .second, .val (.long (noMin_r q1)), .second, .val (.long (noMin_r q2)), .second, .val (.long (noMin_r q3)), .second, .val (.long (minL_r (noMin_r q0) (noMin_r q1))), .second, .val (.long (maxL_r (noMin_r q0) (noMin_r q1))), .second, .val (.long (minL_r (noMin_r q2) (noMin_r q3))), .second, .val (.long (maxL_r (noMin_r q2) (noMin_r q3))), .second, .unset, .unset, .unset, .unset, .unset] [(.ref b60)])) t
    refine XS.astore X69.here hx rfl (hb hby at_82) rfl rfl (l' := #[.val (.long q0), .second, .val (.long q1), .second, .val (.long q2), .second, .val (.long q3), .second, .val (.int p4), .val (.int p5), .val (.long (noMin_r q0)), .second, .val (.long (noMin_r q1)), .second, .val (.long (noMin_r q2)), .second, .val (.long (noMin_r q3)), .second, .val (.long (minL_r (noMin_r q0) (noMin_r q1))), .second, .val (.long (maxL_r (noMin_r q0) (noMin_r q1))), .second, .val (.long (minL_r (noMin_r q2) (noMin_r q3))), .second, .val (.long (maxL_r (noMin_r q2) (noMin_r q3))), .second, .val (.ref b60), .unset, .unset, .unset, .unset]) rfl ?_
    exact k
  obtain ⟨T79, h79, X79, e79, E79, A79, D79, -, st79⟩ := newO X69 hx hZ hown (hw _ (List.mem_of_getElem? (i := 12) rfl)) (hw _ (List.mem_of_getElem? (i := 13) rfl)) (hw _ (List.mem_of_getElem? (i := 14) rfl)) rfl (g := (mkF m 84 #[.val (.long q0), .second, .val (.long q1), .second, .val (.long q2), .second, .val (.long q3), .second, .val (.int p4), .val (.int p5), .val (.long (noMin_r q0)), .second, .val (.long (noMin_r q1)), .second, .val (.long (noMin_r q2)), .second, .val (.long (noMin_r q3)), .second, .val (.long (minL_r (noMin_r q0) (noMin_r q1))), .second, .val (.long (maxL_r (noMin_r q0) (noMin_r q1))), .second, .val (.long (minL_r (noMin_r q2) (noMin_r q3))), .second, .val (.long (maxL_r (noMin_r q2) (noMin_r q3))), .second, .val (.ref b60), .unset, .unset, .unset, .unset] [])) rfl (hb hby at_84) (by decide) (by decide)
  obtain ⟨b79, g79⟩ : ∃ z, z = T69.heap.size := ⟨_, rfl⟩
  rw [← g79] at A79 D79 st79
  have ne80 : b60 ≠ b79 := Nat.ne_of_lt (Nat.lt_of_lt_of_le p72.lt (Nat.le_of_eq g79.symm))
  have g_b79 : n0 ≤ b79 := Nat.le_trans Z78 (Nat.le_of_eq g79.symm)
  have Z81 : n0 ≤ h79.size := Nat.le_trans Z78 E79.1
  have f82 : Exa Z h79 b60 "com/example/sure_sequence/suresequence/RegionRange" := Exa.ext E79 p72
  have f83 : Fld Z h79 b60 "com/example/sure_sequence/suresequence/RegionRange" "low" "J" (.long (minL_r (noMin_r q0) (noMin_r q1))) := Fld.ext E79 p73
  have f84 : Fld Z h79 b60 "com/example/sure_sequence/suresequence/RegionRange" "high" "J" (.long (maxL_r (noMin_r q0) (noMin_r q1))) := Fld.ext E79 p74
  have f85 : Fld Z h79 b60 "com/example/sure_sequence/suresequence/RegionRange" "highWater" "J" (.long (mark_r (minL_r (noMin_r q0) (noMin_r q1)) (maxL_r (noMin_r q0) (noMin_r q1)) p4)) := Fld.ext E79 p75
  have f86 : Fld Z h79 b79 "com/example/sure_sequence/suresequence/RegionRange" "low" "J" (.long (0 : Int64)) := D79 (Or.inr (hw _ (List.mem_of_getElem? (i := 25) rfl))) (ty := .long) (by decide)
  have f87 : Fld Z h79 b79 "com/example/sure_sequence/suresequence/RegionRange" "high" "J" (.long (0 : Int64)) := D79 (Or.inr (hw _ (List.mem_of_getElem? (i := 27) rfl))) (ty := .long) (by decide)
  have f88 : Fld Z h79 b79 "com/example/sure_sequence/suresequence/RegionRange" "highWater" "J" (.long (0 : Int64)) := D79 (Or.inr (hw _ (List.mem_of_getElem? (i := 29) rfl))) (ty := .long) (by decide)
  refine own_go st79 ?_
  refine own_go (S' := T79.setTop (mkF m 98 #[.val (.long q0), .second, .val (.long q1), .second, .val (.long q2), .second, .val (.long q3), .second, .val (.int p4), .val (.int p5), .val (.long (noMin_r q0)), .second, .val (.long (noMin_r q1)), .second, .val (.long (noMin_r q2)), .second, .val (.long (noMin_r q3)), .second, .val (.long (minL_r (noMin_r q0) (noMin_r q1))), .second, .val (.long (maxL_r (noMin_r q0) (noMin_r q1))), .second, .val (.long (minL_r (noMin_r q2) (noMin_r q3))), .second, .val (.long (maxL_r (noMin_r q2) (noMin_r q3))), .second, .val (.ref b60), .unset, .unset, .unset, .unset] [(.int p5), (.long (maxL_r (noMin_r q2) (noMin_r q3))), (.long (minL_r (noMin_r q2) (noMin_r q3))), (.long (maxL_r (noMin_r q2) (noMin_r q3))), (.long (minL_r (noMin_r q2) (noMin_r q3))), (.ref b79), (.ref b79)])) (fun t k => ?_) ?_
  · show Steps p.tables e below (T79.setTop (mkF m 87 #[.val (.long q0), .second, .val (.long q1), .second, .val (.long q2), .second, .val (.long q3), .second, .val (.int p4), .val (.int p5), .val (.long (noMin_r q0)), .second, .val (.long (noMin_r q1)), .second, .val (.long (noMin_r q2)), .second, .val (.long (noMin_r q3)), .second, .val (.long (minL_r (noMin_r q0) (noMin_r q1))), .second, .val (.long (maxL_r (noMin_r q0) (noMin_r q1))), .second, .val (.long (minL_r (noMin_r q2) (noMin_r q3))), .second, .val (.long (maxL_r (noMin_r q2) (noMin_r q3))), .second, .val (.ref b60), .unset, .unset, .unset, .unset] [(.ref b79)])) t
    refine XS.dup X79.here hx rfl (hb hby at_87) rfl rfl ?_
    show Steps p.tables e below (T79.setTop (mkF m 88 #[.val (.long q0), .second, .val (.long q1), .second, .val (.long q2), .second, .val (.long q3), .second, .val (.int p4), .val (.int p5), .val (.long (noMin_r q0)), .second, .val (.long (noMin_r q1)), .second, .val (.long (noMin_r q2)), .second, .val (.long (noMin_r q3)), .second, .val (.long (minL_r (noMin_r q0) (noMin_r q1))), .second, .val (.long (maxL_r (noMin_r q0) (noMin_r q1))), .second, .val (.long (minL_r (noMin_r q2) (noMin_r q3))), .second, .val (.long (maxL_r (noMin_r q2) (noMin_r q3))), .second, .val (.ref b60), .unset, .unset, .unset, .unset] [(.ref b79), (.ref b79)])) t
    refine XS.lload X79.here hx rfl (hb hby at_88) rfl ?_
    show Steps p.tables e below (T79.setTop (mkF m 90 #[.val (.long q0), .second, .val (.long q1), .second, .val (.long q2), .second, .val (.long q3), .second, .val (.int p4), .val (.int p5), .val (.long (noMin_r q0)), .second, .val (.long (noMin_r q1)), .second, .val (.long (noMin_r q2)), .second, .val (.long (noMin_r q3)), .second, .val (.long (minL_r (noMin_r q0) (noMin_r q1))), .second, .val (.long (maxL_r (noMin_r q0) (noMin_r q1))), .second, .val (.long (minL_r (noMin_r q2) (noMin_r q3))), .second, .val (.long (maxL_r (noMin_r q2) (noMin_r q3))), .second, .val (.ref b60), .unset, .unset, .unset, .unset] [(.long (minL_r (noMin_r q2) (noMin_r q3))), (.ref b79), (.ref b79)])) t
    refine XS.lload X79.here hx rfl (hb hby at_90) rfl ?_
    show Steps p.tables e below (T79.setTop (mkF m 92 #[.val (.long q0), .second, .val (.long q1), .second, .val (.long q2), .second, .val (.long q3), .second, .val (.int p4), .val (.int p5), .val (.long (noMin_r q0)), .second, .val (.long (noMin_r q1)), .second, .val (.long (noMin_r q2)), .second, .val (.long (noMin_r q3)), .second, .val (.long (minL_r (noMin_r q0) (noMin_r q1))), .second, .val (.long (maxL_r (noMin_r q0) (noMin_r q1))), .second, .val (.long (minL_r (noMin_r q2) (noMin_r q3))), .second, .val (.long (maxL_r (noMin_r q2) (noMin_r q3))), .second, .val (.ref b60), .unset, .unset, .unset, .unset] [(.long (maxL_r (noMin_r q2) (noMin_r q3))), (.long (minL_r (noMin_r q2) (noMin_r q3))), (.ref b79), (.ref b79)])) t
    refine XS.lload X79.here hx rfl (hb hby at_92) rfl ?_
    show Steps p.tables e below (T79.setTop (mkF m 94 #[.val (.long q0), .second, .val (.long q1), .second, .val (.long q2), .second, .val (.long q3), .second, .val (.int p4), .val (.int p5), .val (.long (noMin_r q0)), .second, .val (.long (noMin_r q1)), .second, .val (.long (noMin_r q2)), .second, .val (.long (noMin_r q3)), .second, .val (.long (minL_r (noMin_r q0) (noMin_r q1))), .second, .val (.long (maxL_r (noMin_r q0) (noMin_r q1))), .second, .val (.long (minL_r (noMin_r q2) (noMin_r q3))), .second, .val (.long (maxL_r (noMin_r q2) (noMin_r q3))), .second, .val (.ref b60), .unset, .unset, .unset, .unset] [(.long (minL_r (noMin_r q2) (noMin_r q3))), (.long (maxL_r (noMin_r q2) (noMin_r q3))), (.long (minL_r (noMin_r q2) (noMin_r q3))), (.ref b79), (.ref b79)])) t
    refine XS.lload X79.here hx rfl (hb hby at_94) rfl ?_
    show Steps p.tables e below (T79.setTop (mkF m 96 #[.val (.long q0), .second, .val (.long q1), .second, .val (.long q2), .second, .val (.long q3), .second, .val (.int p4), .val (.int p5), .val (.long (noMin_r q0)), .second, .val (.long (noMin_r q1)), .second, .val (.long (noMin_r q2)), .second, .val (.long (noMin_r q3)), .second, .val (.long (minL_r (noMin_r q0) (noMin_r q1))), .second, .val (.long (maxL_r (noMin_r q0) (noMin_r q1))), .second, .val (.long (minL_r (noMin_r q2) (noMin_r q3))), .second, .val (.long (maxL_r (noMin_r q2) (noMin_r q3))), .second, .val (.ref b60), .unset, .unset, .unset, .unset] [(.long (maxL_r (noMin_r q2) (noMin_r q3))), (.long (minL_r (noMin_r q2) (noMin_r q3))), (.long (maxL_r (noMin_r q2) (noMin_r q3))), (.long (minL_r (noMin_r q2) (noMin_r q3))), (.ref b79), (.ref b79)])) t
    refine XS.iload X79.here hx rfl (hb hby at_96) rfl ?_
    exact k
  obtain ⟨_, _, ⟨T89, L89, kk89, nn89⟩, -, X89, ⟨Lc89, hQ89, l89, y89, z89⟩, st89⟩ := Jvm.LawKit.callS X79 hx (y := (⟨"com/example/sure_sequence/suresequence/RegionRangeIsAbovePinLaw", "mark", "(JJI)J"⟩ : MethodName)) hown (mvT hZ (hw _ (List.mem_of_getElem? (i := 15) rfl))) (mvT hZ (hw _ (List.mem_of_getElem? (i := 16) rfl))) (mvT hZ (hw _ (List.mem_of_getElem? (i := 2) rfl))) (mvT hZ (hw _ (List.mem_of_getElem? (i := 17) rfl))) (by decide) (backOf (W := 6) (mark l Z a0 hw [] (minL_r (noMin_r q2) (noMin_r q3)) (maxL_r (noMin_r q2) (noMin_r q3)) p5 h79 n0 Z81 ) hZ (hw _ (List.mem_of_getElem? (i := 17) rfl)) (hw _ (List.mem_of_getElem? (i := 2) rfl)) (by decide) (by decide)) (g := (mkF m 98 #[.val (.long q0), .second, .val (.long q1), .second, .val (.long q2), .second, .val (.long q3), .second, .val (.int p4), .val (.int p5), .val (.long (noMin_r q0)), .second, .val (.long (noMin_r q1)), .second, .val (.long (noMin_r q2)), .second, .val (.long (noMin_r q3)), .second, .val (.long (minL_r (noMin_r q0) (noMin_r q1))), .second, .val (.long (maxL_r (noMin_r q0) (noMin_r q1))), .second, .val (.long (minL_r (noMin_r q2) (noMin_r q3))), .second, .val (.long (maxL_r (noMin_r q2) (noMin_r q3))), .second, .val (.ref b60), .unset, .unset, .unset, .unset] [(.int p5), (.long (maxL_r (noMin_r q2) (noMin_r q3))), (.long (minL_r (noMin_r q2) (noMin_r q3))), (.long (maxL_r (noMin_r q2) (noMin_r q3))), (.long (minL_r (noMin_r q2) (noMin_r q3))), (.ref b79), (.ref b79)])) rfl (by rw [hml]; rfl) (argsL := [(.long (minL_r (noMin_r q2) (noMin_r q3))), (.long (maxL_r (noMin_r q2) (noMin_r q3))), (.int p5)]) (rest := [(.long (maxL_r (noMin_r q2) (noMin_r q3))), (.long (minL_r (noMin_r q2) (noMin_r q3))), (.ref b79), (.ref b79)]) (lenOf pd_88 rfl) rfl (by show 2 * 0 + _ ≤ _; exact Nat.le_of_eq rfl) (hb hby at_98) (fun _ _ => ⟨rfl, e79, (by decide : 2 + 0 ≤ _), (by decide : 6 + 0 ≤ _)⟩)
  dsimp only [Pt.U, Pt.locs, Pt.cells, Pt.slots] at X89 l89 y89 z89 st89 hQ89
  subst l89 y89 z89
  obtain ⟨rfl, N90, e89⟩ := hQ89
  have N92 := Fr.app N76 N90
  refine own_go st89 ?_
  obtain ⟨_, _, ⟨T93, L93, kk93, nn93⟩, -, X93, ⟨Lc93, hQ93, l93, y93, z93⟩, st93⟩ := X89.specialBack hx (y := (⟨"com/example/sure_sequence/suresequence/RegionRange", "<init>", "(JJJ)V"⟩ : MethodName)) rfl hown (mvT hZ (hw _ (List.mem_of_getElem? (i := 18) rfl))) (mvT hZ (hw _ (List.mem_of_getElem? (i := 19) rfl))) (mvT hZ (hw _ (List.mem_of_getElem? (i := 20) rfl))) (by decide) (backOf (W := 1) (ini l Z a0 hw [] b79 (minL_r (noMin_r q2) (noMin_r q3)) (maxL_r (noMin_r q2) (noMin_r q3)) (mark_r (minL_r (noMin_r q2) (noMin_r q3)) (maxL_r (noMin_r q2) (noMin_r q3)) p5) (0 : Int64) (0 : Int64) (0 : Int64) h79 n0 Z81 (own_mm _ _ : ¬ ((maxL_r (noMin_r q2) (noMin_r q3)) < (minL_r (noMin_r q2) (noMin_r q3)))) ((own_mark _ _ _ (own_mm _ _) (own_min (own_noMin _) (own_noMin _))).1 : ¬ ((mark_r (minL_r (noMin_r q2) (noMin_r q3)) (maxL_r (noMin_r q2) (noMin_r q3)) p5) < ((minL_r (noMin_r q2) (noMin_r q3)) - (1 : Int64)))) ((own_mark _ _ _ (own_mm _ _) (own_min (own_noMin _) (own_noMin _))).2 : ¬ ((maxL_r (noMin_r q2) (noMin_r q3)) < (mark_r (minL_r (noMin_r q2) (noMin_r q3)) (maxL_r (noMin_r q2) (noMin_r q3)) p5))) A79 f86 f87 f88 g_b79) hZ (hw _ (List.mem_of_getElem? (i := 20) rfl)) (hw _ (List.mem_of_getElem? (i := 14) rfl)) (by decide) (by decide)) (g := (mkF m 101 #[.val (.long q0), .second, .val (.long q1), .second, .val (.long q2), .second, .val (.long q3), .second, .val (.int p4), .val (.int p5), .val (.long (noMin_r q0)), .second, .val (.long (noMin_r q1)), .second, .val (.long (noMin_r q2)), .second, .val (.long (noMin_r q3)), .second, .val (.long (minL_r (noMin_r q0) (noMin_r q1))), .second, .val (.long (maxL_r (noMin_r q0) (noMin_r q1))), .second, .val (.long (minL_r (noMin_r q2) (noMin_r q3))), .second, .val (.long (maxL_r (noMin_r q2) (noMin_r q3))), .second, .val (.ref b60), .unset, .unset, .unset, .unset] [(.long (mark_r (minL_r (noMin_r q2) (noMin_r q3)) (maxL_r (noMin_r q2) (noMin_r q3)) p5)), (.long (maxL_r (noMin_r q2) (noMin_r q3))), (.long (minL_r (noMin_r q2) (noMin_r q3))), (.ref b79), (.ref b79)])) rfl (by rw [hml]; rfl) (Steps.refl _) (a := b79) (argsL := [(.long (minL_r (noMin_r q2) (noMin_r q3))), (.long (maxL_r (noMin_r q2) (noMin_r q3))), (.long (mark_r (minL_r (noMin_r q2) (noMin_r q3)) (maxL_r (noMin_r q2) (noMin_r q3)) p5))]) (rest := [(.ref b79)]) (lenOf pd_89 rfl) rfl (by show 2 * 0 + _ ≤ _; exact Nat.le_of_eq rfl) (hb hby at_101) (fun _ _ => ⟨rfl, e89, (by decide : 2 + 0 ≤ _), (by decide : 6 + 0 ≤ _)⟩)
  dsimp only [Pt.U, Pt.locs, Pt.cells, Pt.slots] at X93 l93 y93 z93 st93 hQ93
  subst l93 y93 z93
  obtain ⟨rfl, N94, K95, p96, p97, p98, p99⟩ := hQ93
  have N100 := Fr.app N92 N94
  have f101 : Exa Z T93.heap b60 "com/example/sure_sequence/suresequence/RegionRange" := f82.keep K95
  have f102 : Fld Z T93.heap b60 "com/example/sure_sequence/suresequence/RegionRange" "low" "J" (.long (minL_r (noMin_r q0) (noMin_r q1))) := f83.keep K95 (ninS ne80 nin0)
  have f103 : Fld Z T93.heap b60 "com/example/sure_sequence/suresequence/RegionRange" "high" "J" (.long (maxL_r (noMin_r q0) (noMin_r q1))) := f84.keep K95 (ninS ne80 nin0)
  have f104 : Fld Z T93.heap b60 "com/example/sure_sequence/suresequence/RegionRange" "highWater" "J" (.long (mark_r (minL_r (noMin_r q0) (noMin_r q1)) (maxL_r (noMin_r q0) (noMin_r q1)) p4)) := f85.keep K95 (ninS ne80 nin0)
  have f105 : Exa Z T93.heap b79 "com/example/sure_sequence/suresequence/RegionRange" := A79.keep K95
  have Z106 : n0 ≤ T93.heap.size := Nat.le_trans Z81 K95.1
  refine own_goT st93 ?_
  refine own_go (S' := T93.setTop (mkF m 111 #[.val (.long q0), .second, .val (.long q1), .second, .val (.long q2), .second, .val (.long q3), .second, .val (.int p4), .val (.int p5), .val (.long (noMin_r q0)), .second, .val (.long (noMin_r q1)), .second, .val (.long (noMin_r q2)), .second, .val (.long (noMin_r q3)), .second, .val (.long (minL_r (noMin_r q0) (noMin_r q1))), .second, .val (.long (maxL_r (noMin_r q0) (noMin_r q1))), .second, .val (.long (minL_r (noMin_r q2) (noMin_r q3))), .second, .val (.long (maxL_r (noMin_r q2) (noMin_r q3))), .second, .val (.ref b60), .val (.ref b79), .unset, .unset, .unset] [(.int (Jvm.Free.XT.cmpL (minL_r (noMin_r q0) (noMin_r q1)) (maxL_r (noMin_r q2) (noMin_r q3))))])) (fun t k => ?_) ?_
  · show Steps p.tables e below (T93.setTop (mkF m 104 #[.val (.long q0), .second, .val (.long q1), .second, .val (.long q2), .second, .val (.long q3), .second, .val (.int p4), .val (.int p5), .val (.long (noMin_r q0)), .second, .val (.long (noMin_r q1)), .second, .val (.long (noMin_r q2)), .second, .val (.long (noMin_r q3)), .second, .val (.long (minL_r (noMin_r q0) (noMin_r q1))), .second, .val (.long (maxL_r (noMin_r q0) (noMin_r q1))), .second, .val (.long (minL_r (noMin_r q2) (noMin_r q3))), .second, .val (.long (maxL_r (noMin_r q2) (noMin_r q3))), .second, .val (.ref b60), .unset, .unset, .unset, .unset] [(.ref b79)])) t
    refine XS.astore X93.here hx rfl (hb hby at_104) rfl rfl (l' := #[.val (.long q0), .second, .val (.long q1), .second, .val (.long q2), .second, .val (.long q3), .second, .val (.int p4), .val (.int p5), .val (.long (noMin_r q0)), .second, .val (.long (noMin_r q1)), .second, .val (.long (noMin_r q2)), .second, .val (.long (noMin_r q3)), .second, .val (.long (minL_r (noMin_r q0) (noMin_r q1))), .second, .val (.long (maxL_r (noMin_r q0) (noMin_r q1))), .second, .val (.long (minL_r (noMin_r q2) (noMin_r q3))), .second, .val (.long (maxL_r (noMin_r q2) (noMin_r q3))), .second, .val (.ref b60), .val (.ref b79), .unset, .unset, .unset]) rfl ?_
    show Steps p.tables e below (T93.setTop (mkF m 106 #[.val (.long q0), .second, .val (.long q1), .second, .val (.long q2), .second, .val (.long q3), .second, .val (.int p4), .val (.int p5), .val (.long (noMin_r q0)), .second, .val (.long (noMin_r q1)), .second, .val (.long (noMin_r q2)), .second, .val (.long (noMin_r q3)), .second, .val (.long (minL_r (noMin_r q0) (noMin_r q1))), .second, .val (.long (maxL_r (noMin_r q0) (noMin_r q1))), .second, .val (.long (minL_r (noMin_r q2) (noMin_r q3))), .second, .val (.long (maxL_r (noMin_r q2) (noMin_r q3))), .second, .val (.ref b60), .val (.ref b79), .unset, .unset, .unset] [])) t
    refine XS.lload X93.here hx rfl (hb hby at_106) rfl ?_
    show Steps p.tables e below (T93.setTop (mkF m 108 #[.val (.long q0), .second, .val (.long q1), .second, .val (.long q2), .second, .val (.long q3), .second, .val (.int p4), .val (.int p5), .val (.long (noMin_r q0)), .second, .val (.long (noMin_r q1)), .second, .val (.long (noMin_r q2)), .second, .val (.long (noMin_r q3)), .second, .val (.long (minL_r (noMin_r q0) (noMin_r q1))), .second, .val (.long (maxL_r (noMin_r q0) (noMin_r q1))), .second, .val (.long (minL_r (noMin_r q2) (noMin_r q3))), .second, .val (.long (maxL_r (noMin_r q2) (noMin_r q3))), .second, .val (.ref b60), .val (.ref b79), .unset, .unset, .unset] [(.long (minL_r (noMin_r q0) (noMin_r q1)))])) t
    refine XS.lload X93.here hx rfl (hb hby at_108) rfl ?_
    show Steps p.tables e below (T93.setTop (mkF m 110 #[.val (.long q0), .second, .val (.long q1), .second, .val (.long q2), .second, .val (.long q3), .second, .val (.int p4), .val (.int p5), .val (.long (noMin_r q0)), .second, .val (.long (noMin_r q1)), .second, .val (.long (noMin_r q2)), .second, .val (.long (noMin_r q3)), .second, .val (.long (minL_r (noMin_r q0) (noMin_r q1))), .second, .val (.long (maxL_r (noMin_r q0) (noMin_r q1))), .second, .val (.long (minL_r (noMin_r q2) (noMin_r q3))), .second, .val (.long (maxL_r (noMin_r q2) (noMin_r q3))), .second, .val (.ref b60), .val (.ref b79), .unset, .unset, .unset] [(.long (maxL_r (noMin_r q2) (noMin_r q3))), (.long (minL_r (noMin_r q0) (noMin_r q1)))])) t
    refine XS.lcmp X93.here hx rfl (hb hby at_110) rfl ?_
    exact k
  refine own_go (S' := T93.setTop (mkF m 127 #[.val (.long q0), .second, .val (.long q1), .second, .val (.long q2), .second, .val (.long q3), .second, .val (.int p4), .val (.int p5), .val (.long (noMin_r q0)), .second, .val (.long (noMin_r q1)), .second, .val (.long (noMin_r q2)), .second, .val (.long (noMin_r q3)), .second, .val (.long (minL_r (noMin_r q0) (noMin_r q1))), .second, .val (.long (maxL_r (noMin_r q0) (noMin_r q1))), .second, .val (.long (minL_r (noMin_r q2) (noMin_r q3))), .second, .val (.long (maxL_r (noMin_r q2) (noMin_r q3))), .second, .val (.ref b60), .val (.ref b79), .unset, .unset, .unset] [(.int (if (maxL_r (noMin_r q2) (noMin_r q3)) < (minL_r (noMin_r q0) (noMin_r q1)) then (0 : Int32) else (if (maxL_r (noMin_r q0) (noMin_r q1)) < (minL_r (noMin_r q2) (noMin_r q3)) then (0 : Int32) else (1 : Int32))))])) (fun t k => ?_) ?_
  · show Steps p.tables e below (T93.setTop (mkF m 111 #[.val (.long q0), .second, .val (.long q1), .second, .val (.long q2), .second, .val (.long q3), .second, .val (.int p4), .val (.int p5), .val (.long (noMin_r q0)), .second, .val (.long (noMin_r q1)), .second, .val (.long (noMin_r q2)), .second, .val (.long (noMin_r q3)), .second, .val (.long (minL_r (noMin_r q0) (noMin_r q1))), .second, .val (.long (maxL_r (noMin_r q0) (noMin_r q1))), .second, .val (.long (minL_r (noMin_r q2) (noMin_r q3))), .second, .val (.long (maxL_r (noMin_r q2) (noMin_r q3))), .second, .val (.ref b60), .val (.ref b79), .unset, .unset, .unset] [(.int (Jvm.Free.XT.cmpL (minL_r (noMin_r q0) (noMin_r q1)) (maxL_r (noMin_r q2) (noMin_r q3))))])) t
    by_cases hc111 : (maxL_r (noMin_r q2) (noMin_r q3)) < (minL_r (noMin_r q0) (noMin_r q1))
    · show Steps p.tables e below (T93.setTop (mkF m 111 #[.val (.long q0), .second, .val (.long q1), .second, .val (.long q2), .second, .val (.long q3), .second, .val (.int p4), .val (.int p5), .val (.long (noMin_r q0)), .second, .val (.long (noMin_r q1)), .second, .val (.long (noMin_r q2)), .second, .val (.long (noMin_r q3)), .second, .val (.long (minL_r (noMin_r q0) (noMin_r q1))), .second, .val (.long (maxL_r (noMin_r q0) (noMin_r q1))), .second, .val (.long (minL_r (noMin_r q2) (noMin_r q3))), .second, .val (.long (maxL_r (noMin_r q2) (noMin_r q3))), .second, .val (.ref b60), .val (.ref b79), .unset, .unset, .unset] [(.int (Jvm.Free.XT.cmpL (minL_r (noMin_r q0) (noMin_r q1)) (maxL_r (noMin_r q2) (noMin_r q3))))])) t
      refine XS.ifYes X93.here hx rfl (pc0 := 111) (pc' := 126) rfl (hb hby at_111) rfl (Jvm.Free.XT.ll_gt_t hc111) (by decide) (by decide) ?_
      show Steps p.tables e below (T93.setTop (mkF m 126 #[.val (.long q0), .second, .val (.long q1), .second, .val (.long q2), .second, .val (.long q3), .second, .val (.int p4), .val (.int p5), .val (.long (noMin_r q0)), .second, .val (.long (noMin_r q1)), .second, .val (.long (noMin_r q2)), .second, .val (.long (noMin_r q3)), .second, .val (.long (minL_r (noMin_r q0) (noMin_r q1))), .second, .val (.long (maxL_r (noMin_r q0) (noMin_r q1))), .second, .val (.long (minL_r (noMin_r q2) (noMin_r q3))), .second, .val (.long (maxL_r (noMin_r q2) (noMin_r q3))), .second, .val (.ref b60), .val (.ref b79), .unset, .unset, .unset] [])) t
      refine XS.iconst X93.here hx rfl (hb hby at_126) ?_
      try simp only [if_pos hc111] at k
      try simp only [if_pos hc111]
      exact k
    · show Steps p.tables e below (T93.setTop (mkF m 111 #[.val (.long q0), .second, .val (.long q1), .second, .val (.long q2), .second, .val (.long q3), .second, .val (.int p4), .val (.int p5), .val (.long (noMin_r q0)), .second, .val (.long (noMin_r q1)), .second, .val (.long (noMin_r q2)), .second, .val (.long (noMin_r q3)), .second, .val (.long (minL_r (noMin_r q0) (noMin_r q1))), .second, .val (.long (maxL_r (noMin_r q0) (noMin_r q1))), .second, .val (.long (minL_r (noMin_r q2) (noMin_r q3))), .second, .val (.long (maxL_r (noMin_r q2) (noMin_r q3))), .second, .val (.ref b60), .val (.ref b79), .unset, .unset, .unset] [(.int (Jvm.Free.XT.cmpL (minL_r (noMin_r q0) (noMin_r q1)) (maxL_r (noMin_r q2) (noMin_r q3))))])) t
      refine XS.ifNo X93.here hx rfl (hb hby at_111) rfl (Jvm.Free.XT.ll_gt_f hc111) ?_
      show Steps p.tables e below (T93.setTop (mkF m 114 #[.val (.long q0), .second, .val (.long q1), .second, .val (.long q2), .second, .val (.long q3), .second, .val (.int p4), .val (.int p5), .val (.long (noMin_r q0)), .second, .val (.long (noMin_r q1)), .second, .val (.long (noMin_r q2)), .second, .val (.long (noMin_r q3)), .second, .val (.long (minL_r (noMin_r q0) (noMin_r q1))), .second, .val (.long (maxL_r (noMin_r q0) (noMin_r q1))), .second, .val (.long (minL_r (noMin_r q2) (noMin_r q3))), .second, .val (.long (maxL_r (noMin_r q2) (noMin_r q3))), .second, .val (.ref b60), .val (.ref b79), .unset, .unset, .unset] [])) t
      refine XS.lload X93.here hx rfl (hb hby at_114) rfl ?_
      show Steps p.tables e below (T93.setTop (mkF m 116 #[.val (.long q0), .second, .val (.long q1), .second, .val (.long q2), .second, .val (.long q3), .second, .val (.int p4), .val (.int p5), .val (.long (noMin_r q0)), .second, .val (.long (noMin_r q1)), .second, .val (.long (noMin_r q2)), .second, .val (.long (noMin_r q3)), .second, .val (.long (minL_r (noMin_r q0) (noMin_r q1))), .second, .val (.long (maxL_r (noMin_r q0) (noMin_r q1))), .second, .val (.long (minL_r (noMin_r q2) (noMin_r q3))), .second, .val (.long (maxL_r (noMin_r q2) (noMin_r q3))), .second, .val (.ref b60), .val (.ref b79), .unset, .unset, .unset] [(.long (minL_r (noMin_r q2) (noMin_r q3)))])) t
      refine XS.lload X93.here hx rfl (hb hby at_116) rfl ?_
      show Steps p.tables e below (T93.setTop (mkF m 118 #[.val (.long q0), .second, .val (.long q1), .second, .val (.long q2), .second, .val (.long q3), .second, .val (.int p4), .val (.int p5), .val (.long (noMin_r q0)), .second, .val (.long (noMin_r q1)), .second, .val (.long (noMin_r q2)), .second, .val (.long (noMin_r q3)), .second, .val (.long (minL_r (noMin_r q0) (noMin_r q1))), .second, .val (.long (maxL_r (noMin_r q0) (noMin_r q1))), .second, .val (.long (minL_r (noMin_r q2) (noMin_r q3))), .second, .val (.long (maxL_r (noMin_r q2) (noMin_r q3))), .second, .val (.ref b60), .val (.ref b79), .unset, .unset, .unset] [(.long (maxL_r (noMin_r q0) (noMin_r q1))), (.long (minL_r (noMin_r q2) (noMin_r q3)))])) t
      refine XS.lcmp X93.here hx rfl (hb hby at_118) rfl ?_
      by_cases hc119 : (maxL_r (noMin_r q0) (noMin_r q1)) < (minL_r (noMin_r q2) (noMin_r q3))
      · show Steps p.tables e below (T93.setTop (mkF m 119 #[.val (.long q0), .second, .val (.long q1), .second, .val (.long q2), .second, .val (.long q3), .second, .val (.int p4), .val (.int p5), .val (.long (noMin_r q0)), .second, .val (.long (noMin_r q1)), .second, .val (.long (noMin_r q2)), .second, .val (.long (noMin_r q3)), .second, .val (.long (minL_r (noMin_r q0) (noMin_r q1))), .second, .val (.long (maxL_r (noMin_r q0) (noMin_r q1))), .second, .val (.long (minL_r (noMin_r q2) (noMin_r q3))), .second, .val (.long (maxL_r (noMin_r q2) (noMin_r q3))), .second, .val (.ref b60), .val (.ref b79), .unset, .unset, .unset] [(.int (Jvm.Free.XT.cmpL (minL_r (noMin_r q2) (noMin_r q3)) (maxL_r (noMin_r q0) (noMin_r q1))))])) t
        refine XS.ifYes X93.here hx rfl (pc0 := 119) (pc' := 126) rfl (hb hby at_119) rfl (Jvm.Free.XT.ll_gt_t hc119) (by decide) (by decide) ?_
        show Steps p.tables e below (T93.setTop (mkF m 126 #[.val (.long q0), .second, .val (.long q1), .second, .val (.long q2), .second, .val (.long q3), .second, .val (.int p4), .val (.int p5), .val (.long (noMin_r q0)), .second, .val (.long (noMin_r q1)), .second, .val (.long (noMin_r q2)), .second, .val (.long (noMin_r q3)), .second, .val (.long (minL_r (noMin_r q0) (noMin_r q1))), .second, .val (.long (maxL_r (noMin_r q0) (noMin_r q1))), .second, .val (.long (minL_r (noMin_r q2) (noMin_r q3))), .second, .val (.long (maxL_r (noMin_r q2) (noMin_r q3))), .second, .val (.ref b60), .val (.ref b79), .unset, .unset, .unset] [])) t
        refine XS.iconst X93.here hx rfl (hb hby at_126) ?_
        try simp only [if_neg hc111, if_pos hc119] at k
        try simp only [if_neg hc111, if_pos hc119]
        exact k
      · show Steps p.tables e below (T93.setTop (mkF m 119 #[.val (.long q0), .second, .val (.long q1), .second, .val (.long q2), .second, .val (.long q3), .second, .val (.int p4), .val (.int p5), .val (.long (noMin_r q0)), .second, .val (.long (noMin_r q1)), .second, .val (.long (noMin_r q2)), .second, .val (.long (noMin_r q3)), .second, .val (.long (minL_r (noMin_r q0) (noMin_r q1))), .second, .val (.long (maxL_r (noMin_r q0) (noMin_r q1))), .second, .val (.long (minL_r (noMin_r q2) (noMin_r q3))), .second, .val (.long (maxL_r (noMin_r q2) (noMin_r q3))), .second, .val (.ref b60), .val (.ref b79), .unset, .unset, .unset] [(.int (Jvm.Free.XT.cmpL (minL_r (noMin_r q2) (noMin_r q3)) (maxL_r (noMin_r q0) (noMin_r q1))))])) t
        refine XS.ifNo X93.here hx rfl (hb hby at_119) rfl (Jvm.Free.XT.ll_gt_f hc119) ?_
        show Steps p.tables e below (T93.setTop (mkF m 122 #[.val (.long q0), .second, .val (.long q1), .second, .val (.long q2), .second, .val (.long q3), .second, .val (.int p4), .val (.int p5), .val (.long (noMin_r q0)), .second, .val (.long (noMin_r q1)), .second, .val (.long (noMin_r q2)), .second, .val (.long (noMin_r q3)), .second, .val (.long (minL_r (noMin_r q0) (noMin_r q1))), .second, .val (.long (maxL_r (noMin_r q0) (noMin_r q1))), .second, .val (.long (minL_r (noMin_r q2) (noMin_r q3))), .second, .val (.long (maxL_r (noMin_r q2) (noMin_r q3))), .second, .val (.ref b60), .val (.ref b79), .unset, .unset, .unset] [])) t
        refine XS.iconst X93.here hx rfl (hb hby at_122) ?_
        show Steps p.tables e below (T93.setTop (mkF m 123 #[.val (.long q0), .second, .val (.long q1), .second, .val (.long q2), .second, .val (.long q3), .second, .val (.int p4), .val (.int p5), .val (.long (noMin_r q0)), .second, .val (.long (noMin_r q1)), .second, .val (.long (noMin_r q2)), .second, .val (.long (noMin_r q3)), .second, .val (.long (minL_r (noMin_r q0) (noMin_r q1))), .second, .val (.long (maxL_r (noMin_r q0) (noMin_r q1))), .second, .val (.long (minL_r (noMin_r q2) (noMin_r q3))), .second, .val (.long (maxL_r (noMin_r q2) (noMin_r q3))), .second, .val (.ref b60), .val (.ref b79), .unset, .unset, .unset] [(.int (1 : Int32))])) t
        refine XS.goto X93.here hx rfl (pc0 := 123) (pc' := 127) rfl (hb hby at_123) (by decide) (by decide) ?_
        try simp only [if_neg hc111, if_neg hc119] at k
        try simp only [if_neg hc111, if_neg hc119]
        exact k
  refine own_go (S' := T93.setTop (mkF m 131 #[.val (.long q0), .second, .val (.long q1), .second, .val (.long q2), .second, .val (.long q3), .second, .val (.int p4), .val (.int p5), .val (.long (noMin_r q0)), .second, .val (.long (noMin_r q1)), .second, .val (.long (noMin_r q2)), .second, .val (.long (noMin_r q3)), .second, .val (.long (minL_r (noMin_r q0) (noMin_r q1))), .second, .val (.long (maxL_r (noMin_r q0) (noMin_r q1))), .second, .val (.long (minL_r (noMin_r q2) (noMin_r q3))), .second, .val (.long (maxL_r (noMin_r q2) (noMin_r q3))), .second, .val (.ref b60), .val (.ref b79), .val (.int (if (maxL_r (noMin_r q2) (noMin_r q3)) < (minL_r (noMin_r q0) (noMin_r q1)) then (0 : Int32) else (if (maxL_r (noMin_r q0) (noMin_r q1)) < (minL_r (noMin_r q2) (noMin_r q3)) then (0 : Int32) else (1 : Int32)))), .unset, .unset] [(.int (if (maxL_r (noMin_r q2) (noMin_r q3)) < (minL_r (noMin_r q0) (noMin_r q1)) then (0 : Int32) else (if (maxL_r (noMin_r q0) (noMin_r q1)) < (minL_r (noMin_r q2) (noMin_r q3)) then (0 : Int32) else (1 : Int32))))])) (fun t k => ?_) ?_
  · show Steps p.tables e below (T93.setTop (mkF m 127 #[.val (.long q0), .second, .val (.long q1), .second, .val (.long q2), .second, .val (.long q3), .second, .val (.int p4), .val (.int p5), .val (.long (noMin_r q0)), .second, .val (.long (noMin_r q1)), .second, .val (.long (noMin_r q2)), .second, .val (.long (noMin_r q3)), .second, .val (.long (minL_r (noMin_r q0) (noMin_r q1))), .second, .val (.long (maxL_r (noMin_r q0) (noMin_r q1))), .second, .val (.long (minL_r (noMin_r q2) (noMin_r q3))), .second, .val (.long (maxL_r (noMin_r q2) (noMin_r q3))), .second, .val (.ref b60), .val (.ref b79), .unset, .unset, .unset] [(.int (if (maxL_r (noMin_r q2) (noMin_r q3)) < (minL_r (noMin_r q0) (noMin_r q1)) then (0 : Int32) else (if (maxL_r (noMin_r q0) (noMin_r q1)) < (minL_r (noMin_r q2) (noMin_r q3)) then (0 : Int32) else (1 : Int32))))])) t
    refine XS.istore X93.here hx rfl (hb hby at_127) rfl (l' := #[.val (.long q0), .second, .val (.long q1), .second, .val (.long q2), .second, .val (.long q3), .second, .val (.int p4), .val (.int p5), .val (.long (noMin_r q0)), .second, .val (.long (noMin_r q1)), .second, .val (.long (noMin_r q2)), .second, .val (.long (noMin_r q3)), .second, .val (.long (minL_r (noMin_r q0) (noMin_r q1))), .second, .val (.long (maxL_r (noMin_r q0) (noMin_r q1))), .second, .val (.long (minL_r (noMin_r q2) (noMin_r q3))), .second, .val (.long (maxL_r (noMin_r q2) (noMin_r q3))), .second, .val (.ref b60), .val (.ref b79), .val (.int (if (maxL_r (noMin_r q2) (noMin_r q3)) < (minL_r (noMin_r q0) (noMin_r q1)) then (0 : Int32) else (if (maxL_r (noMin_r q0) (noMin_r q1)) < (minL_r (noMin_r q2) (noMin_r q3)) then (0 : Int32) else (1 : Int32)))), .unset, .unset]) rfl ?_
    show Steps p.tables e below (T93.setTop (mkF m 129 #[.val (.long q0), .second, .val (.long q1), .second, .val (.long q2), .second, .val (.long q3), .second, .val (.int p4), .val (.int p5), .val (.long (noMin_r q0)), .second, .val (.long (noMin_r q1)), .second, .val (.long (noMin_r q2)), .second, .val (.long (noMin_r q3)), .second, .val (.long (minL_r (noMin_r q0) (noMin_r q1))), .second, .val (.long (maxL_r (noMin_r q0) (noMin_r q1))), .second, .val (.long (minL_r (noMin_r q2) (noMin_r q3))), .second, .val (.long (maxL_r (noMin_r q2) (noMin_r q3))), .second, .val (.ref b60), .val (.ref b79), .val (.int (if (maxL_r (noMin_r q2) (noMin_r q3)) < (minL_r (noMin_r q0) (noMin_r q1)) then (0 : Int32) else (if (maxL_r (noMin_r q0) (noMin_r q1)) < (minL_r (noMin_r q2) (noMin_r q3)) then (0 : Int32) else (1 : Int32)))), .unset, .unset] [])) t
    refine XS.iload X93.here hx rfl (hb hby at_129) rfl ?_
    exact k
  refine own_go (S' := T93.setTop (mkF m 147 #[.val (.long q0), .second, .val (.long q1), .second, .val (.long q2), .second, .val (.long q3), .second, .val (.int p4), .val (.int p5), .val (.long (noMin_r q0)), .second, .val (.long (noMin_r q1)), .second, .val (.long (noMin_r q2)), .second, .val (.long (noMin_r q3)), .second, .val (.long (minL_r (noMin_r q0) (noMin_r q1))), .second, .val (.long (maxL_r (noMin_r q0) (noMin_r q1))), .second, .val (.long (minL_r (noMin_r q2) (noMin_r q3))), .second, .val (.long (maxL_r (noMin_r q2) (noMin_r q3))), .second, .val (.ref b60), .val (.ref b79), .val (.int (if (maxL_r (noMin_r q2) (noMin_r q3)) < (minL_r (noMin_r q0) (noMin_r q1)) then (0 : Int32) else (if (maxL_r (noMin_r q0) (noMin_r q1)) < (minL_r (noMin_r q2) (noMin_r q3)) then (0 : Int32) else (1 : Int32)))), .unset, .unset] [(.int (if (if (maxL_r (noMin_r q2) (noMin_r q3)) < (minL_r (noMin_r q0) (noMin_r q1)) then (0 : Int32) else (if (maxL_r (noMin_r q0) (noMin_r q1)) < (minL_r (noMin_r q2) (noMin_r q3)) then (0 : Int32) else (1 : Int32))) = (0 : Int32) then (if (minL_r (noMin_r q2) (noMin_r q3)) < (minL_r (noMin_r q0) (noMin_r q1)) then (1 : Int32) else (0 : Int32)) else (0 : Int32)))])) (fun t k => ?_) ?_
  · show Steps p.tables e below (T93.setTop (mkF m 131 #[.val (.long q0), .second, .val (.long q1), .second, .val (.long q2), .second, .val (.long q3), .second, .val (.int p4), .val (.int p5), .val (.long (noMin_r q0)), .second, .val (.long (noMin_r q1)), .second, .val (.long (noMin_r q2)), .second, .val (.long (noMin_r q3)), .second, .val (.long (minL_r (noMin_r q0) (noMin_r q1))), .second, .val (.long (maxL_r (noMin_r q0) (noMin_r q1))), .second, .val (.long (minL_r (noMin_r q2) (noMin_r q3))), .second, .val (.long (maxL_r (noMin_r q2) (noMin_r q3))), .second, .val (.ref b60), .val (.ref b79), .val (.int (if (maxL_r (noMin_r q2) (noMin_r q3)) < (minL_r (noMin_r q0) (noMin_r q1)) then (0 : Int32) else (if (maxL_r (noMin_r q0) (noMin_r q1)) < (minL_r (noMin_r q2) (noMin_r q3)) then (0 : Int32) else (1 : Int32)))), .unset, .unset] [(.int (if (maxL_r (noMin_r q2) (noMin_r q3)) < (minL_r (noMin_r q0) (noMin_r q1)) then (0 : Int32) else (if (maxL_r (noMin_r q0) (noMin_r q1)) < (minL_r (noMin_r q2) (noMin_r q3)) then (0 : Int32) else (1 : Int32))))])) t
    by_cases hc131 : (if (maxL_r (noMin_r q2) (noMin_r q3)) < (minL_r (noMin_r q0) (noMin_r q1)) then (0 : Int32) else (if (maxL_r (noMin_r q0) (noMin_r q1)) < (minL_r (noMin_r q2) (noMin_r q3)) then (0 : Int32) else (1 : Int32))) = (0 : Int32)
    · show Steps p.tables e below (T93.setTop (mkF m 131 #[.val (.long q0), .second, .val (.long q1), .second, .val (.long q2), .second, .val (.long q3), .second, .val (.int p4), .val (.int p5), .val (.long (noMin_r q0)), .second, .val (.long (noMin_r q1)), .second, .val (.long (noMin_r q2)), .second, .val (.long (noMin_r q3)), .second, .val (.long (minL_r (noMin_r q0) (noMin_r q1))), .second, .val (.long (maxL_r (noMin_r q0) (noMin_r q1))), .second, .val (.long (minL_r (noMin_r q2) (noMin_r q3))), .second, .val (.long (maxL_r (noMin_r q2) (noMin_r q3))), .second, .val (.ref b60), .val (.ref b79), .val (.int (if (maxL_r (noMin_r q2) (noMin_r q3)) < (minL_r (noMin_r q0) (noMin_r q1)) then (0 : Int32) else (if (maxL_r (noMin_r q0) (noMin_r q1)) < (minL_r (noMin_r q2) (noMin_r q3)) then (0 : Int32) else (1 : Int32)))), .unset, .unset] [(.int (if (maxL_r (noMin_r q2) (noMin_r q3)) < (minL_r (noMin_r q0) (noMin_r q1)) then (0 : Int32) else (if (maxL_r (noMin_r q0) (noMin_r q1)) < (minL_r (noMin_r q2) (noMin_r q3)) then (0 : Int32) else (1 : Int32))))])) t
      refine XS.ifNo X93.here hx rfl (hb hby at_131) rfl ((if0 _ _).trans (teq hc131).2) ?_
      show Steps p.tables e below (T93.setTop (mkF m 134 #[.val (.long q0), .second, .val (.long q1), .second, .val (.long q2), .second, .val (.long q3), .second, .val (.int p4), .val (.int p5), .val (.long (noMin_r q0)), .second, .val (.long (noMin_r q1)), .second, .val (.long (noMin_r q2)), .second, .val (.long (noMin_r q3)), .second, .val (.long (minL_r (noMin_r q0) (noMin_r q1))), .second, .val (.long (maxL_r (noMin_r q0) (noMin_r q1))), .second, .val (.long (minL_r (noMin_r q2) (noMin_r q3))), .second, .val (.long (maxL_r (noMin_r q2) (noMin_r q3))), .second, .val (.ref b60), .val (.ref b79), .val (.int (if (maxL_r (noMin_r q2) (noMin_r q3)) < (minL_r (noMin_r q0) (noMin_r q1)) then (0 : Int32) else (if (maxL_r (noMin_r q0) (noMin_r q1)) < (minL_r (noMin_r q2) (noMin_r q3)) then (0 : Int32) else (1 : Int32)))), .unset, .unset] [])) t
      refine XS.lload X93.here hx rfl (hb hby at_134) rfl ?_
      show Steps p.tables e below (T93.setTop (mkF m 136 #[.val (.long q0), .second, .val (.long q1), .second, .val (.long q2), .second, .val (.long q3), .second, .val (.int p4), .val (.int p5), .val (.long (noMin_r q0)), .second, .val (.long (noMin_r q1)), .second, .val (.long (noMin_r q2)), .second, .val (.long (noMin_r q3)), .second, .val (.long (minL_r (noMin_r q0) (noMin_r q1))), .second, .val (.long (maxL_r (noMin_r q0) (noMin_r q1))), .second, .val (.long (minL_r (noMin_r q2) (noMin_r q3))), .second, .val (.long (maxL_r (noMin_r q2) (noMin_r q3))), .second, .val (.ref b60), .val (.ref b79), .val (.int (if (maxL_r (noMin_r q2) (noMin_r q3)) < (minL_r (noMin_r q0) (noMin_r q1)) then (0 : Int32) else (if (maxL_r (noMin_r q0) (noMin_r q1)) < (minL_r (noMin_r q2) (noMin_r q3)) then (0 : Int32) else (1 : Int32)))), .unset, .unset] [(.long (minL_r (noMin_r q0) (noMin_r q1)))])) t
      refine XS.lload X93.here hx rfl (hb hby at_136) rfl ?_
      show Steps p.tables e below (T93.setTop (mkF m 138 #[.val (.long q0), .second, .val (.long q1), .second, .val (.long q2), .second, .val (.long q3), .second, .val (.int p4), .val (.int p5), .val (.long (noMin_r q0)), .second, .val (.long (noMin_r q1)), .second, .val (.long (noMin_r q2)), .second, .val (.long (noMin_r q3)), .second, .val (.long (minL_r (noMin_r q0) (noMin_r q1))), .second, .val (.long (maxL_r (noMin_r q0) (noMin_r q1))), .second, .val (.long (minL_r (noMin_r q2) (noMin_r q3))), .second, .val (.long (maxL_r (noMin_r q2) (noMin_r q3))), .second, .val (.ref b60), .val (.ref b79), .val (.int (if (maxL_r (noMin_r q2) (noMin_r q3)) < (minL_r (noMin_r q0) (noMin_r q1)) then (0 : Int32) else (if (maxL_r (noMin_r q0) (noMin_r q1)) < (minL_r (noMin_r q2) (noMin_r q3)) then (0 : Int32) else (1 : Int32)))), .unset, .unset] [(.long (minL_r (noMin_r q2) (noMin_r q3))), (.long (minL_r (noMin_r q0) (noMin_r q1)))])) t
      refine XS.lcmp X93.here hx rfl (hb hby at_138) rfl ?_
      by_cases hc139 : (minL_r (noMin_r q2) (noMin_r q3)) < (minL_r (noMin_r q0) (noMin_r q1))
      · show Steps p.tables e below (T93.setTop (mkF m 139 #[.val (.long q0), .second, .val (.long q1), .second, .val (.long q2), .second, .val (.long q3), .second, .val (.int p4), .val (.int p5), .val (.long (noMin_r q0)), .second, .val (.long (noMin_r q1)), .second, .val (.long (noMin_r q2)), .second, .val (.long (noMin_r q3)), .second, .val (.long (minL_r (noMin_r q0) (noMin_r q1))), .second, .val (.long (maxL_r (noMin_r q0) (noMin_r q1))), .second, .val (.long (minL_r (noMin_r q2) (noMin_r q3))), .second, .val (.long (maxL_r (noMin_r q2) (noMin_r q3))), .second, .val (.ref b60), .val (.ref b79), .val (.int (if (maxL_r (noMin_r q2) (noMin_r q3)) < (minL_r (noMin_r q0) (noMin_r q1)) then (0 : Int32) else (if (maxL_r (noMin_r q0) (noMin_r q1)) < (minL_r (noMin_r q2) (noMin_r q3)) then (0 : Int32) else (1 : Int32)))), .unset, .unset] [(.int (Jvm.Free.XT.cmpL (minL_r (noMin_r q0) (noMin_r q1)) (minL_r (noMin_r q2) (noMin_r q3))))])) t
        refine XS.ifNo X93.here hx rfl (hb hby at_139) rfl (Jvm.Free.XT.ll_le_f hc139) ?_
        show Steps p.tables e below (T93.setTop (mkF m 142 #[.val (.long q0), .second, .val (.long q1), .second, .val (.long q2), .second, .val (.long q3), .second, .val (.int p4), .val (.int p5), .val (.long (noMin_r q0)), .second, .val (.long (noMin_r q1)), .second, .val (.long (noMin_r q2)), .second, .val (.long (noMin_r q3)), .second, .val (.long (minL_r (noMin_r q0) (noMin_r q1))), .second, .val (.long (maxL_r (noMin_r q0) (noMin_r q1))), .second, .val (.long (minL_r (noMin_r q2) (noMin_r q3))), .second, .val (.long (maxL_r (noMin_r q2) (noMin_r q3))), .second, .val (.ref b60), .val (.ref b79), .val (.int (if (maxL_r (noMin_r q2) (noMin_r q3)) < (minL_r (noMin_r q0) (noMin_r q1)) then (0 : Int32) else (if (maxL_r (noMin_r q0) (noMin_r q1)) < (minL_r (noMin_r q2) (noMin_r q3)) then (0 : Int32) else (1 : Int32)))), .unset, .unset] [])) t
        refine XS.iconst X93.here hx rfl (hb hby at_142) ?_
        show Steps p.tables e below (T93.setTop (mkF m 143 #[.val (.long q0), .second, .val (.long q1), .second, .val (.long q2), .second, .val (.long q3), .second, .val (.int p4), .val (.int p5), .val (.long (noMin_r q0)), .second, .val (.long (noMin_r q1)), .second, .val (.long (noMin_r q2)), .second, .val (.long (noMin_r q3)), .second, .val (.long (minL_r (noMin_r q0) (noMin_r q1))), .second, .val (.long (maxL_r (noMin_r q0) (noMin_r q1))), .second, .val (.long (minL_r (noMin_r q2) (noMin_r q3))), .second, .val (.long (maxL_r (noMin_r q2) (noMin_r q3))), .second, .val (.ref b60), .val (.ref b79), .val (.int (if (maxL_r (noMin_r q2) (noMin_r q3)) < (minL_r (noMin_r q0) (noMin_r q1)) then (0 : Int32) else (if (maxL_r (noMin_r q0) (noMin_r q1)) < (minL_r (noMin_r q2) (noMin_r q3)) then (0 : Int32) else (1 : Int32)))), .unset, .unset] [(.int (1 : Int32))])) t
        refine XS.goto X93.here hx rfl (pc0 := 143) (pc' := 147) rfl (hb hby at_143) (by decide) (by decide) ?_
        try simp only [if_pos hc131, if_pos hc139] at k
        try simp only [if_pos hc131, if_pos hc139]
        exact k
      · show Steps p.tables e below (T93.setTop (mkF m 139 #[.val (.long q0), .second, .val (.long q1), .second, .val (.long q2), .second, .val (.long q3), .second, .val (.int p4), .val (.int p5), .val (.long (noMin_r q0)), .second, .val (.long (noMin_r q1)), .second, .val (.long (noMin_r q2)), .second, .val (.long (noMin_r q3)), .second, .val (.long (minL_r (noMin_r q0) (noMin_r q1))), .second, .val (.long (maxL_r (noMin_r q0) (noMin_r q1))), .second, .val (.long (minL_r (noMin_r q2) (noMin_r q3))), .second, .val (.long (maxL_r (noMin_r q2) (noMin_r q3))), .second, .val (.ref b60), .val (.ref b79), .val (.int (if (maxL_r (noMin_r q2) (noMin_r q3)) < (minL_r (noMin_r q0) (noMin_r q1)) then (0 : Int32) else (if (maxL_r (noMin_r q0) (noMin_r q1)) < (minL_r (noMin_r q2) (noMin_r q3)) then (0 : Int32) else (1 : Int32)))), .unset, .unset] [(.int (Jvm.Free.XT.cmpL (minL_r (noMin_r q0) (noMin_r q1)) (minL_r (noMin_r q2) (noMin_r q3))))])) t
        refine XS.ifYes X93.here hx rfl (pc0 := 139) (pc' := 146) rfl (hb hby at_139) rfl (Jvm.Free.XT.ll_le_t hc139) (by decide) (by decide) ?_
        show Steps p.tables e below (T93.setTop (mkF m 146 #[.val (.long q0), .second, .val (.long q1), .second, .val (.long q2), .second, .val (.long q3), .second, .val (.int p4), .val (.int p5), .val (.long (noMin_r q0)), .second, .val (.long (noMin_r q1)), .second, .val (.long (noMin_r q2)), .second, .val (.long (noMin_r q3)), .second, .val (.long (minL_r (noMin_r q0) (noMin_r q1))), .second, .val (.long (maxL_r (noMin_r q0) (noMin_r q1))), .second, .val (.long (minL_r (noMin_r q2) (noMin_r q3))), .second, .val (.long (maxL_r (noMin_r q2) (noMin_r q3))), .second, .val (.ref b60), .val (.ref b79), .val (.int (if (maxL_r (noMin_r q2) (noMin_r q3)) < (minL_r (noMin_r q0) (noMin_r q1)) then (0 : Int32) else (if (maxL_r (noMin_r q0) (noMin_r q1)) < (minL_r (noMin_r q2) (noMin_r q3)) then (0 : Int32) else (1 : Int32)))), .unset, .unset] [])) t
        refine XS.iconst X93.here hx rfl (hb hby at_146) ?_
        try simp only [if_pos hc131, if_neg hc139] at k
        try simp only [if_pos hc131, if_neg hc139]
        exact k
    · show Steps p.tables e below (T93.setTop (mkF m 131 #[.val (.long q0), .second, .val (.long q1), .second, .val (.long q2), .second, .val (.long q3), .second, .val (.int p4), .val (.int p5), .val (.long (noMin_r q0)), .second, .val (.long (noMin_r q1)), .second, .val (.long (noMin_r q2)), .second, .val (.long (noMin_r q3)), .second, .val (.long (minL_r (noMin_r q0) (noMin_r q1))), .second, .val (.long (maxL_r (noMin_r q0) (noMin_r q1))), .second, .val (.long (minL_r (noMin_r q2) (noMin_r q3))), .second, .val (.long (maxL_r (noMin_r q2) (noMin_r q3))), .second, .val (.ref b60), .val (.ref b79), .val (.int (if (maxL_r (noMin_r q2) (noMin_r q3)) < (minL_r (noMin_r q0) (noMin_r q1)) then (0 : Int32) else (if (maxL_r (noMin_r q0) (noMin_r q1)) < (minL_r (noMin_r q2) (noMin_r q3)) then (0 : Int32) else (1 : Int32)))), .unset, .unset] [(.int (if (maxL_r (noMin_r q2) (noMin_r q3)) < (minL_r (noMin_r q0) (noMin_r q1)) then (0 : Int32) else (if (maxL_r (noMin_r q0) (noMin_r q1)) < (minL_r (noMin_r q2) (noMin_r q3)) then (0 : Int32) else (1 : Int32))))])) t
      refine XS.ifYes X93.here hx rfl (pc0 := 131) (pc' := 146) rfl (hb hby at_131) rfl ((if0 _ _).trans (feq hc131).2) (by decide) (by decide) ?_
      show Steps p.tables e below (T93.setTop (mkF m 146 #[.val (.long q0), .second, .val (.long q1), .second, .val (.long q2), .second, .val (.long q3), .second, .val (.int p4), .val (.int p5), .val (.long (noMin_r q0)), .second, .val (.long (noMin_r q1)), .second, .val (.long (noMin_r q2)), .second, .val (.long (noMin_r q3)), .second, .val (.long (minL_r (noMin_r q0) (noMin_r q1))), .second, .val (.long (maxL_r (noMin_r q0) (noMin_r q1))), .second, .val (.long (minL_r (noMin_r q2) (noMin_r q3))), .second, .val (.long (maxL_r (noMin_r q2) (noMin_r q3))), .second, .val (.ref b60), .val (.ref b79), .val (.int (if (maxL_r (noMin_r q2) (noMin_r q3)) < (minL_r (noMin_r q0) (noMin_r q1)) then (0 : Int32) else (if (maxL_r (noMin_r q0) (noMin_r q1)) < (minL_r (noMin_r q2) (noMin_r q3)) then (0 : Int32) else (1 : Int32)))), .unset, .unset] [])) t
      refine XS.iconst X93.here hx rfl (hb hby at_146) ?_
      try simp only [if_neg hc131] at k
      try simp only [if_neg hc131]
      exact k
  refine own_go (S' := T93.setTop (mkF m 151 #[.val (.long q0), .second, .val (.long q1), .second, .val (.long q2), .second, .val (.long q3), .second, .val (.int p4), .val (.int p5), .val (.long (noMin_r q0)), .second, .val (.long (noMin_r q1)), .second, .val (.long (noMin_r q2)), .second, .val (.long (noMin_r q3)), .second, .val (.long (minL_r (noMin_r q0) (noMin_r q1))), .second, .val (.long (maxL_r (noMin_r q0) (noMin_r q1))), .second, .val (.long (minL_r (noMin_r q2) (noMin_r q3))), .second, .val (.long (maxL_r (noMin_r q2) (noMin_r q3))), .second, .val (.ref b60), .val (.ref b79), .val (.int (if (maxL_r (noMin_r q2) (noMin_r q3)) < (minL_r (noMin_r q0) (noMin_r q1)) then (0 : Int32) else (if (maxL_r (noMin_r q0) (noMin_r q1)) < (minL_r (noMin_r q2) (noMin_r q3)) then (0 : Int32) else (1 : Int32)))), .val (.int (if (if (maxL_r (noMin_r q2) (noMin_r q3)) < (minL_r (noMin_r q0) (noMin_r q1)) then (0 : Int32) else (if (maxL_r (noMin_r q0) (noMin_r q1)) < (minL_r (noMin_r q2) (noMin_r q3)) then (0 : Int32) else (1 : Int32))) = (0 : Int32) then (if (minL_r (noMin_r q2) (noMin_r q3)) < (minL_r (noMin_r q0) (noMin_r q1)) then (1 : Int32) else (0 : Int32)) else (0 : Int32))), .unset] [(.int (if (maxL_r (noMin_r q2) (noMin_r q3)) < (minL_r (noMin_r q0) (noMin_r q1)) then (0 : Int32) else (if (maxL_r (noMin_r q0) (noMin_r q1)) < (minL_r (noMin_r q2) (noMin_r q3)) then (0 : Int32) else (1 : Int32))))])) (fun t k => ?_) ?_
  · show Steps p.tables e below (T93.setTop (mkF m 147 #[.val (.long q0), .second, .val (.long q1), .second, .val (.long q2), .second, .val (.long q3), .second, .val (.int p4), .val (.int p5), .val (.long (noMin_r q0)), .second, .val (.long (noMin_r q1)), .second, .val (.long (noMin_r q2)), .second, .val (.long (noMin_r q3)), .second, .val (.long (minL_r (noMin_r q0) (noMin_r q1))), .second, .val (.long (maxL_r (noMin_r q0) (noMin_r q1))), .second, .val (.long (minL_r (noMin_r q2) (noMin_r q3))), .second, .val (.long (maxL_r (noMin_r q2) (noMin_r q3))), .second, .val (.ref b60), .val (.ref b79), .val (.int (if (maxL_r (noMin_r q2) (noMin_r q3)) < (minL_r (noMin_r q0) (noMin_r q1)) then (0 : Int32) else (if (maxL_r (noMin_r q0) (noMin_r q1)) < (minL_r (noMin_r q2) (noMin_r q3)) then (0 : Int32) else (1 : Int32)))), .unset, .unset] [(.int (if (if (maxL_r (noMin_r q2) (noMin_r q3)) < (minL_r (noMin_r q0) (noMin_r q1)) then (0 : Int32) else (if (maxL_r (noMin_r q0) (noMin_r q1)) < (minL_r (noMin_r q2) (noMin_r q3)) then (0 : Int32) else (1 : Int32))) = (0 : Int32) then (if (minL_r (noMin_r q2) (noMin_r q3)) < (minL_r (noMin_r q0) (noMin_r q1)) then (1 : Int32) else (0 : Int32)) else (0 : Int32)))])) t
    refine XS.istore X93.here hx rfl (hb hby at_147) rfl (l' := #[.val (.long q0), .second, .val (.long q1), .second, .val (.long q2), .second, .val (.long q3), .second, .val (.int p4), .val (.int p5), .val (.long (noMin_r q0)), .second, .val (.long (noMin_r q1)), .second, .val (.long (noMin_r q2)), .second, .val (.long (noMin_r q3)), .second, .val (.long (minL_r (noMin_r q0) (noMin_r q1))), .second, .val (.long (maxL_r (noMin_r q0) (noMin_r q1))), .second, .val (.long (minL_r (noMin_r q2) (noMin_r q3))), .second, .val (.long (maxL_r (noMin_r q2) (noMin_r q3))), .second, .val (.ref b60), .val (.ref b79), .val (.int (if (maxL_r (noMin_r q2) (noMin_r q3)) < (minL_r (noMin_r q0) (noMin_r q1)) then (0 : Int32) else (if (maxL_r (noMin_r q0) (noMin_r q1)) < (minL_r (noMin_r q2) (noMin_r q3)) then (0 : Int32) else (1 : Int32)))), .val (.int (if (if (maxL_r (noMin_r q2) (noMin_r q3)) < (minL_r (noMin_r q0) (noMin_r q1)) then (0 : Int32) else (if (maxL_r (noMin_r q0) (noMin_r q1)) < (minL_r (noMin_r q2) (noMin_r q3)) then (0 : Int32) else (1 : Int32))) = (0 : Int32) then (if (minL_r (noMin_r q2) (noMin_r q3)) < (minL_r (noMin_r q0) (noMin_r q1)) then (1 : Int32) else (0 : Int32)) else (0 : Int32))), .unset]) rfl ?_
    show Steps p.tables e below (T93.setTop (mkF m 149 #[.val (.long q0), .second, .val (.long q1), .second, .val (.long q2), .second, .val (.long q3), .second, .val (.int p4), .val (.int p5), .val (.long (noMin_r q0)), .second, .val (.long (noMin_r q1)), .second, .val (.long (noMin_r q2)), .second, .val (.long (noMin_r q3)), .second, .val (.long (minL_r (noMin_r q0) (noMin_r q1))), .second, .val (.long (maxL_r (noMin_r q0) (noMin_r q1))), .second, .val (.long (minL_r (noMin_r q2) (noMin_r q3))), .second, .val (.long (maxL_r (noMin_r q2) (noMin_r q3))), .second, .val (.ref b60), .val (.ref b79), .val (.int (if (maxL_r (noMin_r q2) (noMin_r q3)) < (minL_r (noMin_r q0) (noMin_r q1)) then (0 : Int32) else (if (maxL_r (noMin_r q0) (noMin_r q1)) < (minL_r (noMin_r q2) (noMin_r q3)) then (0 : Int32) else (1 : Int32)))), .val (.int (if (if (maxL_r (noMin_r q2) (noMin_r q3)) < (minL_r (noMin_r q0) (noMin_r q1)) then (0 : Int32) else (if (maxL_r (noMin_r q0) (noMin_r q1)) < (minL_r (noMin_r q2) (noMin_r q3)) then (0 : Int32) else (1 : Int32))) = (0 : Int32) then (if (minL_r (noMin_r q2) (noMin_r q3)) < (minL_r (noMin_r q0) (noMin_r q1)) then (1 : Int32) else (0 : Int32)) else (0 : Int32))), .unset] [])) t
    refine XS.iload X93.here hx rfl (hb hby at_149) rfl ?_
    exact k
  refine own_go (S' := T93.setTop (mkF m 167 #[.val (.long q0), .second, .val (.long q1), .second, .val (.long q2), .second, .val (.long q3), .second, .val (.int p4), .val (.int p5), .val (.long (noMin_r q0)), .second, .val (.long (noMin_r q1)), .second, .val (.long (noMin_r q2)), .second, .val (.long (noMin_r q3)), .second, .val (.long (minL_r (noMin_r q0) (noMin_r q1))), .second, .val (.long (maxL_r (noMin_r q0) (noMin_r q1))), .second, .val (.long (minL_r (noMin_r q2) (noMin_r q3))), .second, .val (.long (maxL_r (noMin_r q2) (noMin_r q3))), .second, .val (.ref b60), .val (.ref b79), .val (.int (if (maxL_r (noMin_r q2) (noMin_r q3)) < (minL_r (noMin_r q0) (noMin_r q1)) then (0 : Int32) else (if (maxL_r (noMin_r q0) (noMin_r q1)) < (minL_r (noMin_r q2) (noMin_r q3)) then (0 : Int32) else (1 : Int32)))), .val (.int (if (if (maxL_r (noMin_r q2) (noMin_r q3)) < (minL_r (noMin_r q0) (noMin_r q1)) then (0 : Int32) else (if (maxL_r (noMin_r q0) (noMin_r q1)) < (minL_r (noMin_r q2) (noMin_r q3)) then (0 : Int32) else (1 : Int32))) = (0 : Int32) then (if (minL_r (noMin_r q2) (noMin_r q3)) < (minL_r (noMin_r q0) (noMin_r q1)) then (1 : Int32) else (0 : Int32)) else (0 : Int32))), .unset] [(.int (if (if (maxL_r (noMin_r q2) (noMin_r q3)) < (minL_r (noMin_r q0) (noMin_r q1)) then (0 : Int32) else (if (maxL_r (noMin_r q0) (noMin_r q1)) < (minL_r (noMin_r q2) (noMin_r q3)) then (0 : Int32) else (1 : Int32))) = (0 : Int32) then (if (minL_r (noMin_r q0) (noMin_r q1)) < (minL_r (noMin_r q2) (noMin_r q3)) then (1 : Int32) else (0 : Int32)) else (0 : Int32)))])) (fun t k => ?_) ?_
  · show Steps p.tables e below (T93.setTop (mkF m 151 #[.val (.long q0), .second, .val (.long q1), .second, .val (.long q2), .second, .val (.long q3), .second, .val (.int p4), .val (.int p5), .val (.long (noMin_r q0)), .second, .val (.long (noMin_r q1)), .second, .val (.long (noMin_r q2)), .second, .val (.long (noMin_r q3)), .second, .val (.long (minL_r (noMin_r q0) (noMin_r q1))), .second, .val (.long (maxL_r (noMin_r q0) (noMin_r q1))), .second, .val (.long (minL_r (noMin_r q2) (noMin_r q3))), .second, .val (.long (maxL_r (noMin_r q2) (noMin_r q3))), .second, .val (.ref b60), .val (.ref b79), .val (.int (if (maxL_r (noMin_r q2) (noMin_r q3)) < (minL_r (noMin_r q0) (noMin_r q1)) then (0 : Int32) else (if (maxL_r (noMin_r q0) (noMin_r q1)) < (minL_r (noMin_r q2) (noMin_r q3)) then (0 : Int32) else (1 : Int32)))), .val (.int (if (if (maxL_r (noMin_r q2) (noMin_r q3)) < (minL_r (noMin_r q0) (noMin_r q1)) then (0 : Int32) else (if (maxL_r (noMin_r q0) (noMin_r q1)) < (minL_r (noMin_r q2) (noMin_r q3)) then (0 : Int32) else (1 : Int32))) = (0 : Int32) then (if (minL_r (noMin_r q2) (noMin_r q3)) < (minL_r (noMin_r q0) (noMin_r q1)) then (1 : Int32) else (0 : Int32)) else (0 : Int32))), .unset] [(.int (if (maxL_r (noMin_r q2) (noMin_r q3)) < (minL_r (noMin_r q0) (noMin_r q1)) then (0 : Int32) else (if (maxL_r (noMin_r q0) (noMin_r q1)) < (minL_r (noMin_r q2) (noMin_r q3)) then (0 : Int32) else (1 : Int32))))])) t
    by_cases hc151 : (if (maxL_r (noMin_r q2) (noMin_r q3)) < (minL_r (noMin_r q0) (noMin_r q1)) then (0 : Int32) else (if (maxL_r (noMin_r q0) (noMin_r q1)) < (minL_r (noMin_r q2) (noMin_r q3)) then (0 : Int32) else (1 : Int32))) = (0 : Int32)
    · show Steps p.tables e below (T93.setTop (mkF m 151 #[.val (.long q0), .second, .val (.long q1), .second, .val (.long q2), .second, .val (.long q3), .second, .val (.int p4), .val (.int p5), .val (.long (noMin_r q0)), .second, .val (.long (noMin_r q1)), .second, .val (.long (noMin_r q2)), .second, .val (.long (noMin_r q3)), .second, .val (.long (minL_r (noMin_r q0) (noMin_r q1))), .second, .val (.long (maxL_r (noMin_r q0) (noMin_r q1))), .second, .val (.long (minL_r (noMin_r q2) (noMin_r q3))), .second, .val (.long (maxL_r (noMin_r q2) (noMin_r q3))), .second, .val (.ref b60), .val (.ref b79), .val (.int (if (maxL_r (noMin_r q2) (noMin_r q3)) < (minL_r (noMin_r q0) (noMin_r q1)) then (0 : Int32) else (if (maxL_r (noMin_r q0) (noMin_r q1)) < (minL_r (noMin_r q2) (noMin_r q3)) then (0 : Int32) else (1 : Int32)))), .val (.int (if (if (maxL_r (noMin_r q2) (noMin_r q3)) < (minL_r (noMin_r q0) (noMin_r q1)) then (0 : Int32) else (if (maxL_r (noMin_r q0) (noMin_r q1)) < (minL_r (noMin_r q2) (noMin_r q3)) then (0 : Int32) else (1 : Int32))) = (0 : Int32) then (if (minL_r (noMin_r q2) (noMin_r q3)) < (minL_r (noMin_r q0) (noMin_r q1)) then (1 : Int32) else (0 : Int32)) else (0 : Int32))), .unset] [(.int (if (maxL_r (noMin_r q2) (noMin_r q3)) < (minL_r (noMin_r q0) (noMin_r q1)) then (0 : Int32) else (if (maxL_r (noMin_r q0) (noMin_r q1)) < (minL_r (noMin_r q2) (noMin_r q3)) then (0 : Int32) else (1 : Int32))))])) t
      refine XS.ifNo X93.here hx rfl (hb hby at_151) rfl ((if0 _ _).trans (teq hc151).2) ?_
      show Steps p.tables e below (T93.setTop (mkF m 154 #[.val (.long q0), .second, .val (.long q1), .second, .val (.long q2), .second, .val (.long q3), .second, .val (.int p4), .val (.int p5), .val (.long (noMin_r q0)), .second, .val (.long (noMin_r q1)), .second, .val (.long (noMin_r q2)), .second, .val (.long (noMin_r q3)), .second, .val (.long (minL_r (noMin_r q0) (noMin_r q1))), .second, .val (.long (maxL_r (noMin_r q0) (noMin_r q1))), .second, .val (.long (minL_r (noMin_r q2) (noMin_r q3))), .second, .val (.long (maxL_r (noMin_r q2) (noMin_r q3))), .second, .val (.ref b60), .val (.ref b79), .val (.int (if (maxL_r (noMin_r q2) (noMin_r q3)) < (minL_r (noMin_r q0) (noMin_r q1)) then (0 : Int32) else (if (maxL_r (noMin_r q0) (noMin_r q1)) < (minL_r (noMin_r q2) (noMin_r q3)) then (0 : Int32) else (1 : Int32)))), .val (.int (if (if (maxL_r (noMin_r q2) (noMin_r q3)) < (minL_r (noMin_r q0) (noMin_r q1)) then (0 : Int32) else (if (maxL_r (noMin_r q0) (noMin_r q1)) < (minL_r (noMin_r q2) (noMin_r q3)) then (0 : Int32) else (1 : Int32))) = (0 : Int32) then (if (minL_r (noMin_r q2) (noMin_r q3)) < (minL_r (noMin_r q0) (noMin_r q1)) then (1 : Int32) else (0 : Int32)) else (0 : Int32))), .unset] [])) t
      refine XS.lload X93.here hx rfl (hb hby at_154) rfl ?_
      show Steps p.tables e below (T93.setTop (mkF m 156 #[.val (.long q0), .second, .val (.long q1), .second, .val (.long q2), .second, .val (.long q3), .second, .val (.int p4), .val (.int p5), .val (.long (noMin_r q0)), .second, .val (.long (noMin_r q1)), .second, .val (.long (noMin_r q2)), .second, .val (.long (noMin_r q3)), .second, .val (.long (minL_r (noMin_r q0) (noMin_r q1))), .second, .val (.long (maxL_r (noMin_r q0) (noMin_r q1))), .second, .val (.long (minL_r (noMin_r q2) (noMin_r q3))), .second, .val (.long (maxL_r (noMin_r q2) (noMin_r q3))), .second, .val (.ref b60), .val (.ref b79), .val (.int (if (maxL_r (noMin_r q2) (noMin_r q3)) < (minL_r (noMin_r q0) (noMin_r q1)) then (0 : Int32) else (if (maxL_r (noMin_r q0) (noMin_r q1)) < (minL_r (noMin_r q2) (noMin_r q3)) then (0 : Int32) else (1 : Int32)))), .val (.int (if (if (maxL_r (noMin_r q2) (noMin_r q3)) < (minL_r (noMin_r q0) (noMin_r q1)) then (0 : Int32) else (if (maxL_r (noMin_r q0) (noMin_r q1)) < (minL_r (noMin_r q2) (noMin_r q3)) then (0 : Int32) else (1 : Int32))) = (0 : Int32) then (if (minL_r (noMin_r q2) (noMin_r q3)) < (minL_r (noMin_r q0) (noMin_r q1)) then (1 : Int32) else (0 : Int32)) else (0 : Int32))), .unset] [(.long (minL_r (noMin_r q2) (noMin_r q3)))])) t
      refine XS.lload X93.here hx rfl (hb hby at_156) rfl ?_
      show Steps p.tables e below (T93.setTop (mkF m 158 #[.val (.long q0), .second, .val (.long q1), .second, .val (.long q2), .second, .val (.long q3), .second, .val (.int p4), .val (.int p5), .val (.long (noMin_r q0)), .second, .val (.long (noMin_r q1)), .second, .val (.long (noMin_r q2)), .second, .val (.long (noMin_r q3)), .second, .val (.long (minL_r (noMin_r q0) (noMin_r q1))), .second, .val (.long (maxL_r (noMin_r q0) (noMin_r q1))), .second, .val (.long (minL_r (noMin_r q2) (noMin_r q3))), .second, .val (.long (maxL_r (noMin_r q2) (noMin_r q3))), .second, .val (.ref b60), .val (.ref b79), .val (.int (if (maxL_r (noMin_r q2) (noMin_r q3)) < (minL_r (noMin_r q0) (noMin_r q1)) then (0 : Int32) else (if (maxL_r (noMin_r q0) (noMin_r q1)) < (minL_r (noMin_r q2) (noMin_r q3)) then (0 : Int32) else (1 : Int32)))), .val (.int (if (if (maxL_r (noMin_r q2) (noMin_r q3)) < (minL_r (noMin_r q0) (noMin_r q1)) then (0 : Int32) else (if (maxL_r (noMin_r q0) (noMin_r q1)) < (minL_r (noMin_r q2) (noMin_r q3)) then (0 : Int32) else (1 : Int32))) = (0 : Int32) then (if (minL_r (noMin_r q2) (noMin_r q3)) < (minL_r (noMin_r q0) (noMin_r q1)) then (1 : Int32) else (0 : Int32)) else (0 : Int32))), .unset] [(.long (minL_r (noMin_r q0) (noMin_r q1))), (.long (minL_r (noMin_r q2) (noMin_r q3)))])) t
      refine XS.lcmp X93.here hx rfl (hb hby at_158) rfl ?_
      by_cases hc159 : (minL_r (noMin_r q0) (noMin_r q1)) < (minL_r (noMin_r q2) (noMin_r q3))
      · show Steps p.tables e below (T93.setTop (mkF m 159 #[.val (.long q0), .second, .val (.long q1), .second, .val (.long q2), .second, .val (.long q3), .second, .val (.int p4), .val (.int p5), .val (.long (noMin_r q0)), .second, .val (.long (noMin_r q1)), .second, .val (.long (noMin_r q2)), .second, .val (.long (noMin_r q3)), .second, .val (.long (minL_r (noMin_r q0) (noMin_r q1))), .second, .val (.long (maxL_r (noMin_r q0) (noMin_r q1))), .second, .val (.long (minL_r (noMin_r q2) (noMin_r q3))), .second, .val (.long (maxL_r (noMin_r q2) (noMin_r q3))), .second, .val (.ref b60), .val (.ref b79), .val (.int (if (maxL_r (noMin_r q2) (noMin_r q3)) < (minL_r (noMin_r q0) (noMin_r q1)) then (0 : Int32) else (if (maxL_r (noMin_r q0) (noMin_r q1)) < (minL_r (noMin_r q2) (noMin_r q3)) then (0 : Int32) else (1 : Int32)))), .val (.int (if (if (maxL_r (noMin_r q2) (noMin_r q3)) < (minL_r (noMin_r q0) (noMin_r q1)) then (0 : Int32) else (if (maxL_r (noMin_r q0) (noMin_r q1)) < (minL_r (noMin_r q2) (noMin_r q3)) then (0 : Int32) else (1 : Int32))) = (0 : Int32) then (if (minL_r (noMin_r q2) (noMin_r q3)) < (minL_r (noMin_r q0) (noMin_r q1)) then (1 : Int32) else (0 : Int32)) else (0 : Int32))), .unset] [(.int (Jvm.Free.XT.cmpL (minL_r (noMin_r q2) (noMin_r q3)) (minL_r (noMin_r q0) (noMin_r q1))))])) t
        refine XS.ifNo X93.here hx rfl (hb hby at_159) rfl (Jvm.Free.XT.ll_le_f hc159) ?_
        show Steps p.tables e below (T93.setTop (mkF m 162 #[.val (.long q0), .second, .val (.long q1), .second, .val (.long q2), .second, .val (.long q3), .second, .val (.int p4), .val (.int p5), .val (.long (noMin_r q0)), .second, .val (.long (noMin_r q1)), .second, .val (.long (noMin_r q2)), .second, .val (.long (noMin_r q3)), .second, .val (.long (minL_r (noMin_r q0) (noMin_r q1))), .second, .val (.long (maxL_r (noMin_r q0) (noMin_r q1))), .second, .val (.long (minL_r (noMin_r q2) (noMin_r q3))), .second, .val (.long (maxL_r (noMin_r q2) (noMin_r q3))), .second, .val (.ref b60), .val (.ref b79), .val (.int (if (maxL_r (noMin_r q2) (noMin_r q3)) < (minL_r (noMin_r q0) (noMin_r q1)) then (0 : Int32) else (if (maxL_r (noMin_r q0) (noMin_r q1)) < (minL_r (noMin_r q2) (noMin_r q3)) then (0 : Int32) else (1 : Int32)))), .val (.int (if (if (maxL_r (noMin_r q2) (noMin_r q3)) < (minL_r (noMin_r q0) (noMin_r q1)) then (0 : Int32) else (if (maxL_r (noMin_r q0) (noMin_r q1)) < (minL_r (noMin_r q2) (noMin_r q3)) then (0 : Int32) else (1 : Int32))) = (0 : Int32) then (if (minL_r (noMin_r q2) (noMin_r q3)) < (minL_r (noMin_r q0) (noMin_r q1)) then (1 : Int32) else (0 : Int32)) else (0 : Int32))), .unset] [])) t
        refine XS.iconst X93.here hx rfl (hb hby at_162) ?_
        show Steps p.tables e below (T93.setTop (mkF m 163 #[.val (.long q0), .second, .val (.long q1), .second, .val (.long q2), .second, .val (.long q3), .second, .val (.int p4), .val (.int p5), .val (.long (noMin_r q0)), .second, .val (.long (noMin_r q1)), .second, .val (.long (noMin_r q2)), .second, .val (.long (noMin_r q3)), .second, .val (.long (minL_r (noMin_r q0) (noMin_r q1))), .second, .val (.long (maxL_r (noMin_r q0) (noMin_r q1))), .second, .val (.long (minL_r (noMin_r q2) (noMin_r q3))), .second, .val (.long (maxL_r (noMin_r q2) (noMin_r q3))), .second, .val (.ref b60), .val (.ref b79), .val (.int (if (maxL_r (noMin_r q2) (noMin_r q3)) < (minL_r (noMin_r q0) (noMin_r q1)) then (0 : Int32) else (if (maxL_r (noMin_r q0) (noMin_r q1)) < (minL_r (noMin_r q2) (noMin_r q3)) then (0 : Int32) else (1 : Int32)))), .val (.int (if (if (maxL_r (noMin_r q2) (noMin_r q3)) < (minL_r (noMin_r q0) (noMin_r q1)) then (0 : Int32) else (if (maxL_r (noMin_r q0) (noMin_r q1)) < (minL_r (noMin_r q2) (noMin_r q3)) then (0 : Int32) else (1 : Int32))) = (0 : Int32) then (if (minL_r (noMin_r q2) (noMin_r q3)) < (minL_r (noMin_r q0) (noMin_r q1)) then (1 : Int32) else (0 : Int32)) else (0 : Int32))), .unset] [(.int (1 : Int32))])) t
        refine XS.goto X93.here hx rfl (pc0 := 163) (pc' := 167) rfl (hb hby at_163) (by decide) (by decide) ?_
        try simp only [if_pos hc151, if_pos hc159] at k
        try simp only [if_pos hc151, if_pos hc159]
        exact k
      · show Steps p.tables e below (T93.setTop (mkF m 159 #[.val (.long q0), .second, .val (.long q1), .second, .val (.long q2), .second, .val (.long q3), .second, .val (.int p4), .val (.int p5), .val (.long (noMin_r q0)), .second, .val (.long (noMin_r q1)), .second, .val (.long (noMin_r q2)), .second, .val (.long (noMin_r q3)), .second, .val (.long (minL_r (noMin_r q0) (noMin_r q1))), .second, .val (.long (maxL_r (noMin_r q0) (noMin_r q1))), .second, .val (.long (minL_r (noMin_r q2) (noMin_r q3))), .second, .val (.long (maxL_r (noMin_r q2) (noMin_r q3))), .second, .val (.ref b60), .val (.ref b79), .val (.int (if (maxL_r (noMin_r q2) (noMin_r q3)) < (minL_r (noMin_r q0) (noMin_r q1)) then (0 : Int32) else (if (maxL_r (noMin_r q0) (noMin_r q1)) < (minL_r (noMin_r q2) (noMin_r q3)) then (0 : Int32) else (1 : Int32)))), .val (.int (if (if (maxL_r (noMin_r q2) (noMin_r q3)) < (minL_r (noMin_r q0) (noMin_r q1)) then (0 : Int32) else (if (maxL_r (noMin_r q0) (noMin_r q1)) < (minL_r (noMin_r q2) (noMin_r q3)) then (0 : Int32) else (1 : Int32))) = (0 : Int32) then (if (minL_r (noMin_r q2) (noMin_r q3)) < (minL_r (noMin_r q0) (noMin_r q1)) then (1 : Int32) else (0 : Int32)) else (0 : Int32))), .unset] [(.int (Jvm.Free.XT.cmpL (minL_r (noMin_r q2) (noMin_r q3)) (minL_r (noMin_r q0) (noMin_r q1))))])) t
        refine XS.ifYes X93.here hx rfl (pc0 := 159) (pc' := 166) rfl (hb hby at_159) rfl (Jvm.Free.XT.ll_le_t hc159) (by decide) (by decide) ?_
        show Steps p.tables e below (T93.setTop (mkF m 166 #[.val (.long q0), .second, .val (.long q1), .second, .val (.long q2), .second, .val (.long q3), .second, .val (.int p4), .val (.int p5), .val (.long (noMin_r q0)), .second, .val (.long (noMin_r q1)), .second, .val (.long (noMin_r q2)), .second, .val (.long (noMin_r q3)), .second, .val (.long (minL_r (noMin_r q0) (noMin_r q1))), .second, .val (.long (maxL_r (noMin_r q0) (noMin_r q1))), .second, .val (.long (minL_r (noMin_r q2) (noMin_r q3))), .second, .val (.long (maxL_r (noMin_r q2) (noMin_r q3))), .second, .val (.ref b60), .val (.ref b79), .val (.int (if (maxL_r (noMin_r q2) (noMin_r q3)) < (minL_r (noMin_r q0) (noMin_r q1)) then (0 : Int32) else (if (maxL_r (noMin_r q0) (noMin_r q1)) < (minL_r (noMin_r q2) (noMin_r q3)) then (0 : Int32) else (1 : Int32)))), .val (.int (if (if (maxL_r (noMin_r q2) (noMin_r q3)) < (minL_r (noMin_r q0) (noMin_r q1)) then (0 : Int32) else (if (maxL_r (noMin_r q0) (noMin_r q1)) < (minL_r (noMin_r q2) (noMin_r q3)) then (0 : Int32) else (1 : Int32))) = (0 : Int32) then (if (minL_r (noMin_r q2) (noMin_r q3)) < (minL_r (noMin_r q0) (noMin_r q1)) then (1 : Int32) else (0 : Int32)) else (0 : Int32))), .unset] [])) t
        refine XS.iconst X93.here hx rfl (hb hby at_166) ?_
        try simp only [if_pos hc151, if_neg hc159] at k
        try simp only [if_pos hc151, if_neg hc159]
        exact k
    · show Steps p.tables e below (T93.setTop (mkF m 151 #[.val (.long q0), .second, .val (.long q1), .second, .val (.long q2), .second, .val (.long q3), .second, .val (.int p4), .val (.int p5), .val (.long (noMin_r q0)), .second, .val (.long (noMin_r q1)), .second, .val (.long (noMin_r q2)), .second, .val (.long (noMin_r q3)), .second, .val (.long (minL_r (noMin_r q0) (noMin_r q1))), .second, .val (.long (maxL_r (noMin_r q0) (noMin_r q1))), .second, .val (.long (minL_r (noMin_r q2) (noMin_r q3))), .second, .val (.long (maxL_r (noMin_r q2) (noMin_r q3))), .second, .val (.ref b60), .val (.ref b79), .val (.int (if (maxL_r (noMin_r q2) (noMin_r q3)) < (minL_r (noMin_r q0) (noMin_r q1)) then (0 : Int32) else (if (maxL_r (noMin_r q0) (noMin_r q1)) < (minL_r (noMin_r q2) (noMin_r q3)) then (0 : Int32) else (1 : Int32)))), .val (.int (if (if (maxL_r (noMin_r q2) (noMin_r q3)) < (minL_r (noMin_r q0) (noMin_r q1)) then (0 : Int32) else (if (maxL_r (noMin_r q0) (noMin_r q1)) < (minL_r (noMin_r q2) (noMin_r q3)) then (0 : Int32) else (1 : Int32))) = (0 : Int32) then (if (minL_r (noMin_r q2) (noMin_r q3)) < (minL_r (noMin_r q0) (noMin_r q1)) then (1 : Int32) else (0 : Int32)) else (0 : Int32))), .unset] [(.int (if (maxL_r (noMin_r q2) (noMin_r q3)) < (minL_r (noMin_r q0) (noMin_r q1)) then (0 : Int32) else (if (maxL_r (noMin_r q0) (noMin_r q1)) < (minL_r (noMin_r q2) (noMin_r q3)) then (0 : Int32) else (1 : Int32))))])) t
      refine XS.ifYes X93.here hx rfl (pc0 := 151) (pc' := 166) rfl (hb hby at_151) rfl ((if0 _ _).trans (feq hc151).2) (by decide) (by decide) ?_
      show Steps p.tables e below (T93.setTop (mkF m 166 #[.val (.long q0), .second, .val (.long q1), .second, .val (.long q2), .second, .val (.long q3), .second, .val (.int p4), .val (.int p5), .val (.long (noMin_r q0)), .second, .val (.long (noMin_r q1)), .second, .val (.long (noMin_r q2)), .second, .val (.long (noMin_r q3)), .second, .val (.long (minL_r (noMin_r q0) (noMin_r q1))), .second, .val (.long (maxL_r (noMin_r q0) (noMin_r q1))), .second, .val (.long (minL_r (noMin_r q2) (noMin_r q3))), .second, .val (.long (maxL_r (noMin_r q2) (noMin_r q3))), .second, .val (.ref b60), .val (.ref b79), .val (.int (if (maxL_r (noMin_r q2) (noMin_r q3)) < (minL_r (noMin_r q0) (noMin_r q1)) then (0 : Int32) else (if (maxL_r (noMin_r q0) (noMin_r q1)) < (minL_r (noMin_r q2) (noMin_r q3)) then (0 : Int32) else (1 : Int32)))), .val (.int (if (if (maxL_r (noMin_r q2) (noMin_r q3)) < (minL_r (noMin_r q0) (noMin_r q1)) then (0 : Int32) else (if (maxL_r (noMin_r q0) (noMin_r q1)) < (minL_r (noMin_r q2) (noMin_r q3)) then (0 : Int32) else (1 : Int32))) = (0 : Int32) then (if (minL_r (noMin_r q2) (noMin_r q3)) < (minL_r (noMin_r q0) (noMin_r q1)) then (1 : Int32) else (0 : Int32)) else (0 : Int32))), .unset] [])) t
      refine XS.iconst X93.here hx rfl (hb hby at_166) ?_
      try simp only [if_neg hc151] at k
      try simp only [if_neg hc151]
      exact k
  refine own_go (S' := T93.setTop (mkF m 173 #[.val (.long q0), .second, .val (.long q1), .second, .val (.long q2), .second, .val (.long q3), .second, .val (.int p4), .val (.int p5), .val (.long (noMin_r q0)), .second, .val (.long (noMin_r q1)), .second, .val (.long (noMin_r q2)), .second, .val (.long (noMin_r q3)), .second, .val (.long (minL_r (noMin_r q0) (noMin_r q1))), .second, .val (.long (maxL_r (noMin_r q0) (noMin_r q1))), .second, .val (.long (minL_r (noMin_r q2) (noMin_r q3))), .second, .val (.long (maxL_r (noMin_r q2) (noMin_r q3))), .second, .val (.ref b60), .val (.ref b79), .val (.int (if (maxL_r (noMin_r q2) (noMin_r q3)) < (minL_r (noMin_r q0) (noMin_r q1)) then (0 : Int32) else (if (maxL_r (noMin_r q0) (noMin_r q1)) < (minL_r (noMin_r q2) (noMin_r q3)) then (0 : Int32) else (1 : Int32)))), .val (.int (if (if (maxL_r (noMin_r q2) (noMin_r q3)) < (minL_r (noMin_r q0) (noMin_r q1)) then (0 : Int32) else (if (maxL_r (noMin_r q0) (noMin_r q1)) < (minL_r (noMin_r q2) (noMin_r q3)) then (0 : Int32) else (1 : Int32))) = (0 : Int32) then (if (minL_r (noMin_r q2) (noMin_r q3)) < (minL_r (noMin_r q0) (noMin_r q1)) then (1 : Int32) else (0 : Int32)) else (0 : Int32))), .val (.int (if (if (maxL_r (noMin_r q2) (noMin_r q3)) < (minL_r (noMin_r q0) (noMin_r q1)) then (0 : Int32) else (if (maxL_r (noMin_r q0) (noMin_r q1)) < (minL_r (noMin_r q2) (noMin_r q3)) then (0 : Int32) else (1 : Int32))) = (0 : Int32) then (if (minL_r (noMin_r q0) (noMin_r q1)) < (minL_r (noMin_r q2) (noMin_r q3)) then (1 : Int32) else (0 : Int32)) else (0 : Int32)))] [(.ref b79), (.ref b60)])) (fun t k => ?_) ?_
  · show Steps p.tables e below (T93.setTop (mkF m 167 #[.val (.long q0), .second, .val (.long q1), .second, .val (.long q2), .second, .val (.long q3), .second, .val (.int p4), .val (.int p5), .val (.long (noMin_r q0)), .second, .val (.long (noMin_r q1)), .second, .val (.long (noMin_r q2)), .second, .val (.long (noMin_r q3)), .second, .val (.long (minL_r (noMin_r q0) (noMin_r q1))), .second, .val (.long (maxL_r (noMin_r q0) (noMin_r q1))), .second, .val (.long (minL_r (noMin_r q2) (noMin_r q3))), .second, .val (.long (maxL_r (noMin_r q2) (noMin_r q3))), .second, .val (.ref b60), .val (.ref b79), .val (.int (if (maxL_r (noMin_r q2) (noMin_r q3)) < (minL_r (noMin_r q0) (noMin_r q1)) then (0 : Int32) else (if (maxL_r (noMin_r q0) (noMin_r q1)) < (minL_r (noMin_r q2) (noMin_r q3)) then (0 : Int32) else (1 : Int32)))), .val (.int (if (if (maxL_r (noMin_r q2) (noMin_r q3)) < (minL_r (noMin_r q0) (noMin_r q1)) then (0 : Int32) else (if (maxL_r (noMin_r q0) (noMin_r q1)) < (minL_r (noMin_r q2) (noMin_r q3)) then (0 : Int32) else (1 : Int32))) = (0 : Int32) then (if (minL_r (noMin_r q2) (noMin_r q3)) < (minL_r (noMin_r q0) (noMin_r q1)) then (1 : Int32) else (0 : Int32)) else (0 : Int32))), .unset] [(.int (if (if (maxL_r (noMin_r q2) (noMin_r q3)) < (minL_r (noMin_r q0) (noMin_r q1)) then (0 : Int32) else (if (maxL_r (noMin_r q0) (noMin_r q1)) < (minL_r (noMin_r q2) (noMin_r q3)) then (0 : Int32) else (1 : Int32))) = (0 : Int32) then (if (minL_r (noMin_r q0) (noMin_r q1)) < (minL_r (noMin_r q2) (noMin_r q3)) then (1 : Int32) else (0 : Int32)) else (0 : Int32)))])) t
    refine XS.istore X93.here hx rfl (hb hby at_167) rfl (l' := #[.val (.long q0), .second, .val (.long q1), .second, .val (.long q2), .second, .val (.long q3), .second, .val (.int p4), .val (.int p5), .val (.long (noMin_r q0)), .second, .val (.long (noMin_r q1)), .second, .val (.long (noMin_r q2)), .second, .val (.long (noMin_r q3)), .second, .val (.long (minL_r (noMin_r q0) (noMin_r q1))), .second, .val (.long (maxL_r (noMin_r q0) (noMin_r q1))), .second, .val (.long (minL_r (noMin_r q2) (noMin_r q3))), .second, .val (.long (maxL_r (noMin_r q2) (noMin_r q3))), .second, .val (.ref b60), .val (.ref b79), .val (.int (if (maxL_r (noMin_r q2) (noMin_r q3)) < (minL_r (noMin_r q0) (noMin_r q1)) then (0 : Int32) else (if (maxL_r (noMin_r q0) (noMin_r q1)) < (minL_r (noMin_r q2) (noMin_r q3)) then (0 : Int32) else (1 : Int32)))), .val (.int (if (if (maxL_r (noMin_r q2) (noMin_r q3)) < (minL_r (noMin_r q0) (noMin_r q1)) then (0 : Int32) else (if (maxL_r (noMin_r q0) (noMin_r q1)) < (minL_r (noMin_r q2) (noMin_r q3)) then (0 : Int32) else (1 : Int32))) = (0 : Int32) then (if (minL_r (noMin_r q2) (noMin_r q3)) < (minL_r (noMin_r q0) (noMin_r q1)) then (1 : Int32) else (0 : Int32)) else (0 : Int32))), .val (.int (if (if (maxL_r (noMin_r q2) (noMin_r q3)) < (minL_r (noMin_r q0) (noMin_r q1)) then (0 : Int32) else (if (maxL_r (noMin_r q0) (noMin_r q1)) < (minL_r (noMin_r q2) (noMin_r q3)) then (0 : Int32) else (1 : Int32))) = (0 : Int32) then (if (minL_r (noMin_r q0) (noMin_r q1)) < (minL_r (noMin_r q2) (noMin_r q3)) then (1 : Int32) else (0 : Int32)) else (0 : Int32)))]) rfl ?_
    show Steps p.tables e below (T93.setTop (mkF m 169 #[.val (.long q0), .second, .val (.long q1), .second, .val (.long q2), .second, .val (.long q3), .second, .val (.int p4), .val (.int p5), .val (.long (noMin_r q0)), .second, .val (.long (noMin_r q1)), .second, .val (.long (noMin_r q2)), .second, .val (.long (noMin_r q3)), .second, .val (.long (minL_r (noMin_r q0) (noMin_r q1))), .second, .val (.long (maxL_r (noMin_r q0) (noMin_r q1))), .second, .val (.long (minL_r (noMin_r q2) (noMin_r q3))), .second, .val (.long (maxL_r (noMin_r q2) (noMin_r q3))), .second, .val (.ref b60), .val (.ref b79), .val (.int (if (maxL_r (noMin_r q2) (noMin_r q3)) < (minL_r (noMin_r q0) (noMin_r q1)) then (0 : Int32) else (if (maxL_r (noMin_r q0) (noMin_r q1)) < (minL_r (noMin_r q2) (noMin_r q3)) then (0 : Int32) else (1 : Int32)))), .val (.int (if (if (maxL_r (noMin_r q2) (noMin_r q3)) < (minL_r (noMin_r q0) (noMin_r q1)) then (0 : Int32) else (if (maxL_r (noMin_r q0) (noMin_r q1)) < (minL_r (noMin_r q2) (noMin_r q3)) then (0 : Int32) else (1 : Int32))) = (0 : Int32) then (if (minL_r (noMin_r q2) (noMin_r q3)) < (minL_r (noMin_r q0) (noMin_r q1)) then (1 : Int32) else (0 : Int32)) else (0 : Int32))), .val (.int (if (if (maxL_r (noMin_r q2) (noMin_r q3)) < (minL_r (noMin_r q0) (noMin_r q1)) then (0 : Int32) else (if (maxL_r (noMin_r q0) (noMin_r q1)) < (minL_r (noMin_r q2) (noMin_r q3)) then (0 : Int32) else (1 : Int32))) = (0 : Int32) then (if (minL_r (noMin_r q0) (noMin_r q1)) < (minL_r (noMin_r q2) (noMin_r q3)) then (1 : Int32) else (0 : Int32)) else (0 : Int32)))] [])) t
    refine XS.aload X93.here hx rfl (hb hby at_169) rfl rfl ?_
    show Steps p.tables e below (T93.setTop (mkF m 171 #[.val (.long q0), .second, .val (.long q1), .second, .val (.long q2), .second, .val (.long q3), .second, .val (.int p4), .val (.int p5), .val (.long (noMin_r q0)), .second, .val (.long (noMin_r q1)), .second, .val (.long (noMin_r q2)), .second, .val (.long (noMin_r q3)), .second, .val (.long (minL_r (noMin_r q0) (noMin_r q1))), .second, .val (.long (maxL_r (noMin_r q0) (noMin_r q1))), .second, .val (.long (minL_r (noMin_r q2) (noMin_r q3))), .second, .val (.long (maxL_r (noMin_r q2) (noMin_r q3))), .second, .val (.ref b60), .val (.ref b79), .val (.int (if (maxL_r (noMin_r q2) (noMin_r q3)) < (minL_r (noMin_r q0) (noMin_r q1)) then (0 : Int32) else (if (maxL_r (noMin_r q0) (noMin_r q1)) < (minL_r (noMin_r q2) (noMin_r q3)) then (0 : Int32) else (1 : Int32)))), .val (.int (if (if (maxL_r (noMin_r q2) (noMin_r q3)) < (minL_r (noMin_r q0) (noMin_r q1)) then (0 : Int32) else (if (maxL_r (noMin_r q0) (noMin_r q1)) < (minL_r (noMin_r q2) (noMin_r q3)) then (0 : Int32) else (1 : Int32))) = (0 : Int32) then (if (minL_r (noMin_r q2) (noMin_r q3)) < (minL_r (noMin_r q0) (noMin_r q1)) then (1 : Int32) else (0 : Int32)) else (0 : Int32))), .val (.int (if (if (maxL_r (noMin_r q2) (noMin_r q3)) < (minL_r (noMin_r q0) (noMin_r q1)) then (0 : Int32) else (if (maxL_r (noMin_r q0) (noMin_r q1)) < (minL_r (noMin_r q2) (noMin_r q3)) then (0 : Int32) else (1 : Int32))) = (0 : Int32) then (if (minL_r (noMin_r q0) (noMin_r q1)) < (minL_r (noMin_r q2) (noMin_r q3)) then (1 : Int32) else (0 : Int32)) else (0 : Int32)))] [(.ref b60)])) t
    refine XS.aload X93.here hx rfl (hb hby at_171) rfl rfl ?_
    exact k
  obtain ⟨cq107, kq107, qa107, qb107, qc107⟩ := isOf hZ rfl f101
  obtain ⟨_, _, ⟨T107, L107, kk107, nn107⟩, -, X107, ⟨Lc107, hQ107, l107, y107, z107⟩, st107⟩ := X93.virtualBack hx (y := (⟨"com/example/sure_sequence/suresequence/RegionRange", "isAbove", "(Lcom/example/sure_sequence/suresequence/RegionRange;)Z"⟩ : MethodName)) (z := (⟨"com/example/sure_sequence/suresequence/RegionRange", "isAbove", "(Lcom/example/sure_sequence/suresequence/RegionRange;)Z"⟩ : MethodName)) hown (mvT hZ (hw _ (List.mem_of_getElem? (i := 30) rfl))) (mvT hZ (hw _ (List.mem_of_getElem? (i := 31) rfl))) (notFace_of_selects (args := #[]) (mvT hZ (hw _ (List.mem_of_getElem? (i := 33) rfl)))) (mvT hZ (hw _ (List.mem_of_getElem? (i := 33) rfl))) (mvT hZ (hw _ (List.mem_of_getElem? (i := 32) rfl))) (by decide) (backOf (W := 0) (above l Z a0 hw [] b60 b79 (minL_r (noMin_r q0) (noMin_r q1)) (maxL_r (noMin_r q2) (noMin_r q3)) T93.heap n0 Z106 f102 p98) hZ (hw _ (List.mem_of_getElem? (i := 34) rfl)) (hw _ (List.mem_of_getElem? (i := 14) rfl)) (by decide) (by decide)) qa107 qc107 (g := (mkF m 173 #[.val (.long q0), .second, .val (.long q1), .second, .val (.long q2), .second, .val (.long q3), .second, .val (.int p4), .val (.int p5), .val (.long (noMin_r q0)), .second, .val (.long (noMin_r q1)), .second, .val (.long (noMin_r q2)), .second, .val (.long (noMin_r q3)), .second, .val (.long (minL_r (noMin_r q0) (noMin_r q1))), .second, .val (.long (maxL_r (noMin_r q0) (noMin_r q1))), .second, .val (.long (minL_r (noMin_r q2) (noMin_r q3))), .second, .val (.long (maxL_r (noMin_r q2) (noMin_r q3))), .second, .val (.ref b60), .val (.ref b79), .val (.int (if (maxL_r (noMin_r q2) (noMin_r q3)) < (minL_r (noMin_r q0) (noMin_r q1)) then (0 : Int32) else (if (maxL_r (noMin_r q0) (noMin_r q1)) < (minL_r (noMin_r q2) (noMin_r q3)) then (0 : Int32) else (1 : Int32)))), .val (.int (if (if (maxL_r (noMin_r q2) (noMin_r q3)) < (minL_r (noMin_r q0) (noMin_r q1)) then (0 : Int32) else (if (maxL_r (noMin_r q0) (noMin_r q1)) < (minL_r (noMin_r q2) (noMin_r q3)) then (0 : Int32) else (1 : Int32))) = (0 : Int32) then (if (minL_r (noMin_r q2) (noMin_r q3)) < (minL_r (noMin_r q0) (noMin_r q1)) then (1 : Int32) else (0 : Int32)) else (0 : Int32))), .val (.int (if (if (maxL_r (noMin_r q2) (noMin_r q3)) < (minL_r (noMin_r q0) (noMin_r q1)) then (0 : Int32) else (if (maxL_r (noMin_r q0) (noMin_r q1)) < (minL_r (noMin_r q2) (noMin_r q3)) then (0 : Int32) else (1 : Int32))) = (0 : Int32) then (if (minL_r (noMin_r q0) (noMin_r q1)) < (minL_r (noMin_r q2) (noMin_r q3)) then (1 : Int32) else (0 : Int32)) else (0 : Int32)))] [(.ref b79), (.ref b60)])) rfl (by rw [hml]; rfl) (Steps.refl _) (argsL := [(.ref b79)]) (rest := []) (lenOf pd_90 rfl) rfl (by show 2 * 0 + _ ≤ _; exact Nat.le_of_eq rfl) (hb hby at_173) (fun _ _ => ⟨rfl, rfl, (by decide : 2 + 0 ≤ _), (by decide : 6 + 0 ≤ _)⟩)
  dsimp only [Pt.U, Pt.locs, Pt.cells, Pt.slots] at X107 l107 y107 z107 st107 hQ107
  subst l107 y107 z107
  obtain ⟨rfl, N108, e107⟩ := hQ107
  have N110 := Fr.app N100 N108
  refine own_goT st107 ?_
  refine own_go (S' := T107.setTop (mkF m 178 #[.val (.long q0), .second, .val (.long q1), .second, .val (.long q2), .second, .val (.long q3), .second, .val (.int p4), .val (.int p5), .val (.long (noMin_r q0)), .second, .val (.long (noMin_r q1)), .second, .val (.long (noMin_r q2)), .second, .val (.long (noMin_r q3)), .second, .val (.long (minL_r (noMin_r q0) (noMin_r q1))), .second, .val (.long (maxL_r (noMin_r q0) (noMin_r q1))), .second, .val (.long (minL_r (noMin_r q2) (noMin_r q3))), .second, .val (.long (maxL_r (noMin_r q2) (noMin_r q3))), .second, .val (.ref b60), .val (.ref b79), .val (.int (if (maxL_r (noMin_r q2) (noMin_r q3)) < (minL_r (noMin_r q0) (noMin_r q1)) then (0 : Int32) else (if (maxL_r (noMin_r q0) (noMin_r q1)) < (minL_r (noMin_r q2) (noMin_r q3)) then (0 : Int32) else (1 : Int32)))), .val (.int (if (if (maxL_r (noMin_r q2) (noMin_r q3)) < (minL_r (noMin_r q0) (noMin_r q1)) then (0 : Int32) else (if (maxL_r (noMin_r q0) (noMin_r q1)) < (minL_r (noMin_r q2) (noMin_r q3)) then (0 : Int32) else (1 : Int32))) = (0 : Int32) then (if (minL_r (noMin_r q2) (noMin_r q3)) < (minL_r (noMin_r q0) (noMin_r q1)) then (1 : Int32) else (0 : Int32)) else (0 : Int32))), .val (.int (if (if (maxL_r (noMin_r q2) (noMin_r q3)) < (minL_r (noMin_r q0) (noMin_r q1)) then (0 : Int32) else (if (maxL_r (noMin_r q0) (noMin_r q1)) < (minL_r (noMin_r q2) (noMin_r q3)) then (0 : Int32) else (1 : Int32))) = (0 : Int32) then (if (minL_r (noMin_r q0) (noMin_r q1)) < (minL_r (noMin_r q2) (noMin_r q3)) then (1 : Int32) else (0 : Int32)) else (0 : Int32)))] [(.int (if (if (maxL_r (noMin_r q2) (noMin_r q3)) < (minL_r (noMin_r q0) (noMin_r q1)) then (0 : Int32) else (if (maxL_r (noMin_r q0) (noMin_r q1)) < (minL_r (noMin_r q2) (noMin_r q3)) then (0 : Int32) else (1 : Int32))) = (0 : Int32) then (if (minL_r (noMin_r q2) (noMin_r q3)) < (minL_r (noMin_r q0) (noMin_r q1)) then (1 : Int32) else (0 : Int32)) else (0 : Int32))), (.int (above_r (minL_r (noMin_r q0) (noMin_r q1)) (maxL_r (noMin_r q2) (noMin_r q3))))])) (fun t k => ?_) ?_
  · show Steps p.tables e below (T107.setTop (mkF m 176 #[.val (.long q0), .second, .val (.long q1), .second, .val (.long q2), .second, .val (.long q3), .second, .val (.int p4), .val (.int p5), .val (.long (noMin_r q0)), .second, .val (.long (noMin_r q1)), .second, .val (.long (noMin_r q2)), .second, .val (.long (noMin_r q3)), .second, .val (.long (minL_r (noMin_r q0) (noMin_r q1))), .second, .val (.long (maxL_r (noMin_r q0) (noMin_r q1))), .second, .val (.long (minL_r (noMin_r q2) (noMin_r q3))), .second, .val (.long (maxL_r (noMin_r q2) (noMin_r q3))), .second, .val (.ref b60), .val (.ref b79), .val (.int (if (maxL_r (noMin_r q2) (noMin_r q3)) < (minL_r (noMin_r q0) (noMin_r q1)) then (0 : Int32) else (if (maxL_r (noMin_r q0) (noMin_r q1)) < (minL_r (noMin_r q2) (noMin_r q3)) then (0 : Int32) else (1 : Int32)))), .val (.int (if (if (maxL_r (noMin_r q2) (noMin_r q3)) < (minL_r (noMin_r q0) (noMin_r q1)) then (0 : Int32) else (if (maxL_r (noMin_r q0) (noMin_r q1)) < (minL_r (noMin_r q2) (noMin_r q3)) then (0 : Int32) else (1 : Int32))) = (0 : Int32) then (if (minL_r (noMin_r q2) (noMin_r q3)) < (minL_r (noMin_r q0) (noMin_r q1)) then (1 : Int32) else (0 : Int32)) else (0 : Int32))), .val (.int (if (if (maxL_r (noMin_r q2) (noMin_r q3)) < (minL_r (noMin_r q0) (noMin_r q1)) then (0 : Int32) else (if (maxL_r (noMin_r q0) (noMin_r q1)) < (minL_r (noMin_r q2) (noMin_r q3)) then (0 : Int32) else (1 : Int32))) = (0 : Int32) then (if (minL_r (noMin_r q0) (noMin_r q1)) < (minL_r (noMin_r q2) (noMin_r q3)) then (1 : Int32) else (0 : Int32)) else (0 : Int32)))] [(.int (above_r (minL_r (noMin_r q0) (noMin_r q1)) (maxL_r (noMin_r q2) (noMin_r q3))))])) t
    refine XS.iload X107.here hx rfl (hb hby at_176) rfl ?_
    exact k
  by_cases hc178 : (above_r (minL_r (noMin_r q0) (noMin_r q1)) (maxL_r (noMin_r q2) (noMin_r q3))) = (if (if (maxL_r (noMin_r q2) (noMin_r q3)) < (minL_r (noMin_r q0) (noMin_r q1)) then (0 : Int32) else (if (maxL_r (noMin_r q0) (noMin_r q1)) < (minL_r (noMin_r q2) (noMin_r q3)) then (0 : Int32) else (1 : Int32))) = (0 : Int32) then (if (minL_r (noMin_r q2) (noMin_r q3)) < (minL_r (noMin_r q0) (noMin_r q1)) then (1 : Int32) else (0 : Int32)) else (0 : Int32))
  · skip
    refine own_go (S' := T107.setTop (mkF m 185 #[.val (.long q0), .second, .val (.long q1), .second, .val (.long q2), .second, .val (.long q3), .second, .val (.int p4), .val (.int p5), .val (.long (noMin_r q0)), .second, .val (.long (noMin_r q1)), .second, .val (.long (noMin_r q2)), .second, .val (.long (noMin_r q3)), .second, .val (.long (minL_r (noMin_r q0) (noMin_r q1))), .second, .val (.long (maxL_r (noMin_r q0) (noMin_r q1))), .second, .val (.long (minL_r (noMin_r q2) (noMin_r q3))), .second, .val (.long (maxL_r (noMin_r q2) (noMin_r q3))), .second, .val (.ref b60), .val (.ref b79), .val (.int (if (maxL_r (noMin_r q2) (noMin_r q3)) < (minL_r (noMin_r q0) (noMin_r q1)) then (0 : Int32) else (if (maxL_r (noMin_r q0) (noMin_r q1)) < (minL_r (noMin_r q2) (noMin_r q3)) then (0 : Int32) else (1 : Int32)))), .val (.int (if (if (maxL_r (noMin_r q2) (noMin_r q3)) < (minL_r (noMin_r q0) (noMin_r q1)) then (0 : Int32) else (if (maxL_r (noMin_r q0) (noMin_r q1)) < (minL_r (noMin_r q2) (noMin_r q3)) then (0 : Int32) else (1 : Int32))) = (0 : Int32) then (if (minL_r (noMin_r q2) (noMin_r q3)) < (minL_r (noMin_r q0) (noMin_r q1)) then (1 : Int32) else (0 : Int32)) else (0 : Int32))), .val (.int (if (if (maxL_r (noMin_r q2) (noMin_r q3)) < (minL_r (noMin_r q0) (noMin_r q1)) then (0 : Int32) else (if (maxL_r (noMin_r q0) (noMin_r q1)) < (minL_r (noMin_r q2) (noMin_r q3)) then (0 : Int32) else (1 : Int32))) = (0 : Int32) then (if (minL_r (noMin_r q0) (noMin_r q1)) < (minL_r (noMin_r q2) (noMin_r q3)) then (1 : Int32) else (0 : Int32)) else (0 : Int32)))] [(.ref b60), (.ref b79)])) (fun t k => ?_) ?_
    · show Steps p.tables e below (T107.setTop (mkF m 178 #[.val (.long q0), .second, .val (.long q1), .second, .val (.long q2), .second, .val (.long q3), .second, .val (.int p4), .val (.int p5), .val (.long (noMin_r q0)), .second, .val (.long (noMin_r q1)), .second, .val (.long (noMin_r q2)), .second, .val (.long (noMin_r q3)), .second, .val (.long (minL_r (noMin_r q0) (noMin_r q1))), .second, .val (.long (maxL_r (noMin_r q0) (noMin_r q1))), .second, .val (.long (minL_r (noMin_r q2) (noMin_r q3))), .second, .val (.long (maxL_r (noMin_r q2) (noMin_r q3))), .second, .val (.ref b60), .val (.ref b79), .val (.int (if (maxL_r (noMin_r q2) (noMin_r q3)) < (minL_r (noMin_r q0) (noMin_r q1)) then (0 : Int32) else (if (maxL_r (noMin_r q0) (noMin_r q1)) < (minL_r (noMin_r q2) (noMin_r q3)) then (0 : Int32) else (1 : Int32)))), .val (.int (if (if (maxL_r (noMin_r q2) (noMin_r q3)) < (minL_r (noMin_r q0) (noMin_r q1)) then (0 : Int32) else (if (maxL_r (noMin_r q0) (noMin_r q1)) < (minL_r (noMin_r q2) (noMin_r q3)) then (0 : Int32) else (1 : Int32))) = (0 : Int32) then (if (minL_r (noMin_r q2) (noMin_r q3)) < (minL_r (noMin_r q0) (noMin_r q1)) then (1 : Int32) else (0 : Int32)) else (0 : Int32))), .val (.int (if (if (maxL_r (noMin_r q2) (noMin_r q3)) < (minL_r (noMin_r q0) (noMin_r q1)) then (0 : Int32) else (if (maxL_r (noMin_r q0) (noMin_r q1)) < (minL_r (noMin_r q2) (noMin_r q3)) then (0 : Int32) else (1 : Int32))) = (0 : Int32) then (if (minL_r (noMin_r q0) (noMin_r q1)) < (minL_r (noMin_r q2) (noMin_r q3)) then (1 : Int32) else (0 : Int32)) else (0 : Int32)))] [(.int (if (if (maxL_r (noMin_r q2) (noMin_r q3)) < (minL_r (noMin_r q0) (noMin_r q1)) then (0 : Int32) else (if (maxL_r (noMin_r q0) (noMin_r q1)) < (minL_r (noMin_r q2) (noMin_r q3)) then (0 : Int32) else (1 : Int32))) = (0 : Int32) then (if (minL_r (noMin_r q2) (noMin_r q3)) < (minL_r (noMin_r q0) (noMin_r q1)) then (1 : Int32) else (0 : Int32)) else (0 : Int32))), (.int (above_r (minL_r (noMin_r q0) (noMin_r q1)) (maxL_r (noMin_r q2) (noMin_r q3))))])) t
      refine XS.icmpNo X107.here hx rfl (hb hby at_178) rfl (teq hc178).2 ?_
      show Steps p.tables e below (T107.setTop (mkF m 181 #[.val (.long q0), .second, .val (.long q1), .second, .val (.long q2), .second, .val (.long q3), .second, .val (.int p4), .val (.int p5), .val (.long (noMin_r q0)), .second, .val (.long (noMin_r q1)), .second, .val (.long (noMin_r q2)), .second, .val (.long (noMin_r q3)), .second, .val (.long (minL_r (noMin_r q0) (noMin_r q1))), .second, .val (.long (maxL_r (noMin_r q0) (noMin_r q1))), .second, .val (.long (minL_r (noMin_r q2) (noMin_r q3))), .second, .val (.long (maxL_r (noMin_r q2) (noMin_r q3))), .second, .val (.ref b60), .val (.ref b79), .val (.int (if (maxL_r (noMin_r q2) (noMin_r q3)) < (minL_r (noMin_r q0) (noMin_r q1)) then (0 : Int32) else (if (maxL_r (noMin_r q0) (noMin_r q1)) < (minL_r (noMin_r q2) (noMin_r q3)) then (0 : Int32) else (1 : Int32)))), .val (.int (if (if (maxL_r (noMin_r q2) (noMin_r q3)) < (minL_r (noMin_r q0) (noMin_r q1)) then (0 : Int32) else (if (maxL_r (noMin_r q0) (noMin_r q1)) < (minL_r (noMin_r q2) (noMin_r q3)) then (0 : Int32) else (1 : Int32))) = (0 : Int32) then (if (minL_r (noMin_r q2) (noMin_r q3)) < (minL_r (noMin_r q0) (noMin_r q1)) then (1 : Int32) else (0 : Int32)) else (0 : Int32))), .val (.int (if (if (maxL_r (noMin_r q2) (noMin_r q3)) < (minL_r (noMin_r q0) (noMin_r q1)) then (0 : Int32) else (if (maxL_r (noMin_r q0) (noMin_r q1)) < (minL_r (noMin_r q2) (noMin_r q3)) then (0 : Int32) else (1 : Int32))) = (0 : Int32) then (if (minL_r (noMin_r q0) (noMin_r q1)) < (minL_r (noMin_r q2) (noMin_r q3)) then (1 : Int32) else (0 : Int32)) else (0 : Int32)))] [])) t
      refine XS.aload X107.here hx rfl (hb hby at_181) rfl rfl ?_
      show Steps p.tables e below (T107.setTop (mkF m 183 #[.val (.long q0), .second, .val (.long q1), .second, .val (.long q2), .second, .val (.long q3), .second, .val (.int p4), .val (.int p5), .val (.long (noMin_r q0)), .second, .val (.long (noMin_r q1)), .second, .val (.long (noMin_r q2)), .second, .val (.long (noMin_r q3)), .second, .val (.long (minL_r (noMin_r q0) (noMin_r q1))), .second, .val (.long (maxL_r (noMin_r q0) (noMin_r q1))), .second, .val (.long (minL_r (noMin_r q2) (noMin_r q3))), .second, .val (.long (maxL_r (noMin_r q2) (noMin_r q3))), .second, .val (.ref b60), .val (.ref b79), .val (.int (if (maxL_r (noMin_r q2) (noMin_r q3)) < (minL_r (noMin_r q0) (noMin_r q1)) then (0 : Int32) else (if (maxL_r (noMin_r q0) (noMin_r q1)) < (minL_r (noMin_r q2) (noMin_r q3)) then (0 : Int32) else (1 : Int32)))), .val (.int (if (if (maxL_r (noMin_r q2) (noMin_r q3)) < (minL_r (noMin_r q0) (noMin_r q1)) then (0 : Int32) else (if (maxL_r (noMin_r q0) (noMin_r q1)) < (minL_r (noMin_r q2) (noMin_r q3)) then (0 : Int32) else (1 : Int32))) = (0 : Int32) then (if (minL_r (noMin_r q2) (noMin_r q3)) < (minL_r (noMin_r q0) (noMin_r q1)) then (1 : Int32) else (0 : Int32)) else (0 : Int32))), .val (.int (if (if (maxL_r (noMin_r q2) (noMin_r q3)) < (minL_r (noMin_r q0) (noMin_r q1)) then (0 : Int32) else (if (maxL_r (noMin_r q0) (noMin_r q1)) < (minL_r (noMin_r q2) (noMin_r q3)) then (0 : Int32) else (1 : Int32))) = (0 : Int32) then (if (minL_r (noMin_r q0) (noMin_r q1)) < (minL_r (noMin_r q2) (noMin_r q3)) then (1 : Int32) else (0 : Int32)) else (0 : Int32)))] [(.ref b79)])) t
      refine XS.aload X107.here hx rfl (hb hby at_183) rfl rfl ?_
      exact k
    obtain ⟨cq111, kq111, qa111, qb111, qc111⟩ := isOf hZ e107 p96
    obtain ⟨_, _, ⟨T111, L111, kk111, nn111⟩, -, X111, ⟨Lc111, hQ111, l111, y111, z111⟩, st111⟩ := X107.virtualBack hx (y := (⟨"com/example/sure_sequence/suresequence/RegionRange", "isAbove", "(Lcom/example/sure_sequence/suresequence/RegionRange;)Z"⟩ : MethodName)) (z := (⟨"com/example/sure_sequence/suresequence/RegionRange", "isAbove", "(Lcom/example/sure_sequence/suresequence/RegionRange;)Z"⟩ : MethodName)) hown (mvT hZ (hw _ (List.mem_of_getElem? (i := 30) rfl))) (mvT hZ (hw _ (List.mem_of_getElem? (i := 31) rfl))) (notFace_of_selects (args := #[]) (mvT hZ (hw _ (List.mem_of_getElem? (i := 33) rfl)))) (mvT hZ (hw _ (List.mem_of_getElem? (i := 33) rfl))) (mvT hZ (hw _ (List.mem_of_getElem? (i := 32) rfl))) (by decide) (backOf (W := 0) (above l Z a0 hw [] b79 b60 (minL_r (noMin_r q2) (noMin_r q3)) (maxL_r (noMin_r q0) (noMin_r q1)) T93.heap n0 Z106 p97 f103) hZ (hw _ (List.mem_of_getElem? (i := 34) rfl)) (hw _ (List.mem_of_getElem? (i := 14) rfl)) (by decide) (by decide)) qa111 qc111 (g := (mkF m 185 #[.val (.long q0), .second, .val (.long q1), .second, .val (.long q2), .second, .val (.long q3), .second, .val (.int p4), .val (.int p5), .val (.long (noMin_r q0)), .second, .val (.long (noMin_r q1)), .second, .val (.long (noMin_r q2)), .second, .val (.long (noMin_r q3)), .second, .val (.long (minL_r (noMin_r q0) (noMin_r q1))), .second, .val (.long (maxL_r (noMin_r q0) (noMin_r q1))), .second, .val (.long (minL_r (noMin_r q2) (noMin_r q3))), .second, .val (.long (maxL_r (noMin_r q2) (noMin_r q3))), .second, .val (.ref b60), .val (.ref b79), .val (.int (if (maxL_r (noMin_r q2) (noMin_r q3)) < (minL_r (noMin_r q0) (noMin_r q1)) then (0 : Int32) else (if (maxL_r (noMin_r q0) (noMin_r q1)) < (minL_r (noMin_r q2) (noMin_r q3)) then (0 : Int32) else (1 : Int32)))), .val (.int (if (if (maxL_r (noMin_r q2) (noMin_r q3)) < (minL_r (noMin_r q0) (noMin_r q1)) then (0 : Int32) else (if (maxL_r (noMin_r q0) (noMin_r q1)) < (minL_r (noMin_r q2) (noMin_r q3)) then (0 : Int32) else (1 : Int32))) = (0 : Int32) then (if (minL_r (noMin_r q2) (noMin_r q3)) < (minL_r (noMin_r q0) (noMin_r q1)) then (1 : Int32) else (0 : Int32)) else (0 : Int32))), .val (.int (if (if (maxL_r (noMin_r q2) (noMin_r q3)) < (minL_r (noMin_r q0) (noMin_r q1)) then (0 : Int32) else (if (maxL_r (noMin_r q0) (noMin_r q1)) < (minL_r (noMin_r q2) (noMin_r q3)) then (0 : Int32) else (1 : Int32))) = (0 : Int32) then (if (minL_r (noMin_r q0) (noMin_r q1)) < (minL_r (noMin_r q2) (noMin_r q3)) then (1 : Int32) else (0 : Int32)) else (0 : Int32)))] [(.ref b60), (.ref b79)])) rfl (by rw [hml]; rfl) (Steps.refl _) (argsL := [(.ref b60)]) (rest := []) (lenOf pd_90 rfl) rfl (by show 2 * 0 + _ ≤ _; exact Nat.le_of_eq rfl) (hb hby at_185) (fun _ _ => ⟨rfl, e107, (by decide : 2 + 0 ≤ _), (by decide : 6 + 0 ≤ _)⟩)
    dsimp only [Pt.U, Pt.locs, Pt.cells, Pt.slots] at X111 l111 y111 z111 st111 hQ111
    subst l111 y111 z111
    obtain ⟨rfl, N112, e111⟩ := hQ111
    have N114 := Fr.app N110 N112
    refine own_goT st111 ?_
    refine own_go (S' := T111.setTop (mkF m 190 #[.val (.long q0), .second, .val (.long q1), .second, .val (.long q2), .second, .val (.long q3), .second, .val (.int p4), .val (.int p5), .val (.long (noMin_r q0)), .second, .val (.long (noMin_r q1)), .second, .val (.long (noMin_r q2)), .second, .val (.long (noMin_r q3)), .second, .val (.long (minL_r (noMin_r q0) (noMin_r q1))), .second, .val (.long (maxL_r (noMin_r q0) (noMin_r q1))), .second, .val (.long (minL_r (noMin_r q2) (noMin_r q3))), .second, .val (.long (maxL_r (noMin_r q2) (noMin_r q3))), .second, .val (.ref b60), .val (.ref b79), .val (.int (if (maxL_r (noMin_r q2) (noMin_r q3)) < (minL_r (noMin_r q0) (noMin_r q1)) then (0 : Int32) else (if (maxL_r (noMin_r q0) (noMin_r q1)) < (minL_r (noMin_r q2) (noMin_r q3)) then (0 : Int32) else (1 : Int32)))), .val (.int (if (if (maxL_r (noMin_r q2) (noMin_r q3)) < (minL_r (noMin_r q0) (noMin_r q1)) then (0 : Int32) else (if (maxL_r (noMin_r q0) (noMin_r q1)) < (minL_r (noMin_r q2) (noMin_r q3)) then (0 : Int32) else (1 : Int32))) = (0 : Int32) then (if (minL_r (noMin_r q2) (noMin_r q3)) < (minL_r (noMin_r q0) (noMin_r q1)) then (1 : Int32) else (0 : Int32)) else (0 : Int32))), .val (.int (if (if (maxL_r (noMin_r q2) (noMin_r q3)) < (minL_r (noMin_r q0) (noMin_r q1)) then (0 : Int32) else (if (maxL_r (noMin_r q0) (noMin_r q1)) < (minL_r (noMin_r q2) (noMin_r q3)) then (0 : Int32) else (1 : Int32))) = (0 : Int32) then (if (minL_r (noMin_r q0) (noMin_r q1)) < (minL_r (noMin_r q2) (noMin_r q3)) then (1 : Int32) else (0 : Int32)) else (0 : Int32)))] [(.int (if (if (maxL_r (noMin_r q2) (noMin_r q3)) < (minL_r (noMin_r q0) (noMin_r q1)) then (0 : Int32) else (if (maxL_r (noMin_r q0) (noMin_r q1)) < (minL_r (noMin_r q2) (noMin_r q3)) then (0 : Int32) else (1 : Int32))) = (0 : Int32) then (if (minL_r (noMin_r q0) (noMin_r q1)) < (minL_r (noMin_r q2) (noMin_r q3)) then (1 : Int32) else (0 : Int32)) else (0 : Int32))), (.int (above_r (minL_r (noMin_r q2) (noMin_r q3)) (maxL_r (noMin_r q0) (noMin_r q1))))])) (fun t k => ?_) ?_
    · show Steps p.tables e below (T111.setTop (mkF m 188 #[.val (.long q0), .second, .val (.long q1), .second, .val (.long q2), .second, .val (.long q3), .second, .val (.int p4), .val (.int p5), .val (.long (noMin_r q0)), .second, .val (.long (noMin_r q1)), .second, .val (.long (noMin_r q2)), .second, .val (.long (noMin_r q3)), .second, .val (.long (minL_r (noMin_r q0) (noMin_r q1))), .second, .val (.long (maxL_r (noMin_r q0) (noMin_r q1))), .second, .val (.long (minL_r (noMin_r q2) (noMin_r q3))), .second, .val (.long (maxL_r (noMin_r q2) (noMin_r q3))), .second, .val (.ref b60), .val (.ref b79), .val (.int (if (maxL_r (noMin_r q2) (noMin_r q3)) < (minL_r (noMin_r q0) (noMin_r q1)) then (0 : Int32) else (if (maxL_r (noMin_r q0) (noMin_r q1)) < (minL_r (noMin_r q2) (noMin_r q3)) then (0 : Int32) else (1 : Int32)))), .val (.int (if (if (maxL_r (noMin_r q2) (noMin_r q3)) < (minL_r (noMin_r q0) (noMin_r q1)) then (0 : Int32) else (if (maxL_r (noMin_r q0) (noMin_r q1)) < (minL_r (noMin_r q2) (noMin_r q3)) then (0 : Int32) else (1 : Int32))) = (0 : Int32) then (if (minL_r (noMin_r q2) (noMin_r q3)) < (minL_r (noMin_r q0) (noMin_r q1)) then (1 : Int32) else (0 : Int32)) else (0 : Int32))), .val (.int (if (if (maxL_r (noMin_r q2) (noMin_r q3)) < (minL_r (noMin_r q0) (noMin_r q1)) then (0 : Int32) else (if (maxL_r (noMin_r q0) (noMin_r q1)) < (minL_r (noMin_r q2) (noMin_r q3)) then (0 : Int32) else (1 : Int32))) = (0 : Int32) then (if (minL_r (noMin_r q0) (noMin_r q1)) < (minL_r (noMin_r q2) (noMin_r q3)) then (1 : Int32) else (0 : Int32)) else (0 : Int32)))] [(.int (above_r (minL_r (noMin_r q2) (noMin_r q3)) (maxL_r (noMin_r q0) (noMin_r q1))))])) t
      refine XS.iload X111.here hx rfl (hb hby at_188) rfl ?_
      exact k
    refine own_go (S' := T111.setTop (mkF m 198 #[.val (.long q0), .second, .val (.long q1), .second, .val (.long q2), .second, .val (.long q3), .second, .val (.int p4), .val (.int p5), .val (.long (noMin_r q0)), .second, .val (.long (noMin_r q1)), .second, .val (.long (noMin_r q2)), .second, .val (.long (noMin_r q3)), .second, .val (.long (minL_r (noMin_r q0) (noMin_r q1))), .second, .val (.long (maxL_r (noMin_r q0) (noMin_r q1))), .second, .val (.long (minL_r (noMin_r q2) (noMin_r q3))), .second, .val (.long (maxL_r (noMin_r q2) (noMin_r q3))), .second, .val (.ref b60), .val (.ref b79), .val (.int (if (maxL_r (noMin_r q2) (noMin_r q3)) < (minL_r (noMin_r q0) (noMin_r q1)) then (0 : Int32) else (if (maxL_r (noMin_r q0) (noMin_r q1)) < (minL_r (noMin_r q2) (noMin_r q3)) then (0 : Int32) else (1 : Int32)))), .val (.int (if (if (maxL_r (noMin_r q2) (noMin_r q3)) < (minL_r (noMin_r q0) (noMin_r q1)) then (0 : Int32) else (if (maxL_r (noMin_r q0) (noMin_r q1)) < (minL_r (noMin_r q2) (noMin_r q3)) then (0 : Int32) else (1 : Int32))) = (0 : Int32) then (if (minL_r (noMin_r q2) (noMin_r q3)) < (minL_r (noMin_r q0) (noMin_r q1)) then (1 : Int32) else (0 : Int32)) else (0 : Int32))), .val (.int (if (if (maxL_r (noMin_r q2) (noMin_r q3)) < (minL_r (noMin_r q0) (noMin_r q1)) then (0 : Int32) else (if (maxL_r (noMin_r q0) (noMin_r q1)) < (minL_r (noMin_r q2) (noMin_r q3)) then (0 : Int32) else (1 : Int32))) = (0 : Int32) then (if (minL_r (noMin_r q0) (noMin_r q1)) < (minL_r (noMin_r q2) (noMin_r q3)) then (1 : Int32) else (0 : Int32)) else (0 : Int32)))] [(.int (if (above_r (minL_r (noMin_r q2) (noMin_r q3)) (maxL_r (noMin_r q0) (noMin_r q1))) = (if (if (maxL_r (noMin_r q2) (noMin_r q3)) < (minL_r (noMin_r q0) (noMin_r q1)) then (0 : Int32) else (if (maxL_r (noMin_r q0) (noMin_r q1)) < (minL_r (noMin_r q2) (noMin_r q3)) then (0 : Int32) else (1 : Int32))) = (0 : Int32) then (if (minL_r (noMin_r q0) (noMin_r q1)) < (minL_r (noMin_r q2) (noMin_r q3)) then (1 : Int32) else (0 : Int32)) else (0 : Int32)) then (1 : Int32) else (0 : Int32)))])) (fun t k => ?_) ?_
    · show Steps p.tables e below (T111.setTop (mkF m 190 #[.val (.long q0), .second, .val (.long q1), .second, .val (.long q2), .second, .val (.long q3), .second, .val (.int p4), .val (.int p5), .val (.long (noMin_r q0)), .second, .val (.long (noMin_r q1)), .second, .val (.long (noMin_r q2)), .second, .val (.long (noMin_r q3)), .second, .val (.long (minL_r (noMin_r q0) (noMin_r q1))), .second, .val (.long (maxL_r (noMin_r q0) (noMin_r q1))), .second, .val (.long (minL_r (noMin_r q2) (noMin_r q3))), .second, .val (.long (maxL_r (noMin_r q2) (noMin_r q3))), .second, .val (.ref b60), .val (.ref b79), .val (.int (if (maxL_r (noMin_r q2) (noMin_r q3)) < (minL_r (noMin_r q0) (noMin_r q1)) then (0 : Int32) else (if (maxL_r (noMin_r q0) (noMin_r q1)) < (minL_r (noMin_r q2) (noMin_r q3)) then (0 : Int32) else (1 : Int32)))), .val (.int (if (if (maxL_r (noMin_r q2) (noMin_r q3)) < (minL_r (noMin_r q0) (noMin_r q1)) then (0 : Int32) else (if (maxL_r (noMin_r q0) (noMin_r q1)) < (minL_r (noMin_r q2) (noMin_r q3)) then (0 : Int32) else (1 : Int32))) = (0 : Int32) then (if (minL_r (noMin_r q2) (noMin_r q3)) < (minL_r (noMin_r q0) (noMin_r q1)) then (1 : Int32) else (0 : Int32)) else (0 : Int32))), .val (.int (if (if (maxL_r (noMin_r q2) (noMin_r q3)) < (minL_r (noMin_r q0) (noMin_r q1)) then (0 : Int32) else (if (maxL_r (noMin_r q0) (noMin_r q1)) < (minL_r (noMin_r q2) (noMin_r q3)) then (0 : Int32) else (1 : Int32))) = (0 : Int32) then (if (minL_r (noMin_r q0) (noMin_r q1)) < (minL_r (noMin_r q2) (noMin_r q3)) then (1 : Int32) else (0 : Int32)) else (0 : Int32)))] [(.int (if (if (maxL_r (noMin_r q2) (noMin_r q3)) < (minL_r (noMin_r q0) (noMin_r q1)) then (0 : Int32) else (if (maxL_r (noMin_r q0) (noMin_r q1)) < (minL_r (noMin_r q2) (noMin_r q3)) then (0 : Int32) else (1 : Int32))) = (0 : Int32) then (if (minL_r (noMin_r q0) (noMin_r q1)) < (minL_r (noMin_r q2) (noMin_r q3)) then (1 : Int32) else (0 : Int32)) else (0 : Int32))), (.int (above_r (minL_r (noMin_r q2) (noMin_r q3)) (maxL_r (noMin_r q0) (noMin_r q1))))])) t
      by_cases hc190 : (above_r (minL_r (noMin_r q2) (noMin_r q3)) (maxL_r (noMin_r q0) (noMin_r q1))) = (if (if (maxL_r (noMin_r q2) (noMin_r q3)) < (minL_r (noMin_r q0) (noMin_r q1)) then (0 : Int32) else (if (maxL_r (noMin_r q0) (noMin_r q1)) < (minL_r (noMin_r q2) (noMin_r q3)) then (0 : Int32) else (1 : Int32))) = (0 : Int32) then (if (minL_r (noMin_r q0) (noMin_r q1)) < (minL_r (noMin_r q2) (noMin_r q3)) then (1 : Int32) else (0 : Int32)) else (0 : Int32))
      · show Steps p.tables e below (T111.setTop (mkF m 190 #[.val (.long q0), .second, .val (.long q1), .second, .val (.long q2), .second, .val (.long q3), .second, .val (.int p4), .val (.int p5), .val (.long (noMin_r q0)), .second, .val (.long (noMin_r q1)), .second, .val (.long (noMin_r q2)), .second, .val (.long (noMin_r q3)), .second, .val (.long (minL_r (noMin_r q0) (noMin_r q1))), .second, .val (.long (maxL_r (noMin_r q0) (noMin_r q1))), .second, .val (.long (minL_r (noMin_r q2) (noMin_r q3))), .second, .val (.long (maxL_r (noMin_r q2) (noMin_r q3))), .second, .val (.ref b60), .val (.ref b79), .val (.int (if (maxL_r (noMin_r q2) (noMin_r q3)) < (minL_r (noMin_r q0) (noMin_r q1)) then (0 : Int32) else (if (maxL_r (noMin_r q0) (noMin_r q1)) < (minL_r (noMin_r q2) (noMin_r q3)) then (0 : Int32) else (1 : Int32)))), .val (.int (if (if (maxL_r (noMin_r q2) (noMin_r q3)) < (minL_r (noMin_r q0) (noMin_r q1)) then (0 : Int32) else (if (maxL_r (noMin_r q0) (noMin_r q1)) < (minL_r (noMin_r q2) (noMin_r q3)) then (0 : Int32) else (1 : Int32))) = (0 : Int32) then (if (minL_r (noMin_r q2) (noMin_r q3)) < (minL_r (noMin_r q0) (noMin_r q1)) then (1 : Int32) else (0 : Int32)) else (0 : Int32))), .val (.int (if (if (maxL_r (noMin_r q2) (noMin_r q3)) < (minL_r (noMin_r q0) (noMin_r q1)) then (0 : Int32) else (if (maxL_r (noMin_r q0) (noMin_r q1)) < (minL_r (noMin_r q2) (noMin_r q3)) then (0 : Int32) else (1 : Int32))) = (0 : Int32) then (if (minL_r (noMin_r q0) (noMin_r q1)) < (minL_r (noMin_r q2) (noMin_r q3)) then (1 : Int32) else (0 : Int32)) else (0 : Int32)))] [(.int (if (if (maxL_r (noMin_r q2) (noMin_r q3)) < (minL_r (noMin_r q0) (noMin_r q1)) then (0 : Int32) else (if (maxL_r (noMin_r q0) (noMin_r q1)) < (minL_r (noMin_r q2) (noMin_r q3)) then (0 : Int32) else (1 : Int32))) = (0 : Int32) then (if (minL_r (noMin_r q0) (noMin_r q1)) < (minL_r (noMin_r q2) (noMin_r q3)) then (1 : Int32) else (0 : Int32)) else (0 : Int32))), (.int (above_r (minL_r (noMin_r q2) (noMin_r q3)) (maxL_r (noMin_r q0) (noMin_r q1))))])) t
        refine XS.icmpNo X111.here hx rfl (hb hby at_190) rfl (teq hc190).2 ?_
        show Steps p.tables e below (T111.setTop (mkF m 193 #[.val (.long q0), .second, .val (.long q1), .second, .val (.long q2), .second, .val (.long q3), .second, .val (.int p4), .val (.int p5), .val (.long (noMin_r q0)), .second, .val (.long (noMin_r q1)), .second, .val (.long (noMin_r q2)), .second, .val (.long (noMin_r q3)), .second, .val (.long (minL_r (noMin_r q0) (noMin_r q1))), .second, .val (.long (maxL_r (noMin_r q0) (noMin_r q1))), .second, .val (.long (minL_r (noMin_r q2) (noMin_r q3))), .second, .val (.long (maxL_r (noMin_r q2) (noMin_r q3))), .second, .val (.ref b60), .val (.ref b79), .val (.int (if (maxL_r (noMin_r q2) (noMin_r q3)) < (minL_r (noMin_r q0) (noMin_r q1)) then (0 : Int32) else (if (maxL_r (noMin_r q0) (noMin_r q1)) < (minL_r (noMin_r q2) (noMin_r q3)) then (0 : Int32) else (1 : Int32)))), .val (.int (if (if (maxL_r (noMin_r q2) (noMin_r q3)) < (minL_r (noMin_r q0) (noMin_r q1)) then (0 : Int32) else (if (maxL_r (noMin_r q0) (noMin_r q1)) < (minL_r (noMin_r q2) (noMin_r q3)) then (0 : Int32) else (1 : Int32))) = (0 : Int32) then (if (minL_r (noMin_r q2) (noMin_r q3)) < (minL_r (noMin_r q0) (noMin_r q1)) then (1 : Int32) else (0 : Int32)) else (0 : Int32))), .val (.int (if (if (maxL_r (noMin_r q2) (noMin_r q3)) < (minL_r (noMin_r q0) (noMin_r q1)) then (0 : Int32) else (if (maxL_r (noMin_r q0) (noMin_r q1)) < (minL_r (noMin_r q2) (noMin_r q3)) then (0 : Int32) else (1 : Int32))) = (0 : Int32) then (if (minL_r (noMin_r q0) (noMin_r q1)) < (minL_r (noMin_r q2) (noMin_r q3)) then (1 : Int32) else (0 : Int32)) else (0 : Int32)))] [])) t
        refine XS.iconst X111.here hx rfl (hb hby at_193) ?_
        show Steps p.tables e below (T111.setTop (mkF m 194 #[.val (.long q0), .second, .val (.long q1), .second, .val (.long q2), .second, .val (.long q3), .second, .val (.int p4), .val (.int p5), .val (.long (noMin_r q0)), .second, .val (.long (noMin_r q1)), .second, .val (.long (noMin_r q2)), .second, .val (.long (noMin_r q3)), .second, .val (.long (minL_r (noMin_r q0) (noMin_r q1))), .second, .val (.long (maxL_r (noMin_r q0) (noMin_r q1))), .second, .val (.long (minL_r (noMin_r q2) (noMin_r q3))), .second, .val (.long (maxL_r (noMin_r q2) (noMin_r q3))), .second, .val (.ref b60), .val (.ref b79), .val (.int (if (maxL_r (noMin_r q2) (noMin_r q3)) < (minL_r (noMin_r q0) (noMin_r q1)) then (0 : Int32) else (if (maxL_r (noMin_r q0) (noMin_r q1)) < (minL_r (noMin_r q2) (noMin_r q3)) then (0 : Int32) else (1 : Int32)))), .val (.int (if (if (maxL_r (noMin_r q2) (noMin_r q3)) < (minL_r (noMin_r q0) (noMin_r q1)) then (0 : Int32) else (if (maxL_r (noMin_r q0) (noMin_r q1)) < (minL_r (noMin_r q2) (noMin_r q3)) then (0 : Int32) else (1 : Int32))) = (0 : Int32) then (if (minL_r (noMin_r q2) (noMin_r q3)) < (minL_r (noMin_r q0) (noMin_r q1)) then (1 : Int32) else (0 : Int32)) else (0 : Int32))), .val (.int (if (if (maxL_r (noMin_r q2) (noMin_r q3)) < (minL_r (noMin_r q0) (noMin_r q1)) then (0 : Int32) else (if (maxL_r (noMin_r q0) (noMin_r q1)) < (minL_r (noMin_r q2) (noMin_r q3)) then (0 : Int32) else (1 : Int32))) = (0 : Int32) then (if (minL_r (noMin_r q0) (noMin_r q1)) < (minL_r (noMin_r q2) (noMin_r q3)) then (1 : Int32) else (0 : Int32)) else (0 : Int32)))] [(.int (1 : Int32))])) t
        refine XS.goto X111.here hx rfl (pc0 := 194) (pc' := 198) rfl (hb hby at_194) (by decide) (by decide) ?_
        try simp only [if_pos hc190] at k
        try simp only [if_pos hc190]
        exact k
      · show Steps p.tables e below (T111.setTop (mkF m 190 #[.val (.long q0), .second, .val (.long q1), .second, .val (.long q2), .second, .val (.long q3), .second, .val (.int p4), .val (.int p5), .val (.long (noMin_r q0)), .second, .val (.long (noMin_r q1)), .second, .val (.long (noMin_r q2)), .second, .val (.long (noMin_r q3)), .second, .val (.long (minL_r (noMin_r q0) (noMin_r q1))), .second, .val (.long (maxL_r (noMin_r q0) (noMin_r q1))), .second, .val (.long (minL_r (noMin_r q2) (noMin_r q3))), .second, .val (.long (maxL_r (noMin_r q2) (noMin_r q3))), .second, .val (.ref b60), .val (.ref b79), .val (.int (if (maxL_r (noMin_r q2) (noMin_r q3)) < (minL_r (noMin_r q0) (noMin_r q1)) then (0 : Int32) else (if (maxL_r (noMin_r q0) (noMin_r q1)) < (minL_r (noMin_r q2) (noMin_r q3)) then (0 : Int32) else (1 : Int32)))), .val (.int (if (if (maxL_r (noMin_r q2) (noMin_r q3)) < (minL_r (noMin_r q0) (noMin_r q1)) then (0 : Int32) else (if (maxL_r (noMin_r q0) (noMin_r q1)) < (minL_r (noMin_r q2) (noMin_r q3)) then (0 : Int32) else (1 : Int32))) = (0 : Int32) then (if (minL_r (noMin_r q2) (noMin_r q3)) < (minL_r (noMin_r q0) (noMin_r q1)) then (1 : Int32) else (0 : Int32)) else (0 : Int32))), .val (.int (if (if (maxL_r (noMin_r q2) (noMin_r q3)) < (minL_r (noMin_r q0) (noMin_r q1)) then (0 : Int32) else (if (maxL_r (noMin_r q0) (noMin_r q1)) < (minL_r (noMin_r q2) (noMin_r q3)) then (0 : Int32) else (1 : Int32))) = (0 : Int32) then (if (minL_r (noMin_r q0) (noMin_r q1)) < (minL_r (noMin_r q2) (noMin_r q3)) then (1 : Int32) else (0 : Int32)) else (0 : Int32)))] [(.int (if (if (maxL_r (noMin_r q2) (noMin_r q3)) < (minL_r (noMin_r q0) (noMin_r q1)) then (0 : Int32) else (if (maxL_r (noMin_r q0) (noMin_r q1)) < (minL_r (noMin_r q2) (noMin_r q3)) then (0 : Int32) else (1 : Int32))) = (0 : Int32) then (if (minL_r (noMin_r q0) (noMin_r q1)) < (minL_r (noMin_r q2) (noMin_r q3)) then (1 : Int32) else (0 : Int32)) else (0 : Int32))), (.int (above_r (minL_r (noMin_r q2) (noMin_r q3)) (maxL_r (noMin_r q0) (noMin_r q1))))])) t
        refine XS.icmpYes X111.here hx rfl (pc0 := 190) (pc' := 197) rfl (hb hby at_190) rfl (feq hc190).2 (by decide) (by decide) ?_
        show Steps p.tables e below (T111.setTop (mkF m 197 #[.val (.long q0), .second, .val (.long q1), .second, .val (.long q2), .second, .val (.long q3), .second, .val (.int p4), .val (.int p5), .val (.long (noMin_r q0)), .second, .val (.long (noMin_r q1)), .second, .val (.long (noMin_r q2)), .second, .val (.long (noMin_r q3)), .second, .val (.long (minL_r (noMin_r q0) (noMin_r q1))), .second, .val (.long (maxL_r (noMin_r q0) (noMin_r q1))), .second, .val (.long (minL_r (noMin_r q2) (noMin_r q3))), .second, .val (.long (maxL_r (noMin_r q2) (noMin_r q3))), .second, .val (.ref b60), .val (.ref b79), .val (.int (if (maxL_r (noMin_r q2) (noMin_r q3)) < (minL_r (noMin_r q0) (noMin_r q1)) then (0 : Int32) else (if (maxL_r (noMin_r q0) (noMin_r q1)) < (minL_r (noMin_r q2) (noMin_r q3)) then (0 : Int32) else (1 : Int32)))), .val (.int (if (if (maxL_r (noMin_r q2) (noMin_r q3)) < (minL_r (noMin_r q0) (noMin_r q1)) then (0 : Int32) else (if (maxL_r (noMin_r q0) (noMin_r q1)) < (minL_r (noMin_r q2) (noMin_r q3)) then (0 : Int32) else (1 : Int32))) = (0 : Int32) then (if (minL_r (noMin_r q2) (noMin_r q3)) < (minL_r (noMin_r q0) (noMin_r q1)) then (1 : Int32) else (0 : Int32)) else (0 : Int32))), .val (.int (if (if (maxL_r (noMin_r q2) (noMin_r q3)) < (minL_r (noMin_r q0) (noMin_r q1)) then (0 : Int32) else (if (maxL_r (noMin_r q0) (noMin_r q1)) < (minL_r (noMin_r q2) (noMin_r q3)) then (0 : Int32) else (1 : Int32))) = (0 : Int32) then (if (minL_r (noMin_r q0) (noMin_r q1)) < (minL_r (noMin_r q2) (noMin_r q3)) then (1 : Int32) else (0 : Int32)) else (0 : Int32)))] [])) t
        refine XS.iconst X111.here hx rfl (hb hby at_197) ?_
        try simp only [if_neg hc190] at k
        try simp only [if_neg hc190]
        exact k
    have hfin : (if (above_r (minL_r (noMin_r q2) (noMin_r q3)) (maxL_r (noMin_r q0) (noMin_r q1))) = (if (if (maxL_r (noMin_r q2) (noMin_r q3)) < (minL_r (noMin_r q0) (noMin_r q1)) then (0 : Int32) else (if (maxL_r (noMin_r q0) (noMin_r q1)) < (minL_r (noMin_r q2) (noMin_r q3)) then (0 : Int32) else (1 : Int32))) = (0 : Int32) then (if (minL_r (noMin_r q0) (noMin_r q1)) < (minL_r (noMin_r q2) (noMin_r q3)) then (1 : Int32) else (0 : Int32)) else (0 : Int32)) then (1 : Int32) else (0 : Int32)) = (1 : Int32) := if_pos (own_abw _ _ _ _ (own_mm _ _) (own_mm _ _))
    rw [hfin]
    obtain ⟨fs, hr, hrun, hended, hW, hsame⟩ := X111.leave (v := some (.int (1 : Int32))) (fun h => by rw [Bd.returns] at h; cases h)
    refine own_end (v := some (.int (1 : Int32))) ?_ hrun hended ?_ hW (hsame.mono (by decide) (by decide))
    · show Steps p.tables e below (T111.setTop (mkF m 198 #[.val (.long q0), .second, .val (.long q1), .second, .val (.long q2), .second, .val (.long q3), .second, .val (.int p4), .val (.int p5), .val (.long (noMin_r q0)), .second, .val (.long (noMin_r q1)), .second, .val (.long (noMin_r q2)), .second, .val (.long (noMin_r q3)), .second, .val (.long (minL_r (noMin_r q0) (noMin_r q1))), .second, .val (.long (maxL_r (noMin_r q0) (noMin_r q1))), .second, .val (.long (minL_r (noMin_r q2) (noMin_r q3))), .second, .val (.long (maxL_r (noMin_r q2) (noMin_r q3))), .second, .val (.ref b60), .val (.ref b79), .val (.int (if (maxL_r (noMin_r q2) (noMin_r q3)) < (minL_r (noMin_r q0) (noMin_r q1)) then (0 : Int32) else (if (maxL_r (noMin_r q0) (noMin_r q1)) < (minL_r (noMin_r q2) (noMin_r q3)) then (0 : Int32) else (1 : Int32)))), .val (.int (if (if (maxL_r (noMin_r q2) (noMin_r q3)) < (minL_r (noMin_r q0) (noMin_r q1)) then (0 : Int32) else (if (maxL_r (noMin_r q0) (noMin_r q1)) < (minL_r (noMin_r q2) (noMin_r q3)) then (0 : Int32) else (1 : Int32))) = (0 : Int32) then (if (minL_r (noMin_r q2) (noMin_r q3)) < (minL_r (noMin_r q0) (noMin_r q1)) then (1 : Int32) else (0 : Int32)) else (0 : Int32))), .val (.int (if (if (maxL_r (noMin_r q2) (noMin_r q3)) < (minL_r (noMin_r q0) (noMin_r q1)) then (0 : Int32) else (if (maxL_r (noMin_r q0) (noMin_r q1)) < (minL_r (noMin_r q2) (noMin_r q3)) then (0 : Int32) else (1 : Int32))) = (0 : Int32) then (if (minL_r (noMin_r q0) (noMin_r q1)) < (minL_r (noMin_r q2) (noMin_r q3)) then (1 : Int32) else (0 : Int32)) else (0 : Int32)))] [(.int (1 : Int32))])) _
      exact retN X111 hx (t := .boolean) Bd.returns (by simp) (hb hby at_198) hr
    · show Qrm0 Z q0 q1 q2 q3 p4 p5 h0 n0 _ T111.heap _
      rw [e111]
      exact ⟨rfl, N114⟩
  · skip
    exfalso
    exact hc178 (own_abv _ _ _ _ (own_mm _ _) (own_mm _ _))
set_option maxRecDepth 65536 in
set_option maxHeartbeats 40000000 in
theorem comes_1 {Post : Tables → Env → Array Value → State → Outcome → State → Prop} (hpost : ∀ tb e args s v u, (limb_1_1.after args s (.returned v) u = true ∧ limb_1_2.after args s (.returned v) u = true ∧ True) → FrameEnd s (.returned v) u (Jvm.fieldLocs frame_1_writes args s ++ Jvm.arrayLocs frame_1_arrays args s ++ Jvm.staticLocs frame_1_statics s) 16 128 → Post tb e args s (.returned v) u) :
    ArmFor flags0 classFile x code maxLocals ret World_1 tables_1 room_1 Calls_1 rest_1 Pre_1 Post := by
  intro l hfl _ _ p e ha hc hk s m args below hf hA hF happ hP
  obtain ⟨hcalls, hrest, hpre⟩ := hP
  obtain ⟨-, -, -, hnamed, -, -, -, hat⟩ := (Spec.applies_iff hf).mp happ
  obtain ⟨hg, hn⟩ := and_e (Cond.before_iff.mp (show (Jvm.Cond.and given_1 narrow_1).before args s = true from hpre))
  obtain ⟨g115, g116⟩ := and_e hg
  obtain ⟨g117, g118⟩ := and_e g116
  obtain ⟨g119, g120⟩ := and_e g118
  obtain ⟨g121, g122⟩ := and_e g120
  obtain ⟨g123, g124⟩ := and_e g122
  obtain ⟨g125, g126⟩ := and_e g124
  obtain ⟨w0, w1, w2, w3, w4, w5, rfl⟩ : ∃ w0 w1 w2 w3 w4 w5 : Value, args = #[w0, w1, w2, w3, w4, w5] := by
    have hs : args.size = 6 := by simpa [Cond.value, given_1] using g115
    obtain ⟨L⟩ := args
    match L, hs with
    | [w0, w1, w2, w3, w4, w5], _ => exact ⟨w0, w1, w2, w3, w4, w5, rfl⟩
  have hw := fun d (hd : d ∈ tables_1) => atoms_spec (ws := Jvm.Cond.code x code maxLocals ret :: tables_1) hat d (List.mem_cons_of_mem _ hd)
  have hfit : Fit s := fun {y c} hc i hi => by
    obtain ⟨ha, rfl⟩ := Array.getElem?_eq_some_iff.mp hc
    have q := List.all_eq_true.mp ((Array.all_eq_true_iff_forall_mem.mp hF) _ (Array.getElem_mem ha)) i (List.mem_range.mpr hi)
    simpa [Array.getElem?_eq_getElem hi] using q
  obtain ⟨i0, ei0⟩ := isL_v g117
  obtain rfl : w0 = (.long i0) := Option.some.inj ei0
  obtain ⟨i1, ei1⟩ := isL_v g119
  obtain rfl : w1 = (.long i1) := Option.some.inj ei1
  obtain ⟨i2, ei2⟩ := isL_v g121
  obtain rfl : w2 = (.long i2) := Option.some.inj ei2
  obtain ⟨i3, ei3⟩ := isL_v g123
  obtain rfl : w3 = (.long i3) := Option.some.inj ei3
  obtain ⟨i4, ei4⟩ := is_v g125
  obtain rfl : w4 = (.int i4) := Option.some.inj ei4
  obtain ⟨i5, ei5⟩ := is_v g126
  obtain rfl : w5 = (.int i5) := Option.some.inj ei5
  obtain ⟨n, o, h1, h2, h3, _, L, rfl, ⟨rfl, N⟩, hq⟩ := rm0 l s _ hw tables_1 i0 i1 i2 i3 i4 i5 s.heap s.heap.size (Nat.le_refl _)  p e ha hc hk s m _ below hf ((Spec.applies_iff_loose hf).mp happ).1 ⟨rfl, State.Warmed39.refl s, rfl⟩ trivial
  refine ⟨n, _, h1, h2, h3, hpost _ _ _ _ _ _ ⟨Cond.after_iff.mpr rfl, Cond.after_iff.mpr (eq_i res_at (Term.int_eval (1)) rfl), trivial⟩ ⟨hq.1, hq.2.1, (hq.2.2.sift fun y hy => Or.inr (N y hy)).mono (by decide) (by decide)⟩⟩
theorem main_1_1 : Claimed_1_1 := comes_1 fun _ _ _ _ _ _ h hF => ⟨h.1, hF⟩
theorem main_1_2 : Claimed_1_2 := comes_1 fun _ _ _ _ _ _ h hF => ⟨h.2.1, hF⟩
end Jvm.Pilot.@@N@@
namespace Jvm.Pilot.@@N@@
open Jvm Jvm.ClassFile Sem Op Lib Jvm.Free Jvm.Stand Jvm.Pilot.@@N@@.Jvm.D
/-! MADE BY PROGRAM (witnessworld.py) out of the Statement's table words and the real class files: 10 classes; the members and pool entries that the words name. The judged class is class 1, her method 3. -/
namespace start1
open Jvm.ClassFile
def u (s : String) : CpInfo := .utf8 (stringToUtf16 s)
/-- a pool by its gaps: so many unusable entries, then the entry; so many at the end -/
def gap : Nat → List CpInfo → List CpInfo
  | 0, r => r
  | n + 1, r => .unusable :: gap n r
def poolList (es : List (Nat × CpInfo)) (last : Nat) : List CpInfo := es.foldr (fun e r => gap e.1 (e.2 :: r)) (gap last [])
def pool (es : List (Nat × CpInfo)) (last : Nat) : Array CpInfo := ⟨poolList es last⟩
def fileOf (pool : Array CpInfo) (this : Nat) (attrs : Array Attribute := #[]) (ms : Array MethodInfo := #[]) (fl : Nat := 33) (sup : Nat := 0) (ifs : Array Nat := #[]) (fds : Array FieldInfo := #[]) : ClassFile where
  minorVersion := 0
  majorVersion := 65
  constantPool := pool
  accessFlags := fl
  thisClass := this
  superClass := sup
  interfaces := ifs
  fields := fds
  methods := ms
  attributes := attrs
def plain (name : String) (sup : Option ClassId) : Class where
  name := name
  kind := .ordinary
  loader := none
  accessFlags := 33
  super := sup
  interfaces := #[]
  cf := none
  fields := #[]
  methods := #[]
  instanceTypes := #[]
  staticTypes := #[]
  resolved := #[]
  callSites := []
  init := .initialized
  statics := none
  mirror := none

def pool0 : Array CpInfo := pool [(5, u "<init>"), (0, u "()V"), (1, .class_ 10), (1, u "java/lang/Object")] 113

def k0c0 : Code := { maxStack := 0, maxLocals := 1, code := object_method_1_code, exceptionTable := #[], attributes := #[] }
def k0m0 : Method := { name := "<init>", desc := "()V", sig := { parameters := [], returnType := none }, accessFlags := 1, code := some k0c0 }
/-- java/lang/Object -/
def k0 : Class := { plain "java/lang/Object" none with
  accessFlags := 33
  interfaces := #[]
  cf := some (fileOf pool0 8 #[] #[{ accessFlags := 1, nameIndex := 5, descriptorIndex := 6, attributes := #[] }] 33 0 #[] #[])
  fields := #[]
  methods := #[k0m0]
  instanceTypes := #[]
  staticTypes := #[]
  resolved := Array.replicate 124 none
  statics := none }

def pool1 : Array CpInfo := pool [(2, .class_ 4), (1, u "java/lang/Object"), (0, u "<init>"), (0, u "()V"), (2, .long 9223372036854775808), (1, .long 9223372036854775809), (1, .methodref 14 15), (0, .class_ 16), (0, .nameAndType 17 18), (0, u "com/example/sure_sequence/suresequence/RegionRangeIsAbovePinLaw"), (0, u "noMin"), (0, u "(J)J"), (0, .methodref 20 21), (0, .class_ 22), (0, .nameAndType 23 24), (0, u "java/lang/Math"), (0, u "min"), (0, u "(JJ)J"), (0, .methodref 20 26), (0, .nameAndType 27 24), (0, u "max"), (0, .class_ 29), (0, u "com/example/sure_sequence/suresequence/RegionRange"), (0, .methodref 14 31), (0, .nameAndType 32 33), (0, u "mark"), (0, u "(JJI)J"), (0, .methodref 28 35), (0, .nameAndType 5 36), (0, u "(JJJ)V"), (0, .methodref 28 38), (0, .nameAndType 39 40), (0, u "isAbove"), (0, u "(Lcom/example/sure_sequence/suresequence/RegionRange;)Z"), (3, u "law"), (0, u "(JJJJII)Z")] 2

def k1m0 : Method := { name := "<init>", desc := "()V", sig := { parameters := [], returnType := none }, accessFlags := 1, code := none }
def k1c1 : Code := { maxStack := 4, maxLocals := 2, code := method_2_code, exceptionTable := #[], attributes := #[] }
def k1m1 : Method := { name := "noMin", desc := "(J)J", sig := { parameters := [.long], returnType := some .long }, accessFlags := 10, code := some k1c1 }
def k1c2 : Code := { maxStack := 4, maxLocals := 6, code := method_3_code, exceptionTable := #[], attributes := #[] }
def k1m2 : Method := { name := "mark", desc := "(JJI)J", sig := { parameters := [.long, .long, .int], returnType := some .long }, accessFlags := 10, code := some k1c2 }
def k1c3 : Code := { maxStack := 11, maxLocals := 31, code := code, exceptionTable := #[], attributes := #[] }
def k1m3 : Method := { name := "law", desc := "(JJJJII)Z", sig := { parameters := [.long, .long, .long, .long, .int, .int], returnType := some .boolean }, accessFlags := 9, code := some k1c3 }
/-- com/example/sure_sequence/suresequence/RegionRangeIsAbovePinLaw -/
def k1 : Class := { plain "com/example/sure_sequence/suresequence/RegionRangeIsAbovePinLaw" (some 0) with
  accessFlags := 49
  interfaces := #[]
  cf := some (fileOf pool1 14 #[] #[{ accessFlags := 1, nameIndex := 5, descriptorIndex := 6, attributes := #[] }, { accessFlags := 10, nameIndex := 17, descriptorIndex := 18, attributes := #[] }, { accessFlags := 10, nameIndex := 32, descriptorIndex := 33, attributes := #[] }, { accessFlags := 9, nameIndex := 44, descriptorIndex := 45, attributes := #[] }] 49 2 #[] #[])
  fields := #[]
  methods := #[k1m0, k1m1, k1m2, k1m3]
  instanceTypes := #[]
  staticTypes := #[]
  resolved := Array.replicate 48 none
  statics := none }

def pool2 : Array CpInfo := pool [(1, .class_ 2), (0, u "java/lang/Math"), (1, .class_ 6), (1, u "java/lang/Object"), (0, u "<init>"), (0, u "()V"), (89, .class_ 100), (1, u "java/lang/Math$RandomNumberGeneratorHolder"), (20, u "(JJ)J"), (50, u "negativeZeroFloatBits"), (0, u "J"), (2, u "negativeZeroDoubleBits"), (21, u "max"), (2, u "min"), (43, u "$assertionsDisabled"), (0, u "Z"), (91, u "twoToTheDoubleScaleDown"), (0, u "D"), (4, u "twoToTheDoubleScaleUp"), (9, u "E"), (3, u "PI"), (2, u "TAU"), (2, u "DEGREES_TO_RADIANS"), (0, u "RADIANS_TO_DEGREES")] 94

def k2m0 : Method := { name := "<init>", desc := "()V", sig := { parameters := [], returnType := none }, accessFlags := 2, code := none }
def k2c1 : Code := { maxStack := 4, maxLocals := 4, code := jdk_29_method_66_code, exceptionTable := #[], attributes := #[] }
def k2m1 : Method := { name := "max", desc := "(JJ)J", sig := { parameters := [.long, .long], returnType := some .long }, accessFlags := 9, code := some k2c1 }
def k2c2 : Code := { maxStack := 4, maxLocals := 4, code := jdk_29_method_70_code, exceptionTable := #[], attributes := #[] }
def k2m2 : Method := { name := "min", desc := "(JJ)J", sig := { parameters := [.long, .long], returnType := some .long }, accessFlags := 9, code := some k2c2 }
/-- java/lang/Math -/
def k2 : Class := { plain "java/lang/Math" (some 0) with
  accessFlags := 49
  interfaces := #[]
  cf := some (fileOf pool2 1 #[.nestMembers #[98]] #[{ accessFlags := 2, nameIndex := 7, descriptorIndex := 8, attributes := #[] }, { accessFlags := 9, nameIndex := 198, descriptorIndex := 121, attributes := #[] }, { accessFlags := 9, nameIndex := 201, descriptorIndex := 121, attributes := #[] }] 49 4 #[] #[{ accessFlags := 25, nameIndex := 354, descriptorIndex := 339, attributes := #[] }, { accessFlags := 25, nameIndex := 358, descriptorIndex := 339, attributes := #[] }, { accessFlags := 25, nameIndex := 361, descriptorIndex := 339, attributes := #[] }, { accessFlags := 26, nameIndex := 364, descriptorIndex := 339, attributes := #[] }, { accessFlags := 26, nameIndex := 365, descriptorIndex := 339, attributes := #[] }, { accessFlags := 26, nameIndex := 172, descriptorIndex := 173, attributes := #[] }, { accessFlags := 26, nameIndex := 176, descriptorIndex := 173, attributes := #[] }, { accessFlags := 8, nameIndex := 344, descriptorIndex := 339, attributes := #[] }, { accessFlags := 8, nameIndex := 338, descriptorIndex := 339, attributes := #[] }, { accessFlags := 4120, nameIndex := 245, descriptorIndex := 246, attributes := #[] }])
  fields := #[{ name := "E", type := .double, accessFlags := 25, slot := 0, constantValue := 0 }, { name := "PI", type := .double, accessFlags := 25, slot := 1, constantValue := 0 }, { name := "TAU", type := .double, accessFlags := 25, slot := 2, constantValue := 0 }, { name := "DEGREES_TO_RADIANS", type := .double, accessFlags := 26, slot := 3, constantValue := 0 }, { name := "RADIANS_TO_DEGREES", type := .double, accessFlags := 26, slot := 4, constantValue := 0 }, { name := "negativeZeroFloatBits", type := .long, accessFlags := 26, slot := 5, constantValue := 0 }, { name := "negativeZeroDoubleBits", type := .long, accessFlags := 26, slot := 6, constantValue := 0 }, { name := "twoToTheDoubleScaleUp", type := .double, accessFlags := 8, slot := 7, constantValue := 0 }, { name := "twoToTheDoubleScaleDown", type := .double, accessFlags := 8, slot := 8, constantValue := 0 }, { name := "$assertionsDisabled", type := .boolean, accessFlags := 4120, slot := 9, constantValue := 0 }]
  methods := #[k2m0, k2m1, k2m2]
  instanceTypes := #[]
  staticTypes := #[.double, .double, .double, .double, .double, .long, .long, .double, .double, .boolean]
  resolved := Array.replicate 460 none
  statics := none }

def pool3 : Array CpInfo := pool [(1, .methodref 2 3), (0, .class_ 4), (0, .nameAndType 5 6), (0, u "java/lang/Object"), (0, u "<init>"), (0, u "()V"), (9, .fieldref 17 18), (0, .class_ 19), (0, .nameAndType 20 21), (0, u "com/example/sure_sequence/suresequence/RegionRange"), (0, u "low"), (0, u "J"), (0, .fieldref 17 23), (0, .nameAndType 24 21), (0, u "high"), (0, .fieldref 17 26), (0, .nameAndType 27 21), (0, u "highWater"), (2, u "(JJJ)V"), (34, u "isAbove"), (0, u "(Lcom/example/sure_sequence/suresequence/RegionRange;)Z")] 25

def k3c0 : Code := { maxStack := 12, maxLocals := 7, code := prog_7_method_1_code, exceptionTable := #[], attributes := #[] }
def k3m0 : Method := { name := "<init>", desc := "(JJJ)V", sig := { parameters := [.long, .long, .long], returnType := none }, accessFlags := 0, code := some k3c0 }
def k3c1 : Code := { maxStack := 4, maxLocals := 2, code := prog_7_method_9_code, exceptionTable := #[], attributes := #[] }
def k3m1 : Method := { name := "isAbove", desc := "(Lcom/example/sure_sequence/suresequence/RegionRange;)Z", sig := { parameters := [(.object "com/example/sure_sequence/suresequence/RegionRange")], returnType := some .boolean }, accessFlags := 0, code := some k3c1 }
/-- com/example/sure_sequence/suresequence/RegionRange -/
def k3 : Class := { plain "com/example/sure_sequence/suresequence/RegionRange" (some 0) with
  accessFlags := 48
  interfaces := #[]
  cf := some (fileOf pool3 17 #[] #[{ accessFlags := 0, nameIndex := 5, descriptorIndex := 30, attributes := #[] }, { accessFlags := 0, nameIndex := 65, descriptorIndex := 66, attributes := #[] }] 48 2 #[] #[{ accessFlags := 18, nameIndex := 20, descriptorIndex := 21, attributes := #[] }, { accessFlags := 18, nameIndex := 24, descriptorIndex := 21, attributes := #[] }, { accessFlags := 18, nameIndex := 27, descriptorIndex := 21, attributes := #[] }])
  fields := #[{ name := "low", type := .long, accessFlags := 18, slot := 0, constantValue := 0 }, { name := "high", type := .long, accessFlags := 18, slot := 1, constantValue := 0 }, { name := "highWater", type := .long, accessFlags := 18, slot := 2, constantValue := 0 }]
  methods := #[k3m0, k3m1]
  instanceTypes := #[.long, .long, .long]
  staticTypes := #[]
  resolved := Array.replicate 92 none
  statics := none }

def pool4 : Array CpInfo := pool [(1, u "java/lang/Cloneable"), (0, .class_ 1), (0, u "java/lang/Object"), (0, .class_ 3)] 3

/-- java/lang/Cloneable -/
def k4 : Class := { plain "java/lang/Cloneable" (some 0) with
  accessFlags := 1537
  interfaces := #[]
  cf := some (fileOf pool4 2 #[] #[] 1537 4 #[] #[])
  fields := #[]
  methods := #[]
  instanceTypes := #[]
  staticTypes := #[]
  resolved := Array.replicate 8 none
  statics := none }

def pool5 : Array CpInfo := pool [(1, u "java/io/Serializable"), (0, .class_ 1), (0, u "java/lang/Object"), (0, .class_ 3)] 3

/-- java/io/Serializable -/
def k5 : Class := { plain "java/io/Serializable" (some 0) with
  accessFlags := 1537
  interfaces := #[]
  cf := some (fileOf pool5 2 #[] #[] 1537 4 #[] #[])
  fields := #[]
  methods := #[]
  instanceTypes := #[]
  staticTypes := #[]
  resolved := Array.replicate 8 none
  statics := none }

/-- the primitive byte -/
def k6 : Class := { plain "byte" none with kind := .primitive 'B', accessFlags := 0x411 }
/-- [B -/
def k7 : Class := { plain "[B" (some 0) with kind := .array 6 .byte, interfaces := #[4, 5], accessFlags := 1041 }

/-- the primitive int -/
def k8 : Class := { plain "int" none with kind := .primitive 'I', accessFlags := 0x411 }
/-- [I -/
def k9 : Class := { plain "[I" (some 0) with kind := .array 8 .int, interfaces := #[4, 5], accessFlags := 1041 }

def heap : Heap := #[]
def classes : Array Class := #[k0, k1, k2, k3, k4, k5, k6, k7, k8, k9]
def interned : List (Array UInt16 × Addr) := []
def slotsUsed : Nat := 0
def theMethod : MethodId := ⟨1, 3⟩
def args0 : Array Value := #[.long 5, .long 6, .long 7, .long 8, .int 9, .int 10]
def aboutOver (below : List Frame) : State where
  vm := { classes := classes, interned := interned.toArray }
  heap := heap
  slotsUsed := slotsUsed
  threads := #[{ frames := .invoking theMethod args0 :: below }]
def below0 : List Frame := [.native { method := ⟨0, 0⟩, args := #[] }]
def about1 : State := aboutOver below0
def p0 : Program := .bare "" "" ""
def e0 : Env := launch0.env 0 0 0
theorem w_frames : about1.frames = Frame.invoking theMethod args0 :: below0 := rfl
set_option maxRecDepth 65536 in
theorem w_args : argsFit about1.vm theMethod args0 = true := by decide +kernel
set_option maxRecDepth 65536 in
theorem w_heap : heapFits about1 = true := by decide +kernel
set_option maxRecDepth 65536 in
theorem w_runnable : about1.curStatus? = some .runnable := by decide +kernel
set_option maxRecDepth 65536 in
theorem w_alone : about1.alone = true := by decide +kernel
set_option maxRecDepth 65536 in
theorem w_named : about1.methodNamed? x = some theMethod := by decide +kernel
set_option maxRecDepth 65536 in
theorem w_hears : about1.hears theMethod below0 = true := by decide +kernel
set_option maxRecDepth 65536 in
theorem w_ripe : about1.ripe theMethod args0 below0 = true := by decide +kernel
theorem w_running : about1.status = .running := rfl
set_option maxRecDepth 65536 in
theorem w_room : about1.hasRoom e0.platform room_1 = true :=
  launch0.hasRoom_least _ room_1 (by decide +kernel) (by decide +kernel) (by decide +kernel) (by decide +kernel) (by decide +kernel) (by decide +kernel)
theorem allAtoms_all (ts : List Jvm.Cond) (a : Array Jvm.Value) (st : Jvm.State) : (allAtoms ts).before a st = ts.all (fun c => c.before a st) := by
  induction ts with
  | nil => rfl
  | cons c t ih =>
    show (Jvm.Cond.and c (allAtoms t)).before a st = _
    rw [Jvm.Cond.before_and, ih, List.all_cons]
def words1 : List Jvm.Cond := Jvm.Cond.code x code maxLocals ret :: tables_1
/-- a 'code' word, met by the world's own term for the bytes: nothing is compared byte by byte -/
theorem code_word {y : MethodName} {bytes : ByteArray} {mx : Nat} {rt : Option FieldType} {a : Array Value} {s : State} {m : MethodId} {meth : Method} {c : Code} (h1 : s.methodNamed? y = some m) (h2 : s.vm.method? m = some meth) (h3 : meth.code = some c) (h4 : c.code = bytes)
    (h5 : (c.maxLocals == mx && c.exceptionTable.isEmpty && decide (c.maxStack ≤ mostOperands) && decide (meth.sig.returnType = rt) && !meth.locks && decide (parseMethodDescriptor y.desc = some meth.sig)) = true) : (Jvm.Cond.code y bytes mx rt).before a s = true := by
  simp only [Bool.and_eq_true, beq_iff_eq, Bool.not_eq_true', decide_eq_true_eq] at h5
  obtain ⟨⟨⟨⟨⟨g1, g2⟩, g3⟩, g4⟩, g5⟩, g6⟩ := h5
  simp [Cond.before, Cond.holds, Cond.value, h1, h2, h3, h4, g1, g2, g3, g4, g5, g6]
def isCode : Jvm.Cond → Bool
  | .code _ _ _ _ => true
  | _ => false
theorem all_split {L : List Jvm.Cond} {P : Jvm.Cond → Bool} (h1 : L.all (fun c => isCode c || P c) = true) (h2 : ∀ c ∈ L.filter isCode, P c = true) : L.all P = true := by
  refine List.all_eq_true.mpr fun c hc => ?_
  have h := List.all_eq_true.mp h1 c hc
  rcases Bool.eq_false_or_eq_true (isCode c) with hi | hi
  · exact h2 c (List.mem_filter.mpr ⟨hc, hi⟩)
  · simpa [hi] using h
set_option maxRecDepth 65536 in
theorem w_c0 : (Jvm.Cond.code x code maxLocals ret).before args0 about1 = true := code_word (m := ⟨1, 3⟩) (meth := k1m3) (c := k1c3) (by decide +kernel) rfl rfl rfl (by decide +kernel)
set_option maxRecDepth 65536 in
theorem w_c1 : (Jvm.Cond.code ({ cls := "com/example/sure_sequence/suresequence/RegionRangeIsAbovePinLaw", name := "noMin", desc := "(J)J" } : Jvm.MethodName) method_2_code (2 : Nat) (Option.some Jvm.ClassFile.FieldType.long)).before args0 about1 = true := code_word (m := ⟨1, 1⟩) (meth := k1m1) (c := k1c1) (by decide +kernel) rfl rfl rfl (by decide +kernel)
set_option maxRecDepth 65536 in
theorem w_c2 : (Jvm.Cond.code ({ cls := "java/lang/Math", name := "min", desc := "(JJ)J" } : Jvm.MethodName) jdk_29_method_70_code (4 : Nat) (Option.some Jvm.ClassFile.FieldType.long)).before args0 about1 = true := code_word (m := ⟨2, 2⟩) (meth := k2m2) (c := k2c2) (by decide +kernel) rfl rfl rfl (by decide +kernel)
set_option maxRecDepth 65536 in
theorem w_c3 : (Jvm.Cond.code ({ cls := "java/lang/Math", name := "max", desc := "(JJ)J" } : Jvm.MethodName) jdk_29_method_66_code (4 : Nat) (Option.some Jvm.ClassFile.FieldType.long)).before args0 about1 = true := code_word (m := ⟨2, 1⟩) (meth := k2m1) (c := k2c1) (by decide +kernel) rfl rfl rfl (by decide +kernel)
set_option maxRecDepth 65536 in
theorem w_c4 : (Jvm.Cond.code ({ cls := "com/example/sure_sequence/suresequence/RegionRangeIsAbovePinLaw", name := "mark", desc := "(JJI)J" } : Jvm.MethodName) method_3_code (6 : Nat) (Option.some Jvm.ClassFile.FieldType.long)).before args0 about1 = true := code_word (m := ⟨1, 2⟩) (meth := k1m2) (c := k1c2) (by decide +kernel) rfl rfl rfl (by decide +kernel)
set_option maxRecDepth 65536 in
theorem w_c5 : (Jvm.Cond.code ({ cls := "com/example/sure_sequence/suresequence/RegionRange", name := "<init>", desc := "(JJJ)V" } : Jvm.MethodName) prog_7_method_1_code (7 : Nat) (Option.none : Option Jvm.ClassFile.FieldType)).before args0 about1 = true := code_word (m := ⟨3, 0⟩) (meth := k3m0) (c := k3c0) (by decide +kernel) rfl rfl rfl (by decide +kernel)
set_option maxRecDepth 65536 in
theorem w_c6 : (Jvm.Cond.code ({ cls := "java/lang/Object", name := "<init>", desc := "()V" } : Jvm.MethodName) object_method_1_code (1 : Nat) (Option.none : Option Jvm.ClassFile.FieldType)).before args0 about1 = true := code_word (m := ⟨0, 0⟩) (meth := k0m0) (c := k0c0) (by decide +kernel) rfl rfl rfl (by decide +kernel)
set_option maxRecDepth 65536 in
theorem w_c7 : (Jvm.Cond.code ({ cls := "com/example/sure_sequence/suresequence/RegionRange", name := "isAbove", desc := "(Lcom/example/sure_sequence/suresequence/RegionRange;)Z" } : Jvm.MethodName) prog_7_method_9_code (2 : Nat) (Option.some Jvm.ClassFile.FieldType.boolean)).before args0 about1 = true := code_word (m := ⟨3, 1⟩) (meth := k3m1) (c := k3c1) (by decide +kernel) rfl rfl rfl (by decide +kernel)
def codes1 : List Jvm.Cond := [Jvm.Cond.code x code maxLocals ret, Jvm.Cond.code ({ cls := "com/example/sure_sequence/suresequence/RegionRangeIsAbovePinLaw", name := "noMin", desc := "(J)J" } : Jvm.MethodName) method_2_code (2 : Nat) (Option.some Jvm.ClassFile.FieldType.long), Jvm.Cond.code ({ cls := "java/lang/Math", name := "min", desc := "(JJ)J" } : Jvm.MethodName) jdk_29_method_70_code (4 : Nat) (Option.some Jvm.ClassFile.FieldType.long), Jvm.Cond.code ({ cls := "java/lang/Math", name := "max", desc := "(JJ)J" } : Jvm.MethodName) jdk_29_method_66_code (4 : Nat) (Option.some Jvm.ClassFile.FieldType.long), Jvm.Cond.code ({ cls := "com/example/sure_sequence/suresequence/RegionRangeIsAbovePinLaw", name := "mark", desc := "(JJI)J" } : Jvm.MethodName) method_3_code (6 : Nat) (Option.some Jvm.ClassFile.FieldType.long), Jvm.Cond.code ({ cls := "com/example/sure_sequence/suresequence/RegionRange", name := "<init>", desc := "(JJJ)V" } : Jvm.MethodName) prog_7_method_1_code (7 : Nat) (Option.none : Option Jvm.ClassFile.FieldType), Jvm.Cond.code ({ cls := "java/lang/Object", name := "<init>", desc := "()V" } : Jvm.MethodName) object_method_1_code (1 : Nat) (Option.none : Option Jvm.ClassFile.FieldType), Jvm.Cond.code ({ cls := "com/example/sure_sequence/suresequence/RegionRange", name := "isAbove", desc := "(Lcom/example/sure_sequence/suresequence/RegionRange;)Z" } : Jvm.MethodName) prog_7_method_9_code (2 : Nat) (Option.some Jvm.ClassFile.FieldType.boolean)]
set_option maxRecDepth 65536 in
theorem codes_eq : words1.filter isCode = codes1 := rfl
theorem w_codes : ∀ c ∈ words1.filter isCode, c.before args0 about1 = true := by
  rw [codes_eq]
  intro c hc
  simp only [codes1, List.mem_cons, List.not_mem_nil, or_false] at hc
  rcases hc with rfl | rfl | rfl | rfl | rfl | rfl | rfl | rfl
  · exact w_c0
  · exact w_c1
  · exact w_c2
  · exact w_c3
  · exact w_c4
  · exact w_c5
  · exact w_c6
  · exact w_c7
set_option maxRecDepth 65536 in
theorem w_t1 : (words1.take 24).all (fun c => isCode c || c.before args0 about1) = true := by decide +kernel
set_option maxRecDepth 65536 in
theorem w_t2 : (words1.drop 24).all (fun c => isCode c || c.before args0 about1) = true := by decide +kernel
theorem w_tables : (allAtoms (Jvm.Cond.code x code maxLocals ret :: tables_1)).before args0 about1 = true := by
  rw [allAtoms_all]
  show words1.all (fun c => c.before args0 about1) = true
  refine all_split ?_ w_codes
  rw [← List.take_append_drop 24 words1, List.all_append, w_t1, w_t2]
  rfl
set_option maxRecDepth 65536 in
theorem w_case : (Jvm.Cond.and given_1 narrow_1).before args0 about1 = true := by decide +kernel
theorem w_applies : (headSpec (Jvm.Cond.code x code maxLocals ret :: tables_1) room_1).applies x e0.platform about1 = true :=
  (Spec.applies_iff w_frames).mpr ⟨w_running, w_runnable, w_alone, w_named, w_hears, w_ripe, w_room, w_tables⟩
theorem atStart : AtStart classFile x code maxLocals ret World_1 tables_1 room_1 Calls_1 rest_1 Pre_1 launch0 p0 e0 about1 theMethod args0 below0 :=
  ⟨lists_1, trivial, launch0.admits_env _ _ _, launch0.least_env, fairChoices_fair.cas, fairChoices_fair.clock, w_frames, w_args, w_heap, w_applies, trivial, trivial, w_case⟩
end start1
theorem witness_1 : WitnessClaimed_1 := ⟨start1.p0, start1.e0, start1.about1, start1.theMethod, start1.args0, start1.below0, start1.atStart⟩
end Jvm.Pilot.@@N@@
