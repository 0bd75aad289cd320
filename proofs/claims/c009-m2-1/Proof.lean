import JvmDerived
import JvmDerived.Pilot.@@N@@Statement
import JvmDerived.Pilot.@@N@@Code
set_option linter.unusedVariables false
set_option linter.unusedSimpArgs false
namespace Jvm.RoadKit
open Sem ClassFile Op Lib Jvm.Stand Jvm.Free Jvm.LawKit
section New
variable {p : Program} {l : Launch} {e : Env} {R : Room} {s : State} {m : MethodId} {args : Array Value} {below : List Frame} {meth : Method} {c : Code} {T : State} {locs : List Loc} {cells slots : Nat}
theorem retI (X : Stand p l e R s m args below meth c T locs cells slots) (hx : p.tables.exec = Jvm.exec) {pc : Nat} {Ls : Array Slot} {z : Int32} {rest : List Value} (hret : meth.sig.returnType = some .int) (hd : decode c.code pc = .ok (.ireturn, 1)) {fs : List Frame}
    (hl : ∀ (f : JFrame) (acts : List Action), f.method = m → f.locked = none → f.entered = [] → (doReturn e (T.setTop f) acts (some (.int z))).1 = T.setFrames fs) : Steps p.tables e below (T.setTop (mkF m pc Ls (.int z :: rest))) (T.setFrames fs) := by
  have hm' : T.vm.method? m = some meth := X.method'
  have hn : narrow .int (.int z) = .int z := rfl
  show Steps p.tables e below (T.setTop { method := m, pc := pc, locals := Ls, stack := _ :: rest, locked := none }) _
  jvm_step X.here [X.here.top, hx, hd, hm', hret, hn]
  first | (intro acts; rw [hl _ acts rfl rfl rfl]) | rw [hl _ _ rfl rfl rfl]
  exact Steps.refl _
end New
end Jvm.RoadKit
@@BLOCK:NumsL.lean.txt@@
namespace Jvm.Pilot.@@N@@
open Jvm Jvm.ClassFile Sem Op Lib Jvm.Free Jvm.Stand Jvm.LawKit Jvm.RoadKit Bundle Jvm.Pilot.@@N@@.Jvm.D
/-- from S the run comes to an end that says Q -/
def own_Go (p : Program) (e : Env) (below : List Frame) (s : State) (Q : Option Value → Heap → List Loc → Prop) (c n : Nat) (S : State) : Prop :=
  ∃ s₂ o, Steps p.tables e below S s₂ ∧ s₂.status = .running ∧ Ended s₂ below o ∧ ∃ v L, o = .returned v ∧ Q v s₂.heap L ∧ FrameEnd s o s₂ L c n
theorem own_go {p : Program} {e : Env} {below : List Frame} {s : State} {Q : Option Value → Heap → List Loc → Prop} {c n : Nat} {S S' : State} (st : ∀ t, Steps p.tables e below S' t → Steps p.tables e below S t) (k : own_Go p e below s Q c n S') : own_Go p e below s Q c n S := by
  obtain ⟨s₂, o, h, r⟩ := k
  exact ⟨s₂, o, st _ h, r⟩
theorem own_goT {p : Program} {e : Env} {below : List Frame} {s : State} {Q : Option Value → Heap → List Loc → Prop} {c n : Nat} {S S' : State} (st : Steps p.tables e below S S') (k : own_Go p e below s Q c n S') : own_Go p e below s Q c n S := own_go (fun _ h => st.trans h) k
theorem own_end {p : Program} {e : Env} {below : List Frame} {s : State} {Q : Option Value → Heap → List Loc → Prop} {c n : Nat} {S s₂ : State} {v : Option Value} {L : List Loc} (h : Steps p.tables e below S s₂) (hrun : s₂.status = .running) (he : Ended s₂ below (.returned v)) (hq : Q v s₂.heap L) (hW : s.WarmedH s₂.vm) (hs : s.sameButNew ({ s₂ with vm := s.vm } : State) L c n) : own_Go p e below s Q c n S :=
  ⟨s₂, _, h, hrun, he, v, L, rfl, hq, ⟨_, rfl⟩, hW, hs⟩
/-- an array of known values, its class's number unsaid -/
def own_Arv (Z : State) (h : Heap) (a : Addr) (ty : FieldType) (n : Int32) (vs : List Value) (d : Value) : Prop := ∃ k, Arv Z h a k ty n vs d
theorem own_Arv.lt {Z : State} {h : Heap} {a : Addr} {ty : FieldType} {n : Int32} {vs : List Value} {d : Value} (F : own_Arv Z h a ty n vs d) : a < h.size := by obtain ⟨k, F⟩ := F; exact F.lt
theorem own_Arv.ext {Z : State} {h h' : Heap} {a : Addr} {ty : FieldType} {n : Int32} {vs : List Value} {d : Value} (F : own_Arv Z h a ty n vs d) (E : Ext h h') : own_Arv Z h' a ty n vs d := by obtain ⟨k, F⟩ := F; exact ⟨k, F.ext E⟩
theorem own_Arv.other {Z : State} {h h' : Heap} {a b : Addr} {sl : Nat} {v : Value} {ty : FieldType} {n : Int32} {vs : List Value} {d : Value} (F : own_Arv Z h b ty n vs d) (W : Wr h h' a sl v) (q : b ≠ a) : own_Arv Z h' b ty n vs d := by obtain ⟨k, F⟩ := F; exact ⟨k, F.other W q⟩
theorem own_Arv.keep {Z : State} {h h' : Heap} {a : Addr} {ws : List Addr} {ty : FieldType} {n : Int32} {vs : List Value} {d : Value} (F : own_Arv Z h a ty n vs d) (K : Keep h h' ws) (q : a ∉ ws) : own_Arv Z h' a ty n vs d := by obtain ⟨k, F⟩ := F; exact ⟨k, F.keep K q⟩
theorem own_plain {Z : State} {h : Heap} {a : Addr} {C : String} (F : Exa Z h a C) : ∃ c : Cell, h[a]? = some c ∧ c.vm.isStatics = false := by obtain ⟨c, k, h1, -, -, h4, -⟩ := F; exact ⟨c, h1, h4⟩
theorem own_sta_keep {Z : State} {h h' : Heap} {ws : List Addr} {C n d : String} {v : Value} (F : Sta Z h C n d v) (K : Keep h h' ws) (q : ∀ x ∈ ws, ∃ c : Cell, h[x]? = some c ∧ c.vm.isStatics = false) : Sta Z h' C n d v := by
  obtain ⟨cf, i, k, f, st, cell, h1, h2, h3, h4, h5, h6, h7⟩ := F
  refine ⟨cf, i, k, f, st, cell, h1, h2, h3, h4, K.2.1 st cell h5 fun hm => ?_, h6, h7⟩
  obtain ⟨c, g1, g2⟩ := q st hm
  cases h5.symm.trans g1
  rw [h6] at g2; cases g2
theorem own_ins_keep {Z : State} {h h' : Heap} {ws : List Addr} {a : Addr} {C : String} {b : Bool} (F : Ins Z h a C b) (K : Keep h h' ws) : Ins Z h' a C b := by
  obtain ⟨cell, cT, h1, h2, h3⟩ := F
  obtain ⟨c', g1, g2, g3, -⟩ := K.2.2 a cell h1
  exact ⟨c', cT, g1, h2, by rw [g2, g3]; exact h3⟩
/-- an array of which the length alone is known -/
def own_Len (Z : State) (h : Heap) (a : Addr) (ty : FieldType) (n : Int32) : Prop := ∃ c : Cell, Arr Z h a c ty ∧ c.slots.size = n.toNatClampNeg ∧ ¬ n < 0
theorem own_Len.lt {Z : State} {h : Heap} {a : Addr} {ty : FieldType} {n : Int32} (F : own_Len Z h a ty n) : a < h.size := by obtain ⟨c, A, -⟩ := F; exact A.lt
theorem own_Len.new {Z : State} {h : Heap} {a : Addr} {k : ClassId} {ty : FieldType} {n : Int32} (A : Arr Z h a (newA k ty n) ty) (q : ¬ n < 0) : own_Len Z h a ty n := ⟨_, A, sz_new _ _ _, q⟩
theorem own_Len.ext {Z : State} {h h' : Heap} {a : Addr} {ty : FieldType} {n : Int32} (F : own_Len Z h a ty n) (E : Ext h h') : own_Len Z h' a ty n := by obtain ⟨c, A, r⟩ := F; exact ⟨c, A.ext E, r⟩
theorem own_Len.other {Z : State} {h h' : Heap} {a b : Addr} {sl : Nat} {v : Value} {ty : FieldType} {n : Int32} (F : own_Len Z h b ty n) (W : Wr h h' a sl v) (q : b ≠ a) : own_Len Z h' b ty n := by obtain ⟨c, A, r⟩ := F; exact ⟨c, A.other W q, r⟩
theorem own_Len.keep {Z : State} {h h' : Heap} {a : Addr} {ws : List Addr} {ty : FieldType} {n : Int32} (F : own_Len Z h a ty n) (K : Keep h h' ws) (q : a ∉ ws) : own_Len Z h' a ty n := by obtain ⟨c, A, r⟩ := F; exact ⟨c, ⟨K.2.1 a c A.1 q, A.2⟩, r⟩
theorem own_unt_keep {h h' : Heap} {a : Addr} {ws : List Addr} (F : Unt h a) (K : Keep h h' ws) (q : a ∉ ws) : Unt h' a := by obtain ⟨c, h1, r⟩ := F; exact ⟨c, K.2.1 a c h1 q, r⟩
theorem own_unt_lt {h : Heap} {a : Addr} (F : Unt h a) : a < h.size := by obtain ⟨c, h1, -⟩ := F; exact (Array.getElem?_eq_some_iff.mp h1).1
/-- an array of references, of known values, its component's class C -/
def own_ArvR (Z : State) (h : Heap) (a : Addr) (C : String) (n : Int32) (vs : List Value) : Prop := ∃ k, Arv Z h a k (.object C) n vs .null ∧ Ovr Z k C
theorem own_ArvR.lt {Z : State} {h : Heap} {a : Addr} {C : String} {n : Int32} {vs : List Value} (F : own_ArvR Z h a C n vs) : a < h.size := by obtain ⟨k, F, -⟩ := F; exact F.lt
theorem own_ArvR.ext {Z : State} {h h' : Heap} {a : Addr} {C : String} {n : Int32} {vs : List Value} (F : own_ArvR Z h a C n vs) (E : Ext h h') : own_ArvR Z h' a C n vs := by obtain ⟨k, F, O⟩ := F; exact ⟨k, F.ext E, O⟩
theorem own_ArvR.other {Z : State} {h h' : Heap} {a b : Addr} {sl : Nat} {v : Value} {C : String} {n : Int32} {vs : List Value} (F : own_ArvR Z h b C n vs) (W : Wr h h' a sl v) (q : b ≠ a) : own_ArvR Z h' b C n vs := by obtain ⟨k, F, O⟩ := F; exact ⟨k, F.other W q, O⟩
theorem own_ArvR.keep {Z : State} {h h' : Heap} {a : Addr} {ws : List Addr} {C : String} {n : Int32} {vs : List Value} (F : own_ArvR Z h a C n vs) (K : Keep h h' ws) (q : a ∉ ws) : own_ArvR Z h' a C n vs := by obtain ⟨k, F, O⟩ := F; exact ⟨k, F.keep K q, O⟩
theorem own_plainB {Z : State} {h : Heap} {a : Addr} {C : String} {n : Int32} {vs : List Value} (F : own_ArvR Z h a C n vs) : ∃ c : Cell, h[a]? = some c ∧ c.vm.isStatics = false := by obtain ⟨k, ⟨c, A, -⟩, -⟩ := F; exact ⟨c, A.1, A.plain⟩
theorem own_plainA {Z : State} {h : Heap} {a : Addr} {ty : FieldType} {n : Int32} {vs : List Value} {d : Value} (F : own_Arv Z h a ty n vs d) : ∃ c : Cell, h[a]? = some c ∧ c.vm.isStatics = false := by obtain ⟨k, c, A, -⟩ := F; exact ⟨c, A.1, A.plain⟩
theorem own_plainL {Z : State} {h : Heap} {a : Addr} {ty : FieldType} {n : Int32} (F : own_Len Z h a ty n) : ∃ c : Cell, h[a]? = some c ∧ c.vm.isStatics = false := by obtain ⟨c, A, -⟩ := F; exact ⟨c, A.1, A.plain⟩
theorem own_neA {Z : State} {h : Heap} {x b : Addr} {C : String} {a0 : Array Value} {m : Nat} {ty : FieldType} {n : Int32} {vs : List Value} {d : Value} (E : Exa Z h x C) (F : own_Arv Z h b ty n vs d) (w : (Jvm.Cond.instantiable C m).before a0 Z = true) : x ≠ b := by obtain ⟨k, c, A, -⟩ := F; exact ne_arr E w A
theorem own_neL {Z : State} {h : Heap} {x b : Addr} {C : String} {a0 : Array Value} {m : Nat} {ty : FieldType} {n : Int32} (E : Exa Z h x C) (F : own_Len Z h b ty n) (w : (Jvm.Cond.instantiable C m).before a0 Z = true) : x ≠ b := by obtain ⟨c, A, -⟩ := F; exact ne_arr E w A
theorem own_neB {Z : State} {h : Heap} {x b : Addr} {C D : String} {a0 : Array Value} {m : Nat} {n : Int32} {vs : List Value} (E : Exa Z h x C) (F : own_ArvR Z h b D n vs) (w : (Jvm.Cond.instantiable C m).before a0 Z = true) : x ≠ b := by obtain ⟨k, ⟨c, A, -⟩, -⟩ := F; exact ne_arr E w A

theorem own_ord {args : Array Value} {s : State} {t : Term} {C n d : String} {k : Int32} {a : Addr} (ev : t.eval args s none [] s = some (.ref a)) (h : (Jvm.Cond.eq (.field t C n d) (.int k)).value args s none s [] = some true) : s.fieldOf? a C n d = some (.int k) := by
  obtain ⟨x, y, e1, e2, -, k2⟩ := cmp_v (Or.inl h)
  have e3 : y = .int k := (Option.some.inj e2).symm
  subst e3
  obtain ⟨z, rfl⟩ := k2
  have q := gotT (Cond.eq_ints e1 e2) h
  rw [← fld_at (C := C) (n := n) (dd := d) ev, e1, q]
theorem d1_0 : decode prog_15_method_5_code 0 = .ok (.aload_n 0, 1) := by decide +kernel
theorem d1_1 : decode prog_15_method_5_code 1 = .ok (.getstatic 3, 3) := by decide +kernel
theorem d1_4 : decode prog_15_method_5_code 4 = .ok (.if_acmp .eq 10, 3) := by decide +kernel
theorem d1_14 : decode prog_15_method_5_code 14 = .ok (.iconst 1, 1) := by decide +kernel
theorem d1_15 : decode prog_15_method_5_code 15 = .ok (.goto 4, 3) := by decide +kernel
theorem d1_19 : decode prog_15_method_5_code 19 = .ok (.ireturn, 1) := by decide +kernel
theorem d1_7 : decode prog_15_method_5_code 7 = .ok (.aload_n 0, 1) := by decide +kernel
theorem d1_8 : decode prog_15_method_5_code 8 = .ok (.getstatic 7, 3) := by decide +kernel
theorem d1_11 : decode prog_15_method_5_code 11 = .ok (.if_acmp .ne 7, 3) := by decide +kernel
theorem d1_18 : decode prog_15_method_5_code 18 = .ok (.iconst 0, 1) := by decide +kernel
theorem pn_10 : plainName "com/example/lendwell/lendwell/model/HoldStatus" = true := by first | (simp [plainName, overriddenIn]; done) | decide +kernel
theorem ef_isOpen (m : MethodId) (x0 : Addr) : entryFrame m #[(.ref x0)] 1 = mkF m 0 #[.val (.ref x0)] [] := by first | (simp [entryFrame, mkF, argsToLocals, Value.category]; done) | rfl
def isOpen_r (o0 : Addr) (w_s_QUEUED : Addr) (w_s_TRAPPED : Addr) : Int32 := (if o0 = w_s_QUEUED then (1 : Int32) else (if o0 = w_s_TRAPPED then (1 : Int32) else (0 : Int32)))
def QisOpen (Z : State) (o0 : Addr) (w_s_QUEUED : Addr) (w_s_TRAPPED : Addr) (h0 : Heap) (n0 : Nat) (v : Option Value) (h : Heap) (L : List Loc) : Prop := v = some (.int (isOpen_r o0 w_s_QUEUED w_s_TRAPPED)) ∧ Fr n0 L ∧ h = h0
set_option maxRecDepth 65536 in
set_option maxHeartbeats 40000000 in
theorem isOpen (l : Launch) (Z : State) (a0 : Array Value) (hw : ∀ d ∈ tables_1, d.before a0 Z = true) (ws : List Jvm.Cond) (o0 : Addr) (w_s_QUEUED : Addr) (w_s_TRAPPED : Addr) (h0 : Heap) (n0 : Nat) (Z0 : n0 ≤ h0.size) (S_QUEUED : Sta Z h0 "com/example/lendwell/lendwell/model/HoldStatus" "QUEUED" "Lcom/example/lendwell/lendwell/model/HoldStatus;" (.ref w_s_QUEUED)) (S_TRAPPED : Sta Z h0 "com/example/lendwell/lendwell/model/HoldStatus" "TRAPPED" "Lcom/example/lendwell/lendwell/model/HoldStatus;" (.ref w_s_TRAPPED)) :
    MetFree l (⟨"com/example/lendwell/lendwell/model/HoldStatus", "isOpen", "()Z"⟩ : MethodName) (head1 (Jvm.Cond.code (⟨"com/example/lendwell/lendwell/model/HoldStatus", "isOpen", "()Z"⟩ : MethodName) prog_15_method_5_code 1 (some .boolean) :: ws) ({ frames := 0, cells := 0, slots := 0, locals := 0 } : Room)) (fun a U => a = #[(.ref o0)] ∧ Z.Warmed39 U.vm ∧ U.heap = h0) (fun _ _ _ _ _ => True) (fun _ U o U' => ∃ v L, o = .returned v ∧ QisOpen Z o0 w_s_QUEUED w_s_TRAPPED h0 n0 v U'.heap L ∧ FrameEnd U o U' L ({ frames := 0, cells := 0, slots := 0, locals := 0 } : Room).cells ({ frames := 0, cells := 0, slots := 0, locals := 0 } : Room).slots) := by
  refine MetFree.of_bodySF (plainFor_of_name pn_10) hisR ?_
  intro p e s m args below meth c s₁ Bd hml0 hP hK
  obtain ⟨rfl, hZ, hh⟩ := hP
  have hx := Bd.exec
  have hby := Bd.bytes
  have hml : c.maxLocals = 1 := hml0
  have hown : s.vm.findClass "com/example/lendwell/lendwell/model/HoldStatus" = some m.cls := findClass_of_methodNamed Bd.named
  have hnm := (name_of_methodNamed Bd.named Bd.method).1
  have X0 : Stand p l e ({ frames := 0, cells := 0, slots := 0, locals := 0 } : Room) s m #[(.ref o0)] below meth c s₁ [] 0 0 := Stand.of_body Bd
  have e0 : s₁.heap = h0 := by rw [← hh, Bd.state]; rfl
  have N0 := Fr.nil n0
  show own_Go p e below s (QisOpen Z o0 w_s_QUEUED w_s_TRAPPED h0 n0) ({ frames := 0, cells := 0, slots := 0, locals := 0 } : Room).cells ({ frames := 0, cells := 0, slots := 0, locals := 0 } : Room).slots (s₁.setTop (entryFrame m #[(.ref o0)] 1))
  rw [ef_isOpen m o0]
  have K0 : Keep h0 h0 [] := Keep.refl h0 []
  refine own_go (S' := s₁.setTop (mkF m 1 #[.val (.ref o0)] [(.ref o0)])) (fun t k => ?_) ?_
  · show Steps p.tables e below (s₁.setTop (mkF m 0 #[.val (.ref o0)] [])) t
    refine XS.aloadN X0.here hx rfl (hb hby d1_0) rfl rfl ?_
    exact k
  obtain ⟨T1, X1, e1, st1⟩ := getS2 X0 hx hZ hown (host := "") (Or.inl (hw _ (List.mem_of_getElem? (i := 9) rfl))) Via.refl e0 S_QUEUED (g := (mkF m 1 #[.val (.ref o0)] [(.ref o0)])) rfl (hb hby d1_1)
  refine own_go st1 ?_
  by_cases hc4 : o0 = w_s_QUEUED
  · skip
    refine own_go (S' := T1.setTop (mkF m 19 #[.val (.ref o0)] [(.int (1 : Int32))])) (fun t k => ?_) ?_
    · show Steps p.tables e below (T1.setTop (mkF m 4 #[.val (.ref o0)] [(.ref w_s_QUEUED), (.ref o0)])) t
      refine Jvm.RoadKit.acmp (g := (mkF m 4 #[.val (.ref o0)] [(.ref w_s_QUEUED), (.ref o0)])) X1 hx rfl rfl rfl (pc0 := 4) (pc' := 14) (same := true) rfl (hb hby d1_4) rfl (decide_eq_true (congrArg Value.ref hc4)) (by decide) (by decide) ?_
      show Steps p.tables e below (T1.setTop (mkF m 14 #[.val (.ref o0)] [])) t
      refine XS.iconst X1.here hx rfl (hb hby d1_14) ?_
      show Steps p.tables e below (T1.setTop (mkF m 15 #[.val (.ref o0)] [(.int (1 : Int32))])) t
      refine XS.goto X1.here hx rfl (pc0 := 15) (pc' := 19) rfl (hb hby d1_15) (by decide) (by decide) ?_
      exact k
    obtain ⟨fs, hr, hrun, hended, hW, hsame⟩ := X1.leave (v := some (.int (1 : Int32))) (fun h => by rw [Bd.returns] at h; cases h)
    refine own_end (v := some (.int (1 : Int32))) ?_ hrun hended ?_ hW (hsame.mono (by decide) (by decide))
    · show Steps p.tables e below (T1.setTop (mkF m 19 #[.val (.ref o0)] [(.int (1 : Int32))])) _
      exact retN X1 hx (t := .boolean) Bd.returns (by simp) (hb hby d1_19) hr
    · show QisOpen Z o0 w_s_QUEUED w_s_TRAPPED h0 n0 _ T1.heap _
      rw [e1]
      exact ⟨(by simp only [isOpen_r, if_pos hc4]), N0, rfl⟩
  · skip
    refine own_go (S' := T1.setTop (mkF m 8 #[.val (.ref o0)] [(.ref o0)])) (fun t k => ?_) ?_
    · show Steps p.tables e below (T1.setTop (mkF m 4 #[.val (.ref o0)] [(.ref w_s_QUEUED), (.ref o0)])) t
      refine Jvm.RoadKit.acmp (g := (mkF m 4 #[.val (.ref o0)] [(.ref w_s_QUEUED), (.ref o0)])) X1 hx rfl rfl rfl (pc0 := 4) (pc' := 7) (same := false) rfl (hb hby d1_4) rfl (decide_eq_false fun q => hc4 (Value.ref.inj q)) (by decide) (by decide) ?_
      show Steps p.tables e below (T1.setTop (mkF m 7 #[.val (.ref o0)] [])) t
      refine XS.aloadN X1.here hx rfl (hb hby d1_7) rfl rfl ?_
      exact k
    obtain ⟨T2, X2, e2, st2⟩ := getS2 X1 hx hZ hown (host := "") (Or.inl (hw _ (List.mem_of_getElem? (i := 12) rfl))) Via.refl e1 S_TRAPPED (g := (mkF m 8 #[.val (.ref o0)] [(.ref o0)])) rfl (hb hby d1_8)
    refine own_go st2 ?_
    by_cases hc11 : o0 = w_s_TRAPPED
    · skip
      refine own_go (S' := T2.setTop (mkF m 19 #[.val (.ref o0)] [(.int (1 : Int32))])) (fun t k => ?_) ?_
      · show Steps p.tables e below (T2.setTop (mkF m 11 #[.val (.ref o0)] [(.ref w_s_TRAPPED), (.ref o0)])) t
        refine Jvm.RoadKit.acmp (g := (mkF m 11 #[.val (.ref o0)] [(.ref w_s_TRAPPED), (.ref o0)])) X2 hx rfl rfl rfl (pc0 := 11) (pc' := 14) (same := true) rfl (hb hby d1_11) rfl (decide_eq_true (congrArg Value.ref hc11)) (by decide) (by decide) ?_
        show Steps p.tables e below (T2.setTop (mkF m 14 #[.val (.ref o0)] [])) t
        refine XS.iconst X2.here hx rfl (hb hby d1_14) ?_
        show Steps p.tables e below (T2.setTop (mkF m 15 #[.val (.ref o0)] [(.int (1 : Int32))])) t
        refine XS.goto X2.here hx rfl (pc0 := 15) (pc' := 19) rfl (hb hby d1_15) (by decide) (by decide) ?_
        exact k
      obtain ⟨fs, hr, hrun, hended, hW, hsame⟩ := X2.leave (v := some (.int (1 : Int32))) (fun h => by rw [Bd.returns] at h; cases h)
      refine own_end (v := some (.int (1 : Int32))) ?_ hrun hended ?_ hW (hsame.mono (by decide) (by decide))
      · show Steps p.tables e below (T2.setTop (mkF m 19 #[.val (.ref o0)] [(.int (1 : Int32))])) _
        exact retN X2 hx (t := .boolean) Bd.returns (by simp) (hb hby d1_19) hr
      · show QisOpen Z o0 w_s_QUEUED w_s_TRAPPED h0 n0 _ T2.heap _
        rw [e2]
        exact ⟨(by simp only [isOpen_r, if_neg hc4, if_pos hc11]), N0, rfl⟩
    · skip
      refine own_go (S' := T2.setTop (mkF m 19 #[.val (.ref o0)] [(.int (0 : Int32))])) (fun t k => ?_) ?_
      · show Steps p.tables e below (T2.setTop (mkF m 11 #[.val (.ref o0)] [(.ref w_s_TRAPPED), (.ref o0)])) t
        refine Jvm.RoadKit.acmp (g := (mkF m 11 #[.val (.ref o0)] [(.ref w_s_TRAPPED), (.ref o0)])) X2 hx rfl rfl rfl (pc0 := 11) (pc' := 18) (same := false) rfl (hb hby d1_11) rfl (decide_eq_false fun q => hc11 (Value.ref.inj q)) (by decide) (by decide) ?_
        show Steps p.tables e below (T2.setTop (mkF m 18 #[.val (.ref o0)] [])) t
        refine XS.iconst X2.here hx rfl (hb hby d1_18) ?_
        exact k
      obtain ⟨fs, hr, hrun, hended, hW, hsame⟩ := X2.leave (v := some (.int (0 : Int32))) (fun h => by rw [Bd.returns] at h; cases h)
      refine own_end (v := some (.int (0 : Int32))) ?_ hrun hended ?_ hW (hsame.mono (by decide) (by decide))
      · show Steps p.tables e below (T2.setTop (mkF m 19 #[.val (.ref o0)] [(.int (0 : Int32))])) _
        exact retN X2 hx (t := .boolean) Bd.returns (by simp) (hb hby d1_19) hr
      · show QisOpen Z o0 w_s_QUEUED w_s_TRAPPED h0 n0 _ T2.heap _
        rw [e2]
        exact ⟨(by simp only [isOpen_r, if_neg hc4, if_neg hc11]), N0, rfl⟩
theorem pd_11 : parseMethodDescriptor "()Z" = some ⟨[], some .boolean⟩ := by decide +kernel
theorem pn_12 : plainName "com/example/lendwell/lendwell/model/HoldStatusIsOpenPinLaw" = true := by first | (simp [plainName, overriddenIn]; done) | decide +kernel
theorem ef_rm0 (m : MethodId) (x0 : Int32) : entryFrame m #[(.int x0)] maxLocals = mkF m 0 #[.val (.int x0), .unset, .unset, .unset] [] := by first | (simp [entryFrame, mkF, argsToLocals, Value.category, maxLocals]; done) | rfl
def Qrm0 (Z : State) (p0 : Int32) (w_s_QUEUED : Addr) (w_s_TRAPPED : Addr) (w_s_FULFILLED : Addr) (w_s_EXPIRED : Addr) (w_s_CANCELLED : Addr) (h0 : Heap) (n0 : Nat) (v : Option Value) (h : Heap) (L : List Loc) : Prop := v = some (.int 1) ∧ Fr n0 L
set_option maxRecDepth 65536 in
set_option maxHeartbeats 40000000 in
theorem rm0 (l : Launch) (Z : State) (a0 : Array Value) (hw : ∀ d ∈ tables_1, d.before a0 Z = true) (ws : List Jvm.Cond) (p0 : Int32) (w_s_QUEUED : Addr) (w_s_TRAPPED : Addr) (w_s_FULFILLED : Addr) (w_s_EXPIRED : Addr) (w_s_CANCELLED : Addr) (h0 : Heap) (n0 : Nat) (Z0 : n0 ≤ h0.size) (ne_FULFILLED_QUEUED : w_s_FULFILLED ≠ w_s_QUEUED) (ne_FULFILLED_TRAPPED : w_s_FULFILLED ≠ w_s_TRAPPED) (ne_EXPIRED_QUEUED : w_s_EXPIRED ≠ w_s_QUEUED) (ne_EXPIRED_TRAPPED : w_s_EXPIRED ≠ w_s_TRAPPED) (ne_CANCELLED_QUEUED : w_s_CANCELLED ≠ w_s_QUEUED) (ne_CANCELLED_TRAPPED : w_s_CANCELLED ≠ w_s_TRAPPED) (S_QUEUED : Sta Z h0 "com/example/lendwell/lendwell/model/HoldStatus" "QUEUED" "Lcom/example/lendwell/lendwell/model/HoldStatus;" (.ref w_s_QUEUED)) (S_TRAPPED : Sta Z h0 "com/example/lendwell/lendwell/model/HoldStatus" "TRAPPED" "Lcom/example/lendwell/lendwell/model/HoldStatus;" (.ref w_s_TRAPPED)) (E_w_s_QUEUED : Exa Z h0 w_s_QUEUED "com/example/lendwell/lendwell/model/HoldStatus") (E_w_s_TRAPPED : Exa Z h0 w_s_TRAPPED "com/example/lendwell/lendwell/model/HoldStatus") (S_FULFILLED : Sta Z h0 "com/example/lendwell/lendwell/model/HoldStatus" "FULFILLED" "Lcom/example/lendwell/lendwell/model/HoldStatus;" (.ref w_s_FULFILLED)) (E_w_s_FULFILLED : Exa Z h0 w_s_FULFILLED "com/example/lendwell/lendwell/model/HoldStatus") (S_EXPIRED : Sta Z h0 "com/example/lendwell/lendwell/model/HoldStatus" "EXPIRED" "Lcom/example/lendwell/lendwell/model/HoldStatus;" (.ref w_s_EXPIRED)) (E_w_s_EXPIRED : Exa Z h0 w_s_EXPIRED "com/example/lendwell/lendwell/model/HoldStatus") (S_CANCELLED : Sta Z h0 "com/example/lendwell/lendwell/model/HoldStatus" "CANCELLED" "Lcom/example/lendwell/lendwell/model/HoldStatus;" (.ref w_s_CANCELLED)) (E_w_s_CANCELLED : Exa Z h0 w_s_CANCELLED "com/example/lendwell/lendwell/model/HoldStatus") :
    MetFree l x (head1 (Jvm.Cond.code x code maxLocals ret :: ws) room_1) (fun a U => a = #[(.int p0)] ∧ Z.Warmed39 U.vm ∧ U.heap = h0) (fun _ _ _ _ _ => True) (fun _ U o U' => ∃ v L, o = .returned v ∧ Qrm0 Z p0 w_s_QUEUED w_s_TRAPPED w_s_FULFILLED w_s_EXPIRED w_s_CANCELLED h0 n0 v U'.heap L ∧ FrameEnd U o U' L room_1.cells room_1.slots) := by
  refine MetFree.of_bodySF (plainFor_of_name pn_12) hisR ?_
  intro p e s m args below meth c s₁ Bd hml0 hP hK
  obtain ⟨rfl, hZ, hh⟩ := hP
  have hx := Bd.exec
  have hby := Bd.bytes
  have hml : c.maxLocals = 4 := hml0
  have hown : s.vm.findClass "com/example/lendwell/lendwell/model/HoldStatusIsOpenPinLaw" = some m.cls := findClass_of_methodNamed Bd.named
  have hnm := (name_of_methodNamed Bd.named Bd.method).1
  have X0 : Stand p l e room_1 s m #[(.int p0)] below meth c s₁ [] 0 0 := Stand.of_body Bd
  have e0 : s₁.heap = h0 := by rw [← hh, Bd.state]; rfl
  have N0 := Fr.nil n0
  show own_Go p e below s (Qrm0 Z p0 w_s_QUEUED w_s_TRAPPED w_s_FULFILLED w_s_EXPIRED w_s_CANCELLED h0 n0) room_1.cells room_1.slots (s₁.setTop (entryFrame m #[(.int p0)] maxLocals))
  rw [ef_rm0 m p0]
  refine own_go (S' := s₁.setTop (mkF m 8 #[.val (.int p0), .val (.int ((p0 &&& (2147483647 : Int32)) % (5 : Int32))), .unset, .unset] [(.int ((p0 &&& (2147483647 : Int32)) % (5 : Int32)))])) (fun t k => ?_) ?_
  · show Steps p.tables e below (s₁.setTop (mkF m 0 #[.val (.int p0), .unset, .unset, .unset] [])) t
    refine XS.iloadN X0.here hx rfl (hb hby at_0) rfl ?_
    show Steps p.tables e below (s₁.setTop (mkF m 1 #[.val (.int p0), .unset, .unset, .unset] [(.int p0)])) t
    refine X0.ldcInt hx hown (mvT hZ (hw _ (List.mem_of_getElem? (i := 0) rfl))) (g := (mkF m 1 #[.val (.int p0), .unset, .unset, .unset] [(.int p0)])) rfl (hb hby at_1) _ ?_
    show Steps p.tables e below (s₁.setTop (mkF m 3 #[.val (.int p0), .unset, .unset, .unset] [(.int (2147483647 : Int32)), (.int p0)])) t
    refine XS.iand X0.here hx rfl (hb hby at_3) rfl ?_
    show Steps p.tables e below (s₁.setTop (mkF m 4 #[.val (.int p0), .unset, .unset, .unset] [(.int (p0 &&& (2147483647 : Int32)))])) t
    refine XS.iconst X0.here hx rfl (hb hby at_4) ?_
    show Steps p.tables e below (s₁.setTop (mkF m 5 #[.val (.int p0), .unset, .unset, .unset] [(.int (5 : Int32)), (.int (p0 &&& (2147483647 : Int32)))])) t
    refine iremM X0 hx rfl (hb hby at_5) rfl (by decide) ?_
    show Steps p.tables e below (s₁.setTop (mkF m 6 #[.val (.int p0), .unset, .unset, .unset] [(.int ((p0 &&& (2147483647 : Int32)) % (5 : Int32)))])) t
    refine XS.istoreN X0.here hx rfl (hb hby at_6) rfl (l' := #[.val (.int p0), .val (.int ((p0 &&& (2147483647 : Int32)) % (5 : Int32))), .unset, .unset]) rfl ?_
    show Steps p.tables e below (s₁.setTop (mkF m 7 #[.val (.int p0), .val (.int ((p0 &&& (2147483647 : Int32)) % (5 : Int32))), .unset, .unset] [])) t
    refine XS.iloadN X0.here hx rfl (hb hby at_7) rfl ?_
    exact k
  by_cases hc8 : ((p0 &&& (2147483647 : Int32)) % (5 : Int32)) = (0 : Int32)
  · skip
    refine own_go (S' := s₁.setTop (mkF m 11 #[.val (.int p0), .val (.int ((p0 &&& (2147483647 : Int32)) % (5 : Int32))), .unset, .unset] [])) (fun t k => ?_) ?_
    · show Steps p.tables e below (s₁.setTop (mkF m 8 #[.val (.int p0), .val (.int ((p0 &&& (2147483647 : Int32)) % (5 : Int32))), .unset, .unset] [(.int ((p0 &&& (2147483647 : Int32)) % (5 : Int32)))])) t
      refine XS.ifNo X0.here hx rfl (hb hby at_8) rfl ((if0 _ _).trans (teq hc8).2) ?_
      exact k
    obtain ⟨T3, X3, e3, st3⟩ := getS2 X0 hx hZ hown (host := "") (Or.inl (hw _ (List.mem_of_getElem? (i := 1) rfl))) Via.refl e0 S_QUEUED (g := (mkF m 11 #[.val (.int p0), .val (.int ((p0 &&& (2147483647 : Int32)) % (5 : Int32))), .unset, .unset] [])) rfl (hb hby at_11)
    refine own_go st3 ?_
    refine own_go (S' := T3.setTop (mkF m 69 #[.val (.int p0), .val (.int ((p0 &&& (2147483647 : Int32)) % (5 : Int32))), .val (.ref w_s_QUEUED), .val (.int (1 : Int32))] [(.ref w_s_QUEUED)])) (fun t k => ?_) ?_
    · show Steps p.tables e below (T3.setTop (mkF m 14 #[.val (.int p0), .val (.int ((p0 &&& (2147483647 : Int32)) % (5 : Int32))), .unset, .unset] [(.ref w_s_QUEUED)])) t
      refine XS.astoreN X3.here hx rfl (hb hby at_14) rfl rfl (l' := #[.val (.int p0), .val (.int ((p0 &&& (2147483647 : Int32)) % (5 : Int32))), .val (.ref w_s_QUEUED), .unset]) rfl ?_
      show Steps p.tables e below (T3.setTop (mkF m 15 #[.val (.int p0), .val (.int ((p0 &&& (2147483647 : Int32)) % (5 : Int32))), .val (.ref w_s_QUEUED), .unset] [])) t
      refine XS.iconst X3.here hx rfl (hb hby at_15) ?_
      show Steps p.tables e below (T3.setTop (mkF m 16 #[.val (.int p0), .val (.int ((p0 &&& (2147483647 : Int32)) % (5 : Int32))), .val (.ref w_s_QUEUED), .unset] [(.int (1 : Int32))])) t
      refine XS.istoreN X3.here hx rfl (hb hby at_16) rfl (l' := #[.val (.int p0), .val (.int ((p0 &&& (2147483647 : Int32)) % (5 : Int32))), .val (.ref w_s_QUEUED), .val (.int (1 : Int32))]) rfl ?_
      show Steps p.tables e below (T3.setTop (mkF m 17 #[.val (.int p0), .val (.int ((p0 &&& (2147483647 : Int32)) % (5 : Int32))), .val (.ref w_s_QUEUED), .val (.int (1 : Int32))] [])) t
      refine XS.goto X3.here hx rfl (pc0 := 17) (pc' := 68) rfl (hb hby at_17) (by decide) (by decide) ?_
      show Steps p.tables e below (T3.setTop (mkF m 68 #[.val (.int p0), .val (.int ((p0 &&& (2147483647 : Int32)) % (5 : Int32))), .val (.ref w_s_QUEUED), .val (.int (1 : Int32))] [])) t
      refine XS.aloadN X3.here hx rfl (hb hby at_68) rfl rfl ?_
      exact k
    obtain ⟨cq4, kq4, qa4, qb4, qc4⟩ := isOf hZ e3 E_w_s_QUEUED
    obtain ⟨_, _, ⟨T4, L4, kk4, nn4⟩, -, X4, ⟨Lc4, hQ4, l4, y4, z4⟩, st4⟩ := X3.virtualBack hx (y := (⟨"com/example/lendwell/lendwell/model/HoldStatus", "isOpen", "()Z"⟩ : MethodName)) (z := (⟨"com/example/lendwell/lendwell/model/HoldStatus", "isOpen", "()Z"⟩ : MethodName)) hown (mvT hZ (hw _ (List.mem_of_getElem? (i := 4) rfl))) (mvT hZ (hw _ (List.mem_of_getElem? (i := 5) rfl))) (notFace_of_selects (args := #[]) (mvT hZ (hw _ (List.mem_of_getElem? (i := 7) rfl)))) (mvT hZ (hw _ (List.mem_of_getElem? (i := 7) rfl))) (mvT hZ (hw _ (List.mem_of_getElem? (i := 6) rfl))) (by decide) (backOf (W := 0) (isOpen l Z a0 hw [] w_s_QUEUED w_s_QUEUED w_s_TRAPPED h0 n0 Z0 S_QUEUED S_TRAPPED) hZ (hw _ (List.mem_of_getElem? (i := 8) rfl)) (hw _ (List.mem_of_getElem? (i := 2) rfl)) (by decide) (by decide)) qa4 qc4 (g := (mkF m 69 #[.val (.int p0), .val (.int ((p0 &&& (2147483647 : Int32)) % (5 : Int32))), .val (.ref w_s_QUEUED), .val (.int (1 : Int32))] [(.ref w_s_QUEUED)])) rfl (by rw [hml]; rfl) (Steps.refl _) (argsL := []) (rest := []) (lenOf pd_11 rfl) rfl (by show 2 * 0 + _ ≤ _; exact Nat.le_of_eq rfl) (hb hby at_69) (fun _ _ => ⟨rfl, e3, (by decide : 0 + 0 ≤ _), (by decide : 0 + 0 ≤ _)⟩)
    dsimp only [Pt.U, Pt.locs, Pt.cells, Pt.slots] at X4 l4 y4 z4 st4 hQ4
    subst l4 y4 z4
    obtain ⟨rfl, N5, e4⟩ := hQ4
    have N7 := Fr.app N0 N5
    refine own_goT st4 ?_
    refine own_go (S' := T4.setTop (mkF m 73 #[.val (.int p0), .val (.int ((p0 &&& (2147483647 : Int32)) % (5 : Int32))), .val (.ref w_s_QUEUED), .val (.int (1 : Int32))] [(.int (1 : Int32)), (.int (isOpen_r w_s_QUEUED w_s_QUEUED w_s_TRAPPED))])) (fun t k => ?_) ?_
    · show Steps p.tables e below (T4.setTop (mkF m 72 #[.val (.int p0), .val (.int ((p0 &&& (2147483647 : Int32)) % (5 : Int32))), .val (.ref w_s_QUEUED), .val (.int (1 : Int32))] [(.int (isOpen_r w_s_QUEUED w_s_QUEUED w_s_TRAPPED))])) t
      refine XS.iloadN X4.here hx rfl (hb hby at_72) rfl ?_
      exact k
    refine own_go (S' := T4.setTop (mkF m 81 #[.val (.int p0), .val (.int ((p0 &&& (2147483647 : Int32)) % (5 : Int32))), .val (.ref w_s_QUEUED), .val (.int (1 : Int32))] [(.int (if (isOpen_r w_s_QUEUED w_s_QUEUED w_s_TRAPPED) = (1 : Int32) then (1 : Int32) else (0 : Int32)))])) (fun t k => ?_) ?_
    · show Steps p.tables e below (T4.setTop (mkF m 73 #[.val (.int p0), .val (.int ((p0 &&& (2147483647 : Int32)) % (5 : Int32))), .val (.ref w_s_QUEUED), .val (.int (1 : Int32))] [(.int (1 : Int32)), (.int (isOpen_r w_s_QUEUED w_s_QUEUED w_s_TRAPPED))])) t
      by_cases hc73 : (isOpen_r w_s_QUEUED w_s_QUEUED w_s_TRAPPED) = (1 : Int32)
      · show Steps p.tables e below (T4.setTop (mkF m 73 #[.val (.int p0), .val (.int ((p0 &&& (2147483647 : Int32)) % (5 : Int32))), .val (.ref w_s_QUEUED), .val (.int (1 : Int32))] [(.int (1 : Int32)), (.int (isOpen_r w_s_QUEUED w_s_QUEUED w_s_TRAPPED))])) t
        refine XS.icmpNo X4.here hx rfl (hb hby at_73) rfl (teq hc73).2 ?_
        show Steps p.tables e below (T4.setTop (mkF m 76 #[.val (.int p0), .val (.int ((p0 &&& (2147483647 : Int32)) % (5 : Int32))), .val (.ref w_s_QUEUED), .val (.int (1 : Int32))] [])) t
        refine XS.iconst X4.here hx rfl (hb hby at_76) ?_
        show Steps p.tables e below (T4.setTop (mkF m 77 #[.val (.int p0), .val (.int ((p0 &&& (2147483647 : Int32)) % (5 : Int32))), .val (.ref w_s_QUEUED), .val (.int (1 : Int32))] [(.int (1 : Int32))])) t
        refine XS.goto X4.here hx rfl (pc0 := 77) (pc' := 81) rfl (hb hby at_77) (by decide) (by decide) ?_
        first | exact k | (simp only [if_pos hc73] at k ⊢; exact k)
      · show Steps p.tables e below (T4.setTop (mkF m 73 #[.val (.int p0), .val (.int ((p0 &&& (2147483647 : Int32)) % (5 : Int32))), .val (.ref w_s_QUEUED), .val (.int (1 : Int32))] [(.int (1 : Int32)), (.int (isOpen_r w_s_QUEUED w_s_QUEUED w_s_TRAPPED))])) t
        refine XS.icmpYes X4.here hx rfl (pc0 := 73) (pc' := 80) rfl (hb hby at_73) rfl (feq hc73).2 (by decide) (by decide) ?_
        show Steps p.tables e below (T4.setTop (mkF m 80 #[.val (.int p0), .val (.int ((p0 &&& (2147483647 : Int32)) % (5 : Int32))), .val (.ref w_s_QUEUED), .val (.int (1 : Int32))] [])) t
        refine XS.iconst X4.here hx rfl (hb hby at_80) ?_
        first | exact k | (simp only [if_neg hc73] at k ⊢; exact k)
    have hfin : (if (isOpen_r w_s_QUEUED w_s_QUEUED w_s_TRAPPED) = (1 : Int32) then (1 : Int32) else (0 : Int32)) = (1 : Int32) := by simp [isOpen_r, ne_FULFILLED_QUEUED, ne_FULFILLED_TRAPPED, ne_EXPIRED_QUEUED, ne_EXPIRED_TRAPPED, ne_CANCELLED_QUEUED, ne_CANCELLED_TRAPPED]
    rw [hfin]
    obtain ⟨fs, hr, hrun, hended, hW, hsame⟩ := X4.leave (v := some (.int (1 : Int32))) (fun h => by rw [Bd.returns] at h; cases h)
    refine own_end (v := some (.int (1 : Int32))) ?_ hrun hended ?_ hW (hsame.mono (by decide) (by decide))
    · show Steps p.tables e below (T4.setTop (mkF m 81 #[.val (.int p0), .val (.int ((p0 &&& (2147483647 : Int32)) % (5 : Int32))), .val (.ref w_s_QUEUED), .val (.int (1 : Int32))] [(.int (1 : Int32))])) _
      exact retN X4 hx (t := .boolean) Bd.returns (by simp) (hb hby at_81) hr
    · show Qrm0 Z p0 w_s_QUEUED w_s_TRAPPED w_s_FULFILLED w_s_EXPIRED w_s_CANCELLED h0 n0 _ T4.heap _
      rw [e4]
      exact ⟨rfl, N7⟩
  · skip
    refine own_go (S' := s₁.setTop (mkF m 22 #[.val (.int p0), .val (.int ((p0 &&& (2147483647 : Int32)) % (5 : Int32))), .unset, .unset] [(.int (1 : Int32)), (.int ((p0 &&& (2147483647 : Int32)) % (5 : Int32)))])) (fun t k => ?_) ?_
    · show Steps p.tables e below (s₁.setTop (mkF m 8 #[.val (.int p0), .val (.int ((p0 &&& (2147483647 : Int32)) % (5 : Int32))), .unset, .unset] [(.int ((p0 &&& (2147483647 : Int32)) % (5 : Int32)))])) t
      refine XS.ifYes X0.here hx rfl (pc0 := 8) (pc' := 20) rfl (hb hby at_8) rfl ((if0 _ _).trans (feq hc8).2) (by decide) (by decide) ?_
      show Steps p.tables e below (s₁.setTop (mkF m 20 #[.val (.int p0), .val (.int ((p0 &&& (2147483647 : Int32)) % (5 : Int32))), .unset, .unset] [])) t
      refine XS.iloadN X0.here hx rfl (hb hby at_20) rfl ?_
      show Steps p.tables e below (s₁.setTop (mkF m 21 #[.val (.int p0), .val (.int ((p0 &&& (2147483647 : Int32)) % (5 : Int32))), .unset, .unset] [(.int ((p0 &&& (2147483647 : Int32)) % (5 : Int32)))])) t
      refine XS.iconst X0.here hx rfl (hb hby at_21) ?_
      exact k
    by_cases hc22 : ((p0 &&& (2147483647 : Int32)) % (5 : Int32)) = (1 : Int32)
    · skip
      refine own_go (S' := s₁.setTop (mkF m 25 #[.val (.int p0), .val (.int ((p0 &&& (2147483647 : Int32)) % (5 : Int32))), .unset, .unset] [])) (fun t k => ?_) ?_
      · show Steps p.tables e below (s₁.setTop (mkF m 22 #[.val (.int p0), .val (.int ((p0 &&& (2147483647 : Int32)) % (5 : Int32))), .unset, .unset] [(.int (1 : Int32)), (.int ((p0 &&& (2147483647 : Int32)) % (5 : Int32)))])) t
        refine XS.icmpNo X0.here hx rfl (hb hby at_22) rfl (teq hc22).2 ?_
        exact k
      obtain ⟨T8, X8, e8, st8⟩ := getS2 X0 hx hZ hown (host := "") (Or.inl (hw _ (List.mem_of_getElem? (i := 14) rfl))) Via.refl e0 S_TRAPPED (g := (mkF m 25 #[.val (.int p0), .val (.int ((p0 &&& (2147483647 : Int32)) % (5 : Int32))), .unset, .unset] [])) rfl (hb hby at_25)
      refine own_go st8 ?_
      refine own_go (S' := T8.setTop (mkF m 69 #[.val (.int p0), .val (.int ((p0 &&& (2147483647 : Int32)) % (5 : Int32))), .val (.ref w_s_TRAPPED), .val (.int (1 : Int32))] [(.ref w_s_TRAPPED)])) (fun t k => ?_) ?_
      · show Steps p.tables e below (T8.setTop (mkF m 28 #[.val (.int p0), .val (.int ((p0 &&& (2147483647 : Int32)) % (5 : Int32))), .unset, .unset] [(.ref w_s_TRAPPED)])) t
        refine XS.astoreN X8.here hx rfl (hb hby at_28) rfl rfl (l' := #[.val (.int p0), .val (.int ((p0 &&& (2147483647 : Int32)) % (5 : Int32))), .val (.ref w_s_TRAPPED), .unset]) rfl ?_
        show Steps p.tables e below (T8.setTop (mkF m 29 #[.val (.int p0), .val (.int ((p0 &&& (2147483647 : Int32)) % (5 : Int32))), .val (.ref w_s_TRAPPED), .unset] [])) t
        refine XS.iconst X8.here hx rfl (hb hby at_29) ?_
        show Steps p.tables e below (T8.setTop (mkF m 30 #[.val (.int p0), .val (.int ((p0 &&& (2147483647 : Int32)) % (5 : Int32))), .val (.ref w_s_TRAPPED), .unset] [(.int (1 : Int32))])) t
        refine XS.istoreN X8.here hx rfl (hb hby at_30) rfl (l' := #[.val (.int p0), .val (.int ((p0 &&& (2147483647 : Int32)) % (5 : Int32))), .val (.ref w_s_TRAPPED), .val (.int (1 : Int32))]) rfl ?_
        show Steps p.tables e below (T8.setTop (mkF m 31 #[.val (.int p0), .val (.int ((p0 &&& (2147483647 : Int32)) % (5 : Int32))), .val (.ref w_s_TRAPPED), .val (.int (1 : Int32))] [])) t
        refine XS.goto X8.here hx rfl (pc0 := 31) (pc' := 68) rfl (hb hby at_31) (by decide) (by decide) ?_
        show Steps p.tables e below (T8.setTop (mkF m 68 #[.val (.int p0), .val (.int ((p0 &&& (2147483647 : Int32)) % (5 : Int32))), .val (.ref w_s_TRAPPED), .val (.int (1 : Int32))] [])) t
        refine XS.aloadN X8.here hx rfl (hb hby at_68) rfl rfl ?_
        exact k
      obtain ⟨cq9, kq9, qa9, qb9, qc9⟩ := isOf hZ e8 E_w_s_TRAPPED
      obtain ⟨_, _, ⟨T9, L9, kk9, nn9⟩, -, X9, ⟨Lc9, hQ9, l9, y9, z9⟩, st9⟩ := X8.virtualBack hx (y := (⟨"com/example/lendwell/lendwell/model/HoldStatus", "isOpen", "()Z"⟩ : MethodName)) (z := (⟨"com/example/lendwell/lendwell/model/HoldStatus", "isOpen", "()Z"⟩ : MethodName)) hown (mvT hZ (hw _ (List.mem_of_getElem? (i := 4) rfl))) (mvT hZ (hw _ (List.mem_of_getElem? (i := 5) rfl))) (notFace_of_selects (args := #[]) (mvT hZ (hw _ (List.mem_of_getElem? (i := 7) rfl)))) (mvT hZ (hw _ (List.mem_of_getElem? (i := 7) rfl))) (mvT hZ (hw _ (List.mem_of_getElem? (i := 6) rfl))) (by decide) (backOf (W := 0) (isOpen l Z a0 hw [] w_s_TRAPPED w_s_QUEUED w_s_TRAPPED h0 n0 Z0 S_QUEUED S_TRAPPED) hZ (hw _ (List.mem_of_getElem? (i := 8) rfl)) (hw _ (List.mem_of_getElem? (i := 2) rfl)) (by decide) (by decide)) qa9 qc9 (g := (mkF m 69 #[.val (.int p0), .val (.int ((p0 &&& (2147483647 : Int32)) % (5 : Int32))), .val (.ref w_s_TRAPPED), .val (.int (1 : Int32))] [(.ref w_s_TRAPPED)])) rfl (by rw [hml]; rfl) (Steps.refl _) (argsL := []) (rest := []) (lenOf pd_11 rfl) rfl (by show 2 * 0 + _ ≤ _; exact Nat.le_of_eq rfl) (hb hby at_69) (fun _ _ => ⟨rfl, e8, (by decide : 0 + 0 ≤ _), (by decide : 0 + 0 ≤ _)⟩)
      dsimp only [Pt.U, Pt.locs, Pt.cells, Pt.slots] at X9 l9 y9 z9 st9 hQ9
      subst l9 y9 z9
      obtain ⟨rfl, N10, e9⟩ := hQ9
      have N12 := Fr.app N0 N10
      refine own_goT st9 ?_
      refine own_go (S' := T9.setTop (mkF m 73 #[.val (.int p0), .val (.int ((p0 &&& (2147483647 : Int32)) % (5 : Int32))), .val (.ref w_s_TRAPPED), .val (.int (1 : Int32))] [(.int (1 : Int32)), (.int (isOpen_r w_s_TRAPPED w_s_QUEUED w_s_TRAPPED))])) (fun t k => ?_) ?_
      · show Steps p.tables e below (T9.setTop (mkF m 72 #[.val (.int p0), .val (.int ((p0 &&& (2147483647 : Int32)) % (5 : Int32))), .val (.ref w_s_TRAPPED), .val (.int (1 : Int32))] [(.int (isOpen_r w_s_TRAPPED w_s_QUEUED w_s_TRAPPED))])) t
        refine XS.iloadN X9.here hx rfl (hb hby at_72) rfl ?_
        exact k
      refine own_go (S' := T9.setTop (mkF m 81 #[.val (.int p0), .val (.int ((p0 &&& (2147483647 : Int32)) % (5 : Int32))), .val (.ref w_s_TRAPPED), .val (.int (1 : Int32))] [(.int (if (isOpen_r w_s_TRAPPED w_s_QUEUED w_s_TRAPPED) = (1 : Int32) then (1 : Int32) else (0 : Int32)))])) (fun t k => ?_) ?_
      · show Steps p.tables e below (T9.setTop (mkF m 73 #[.val (.int p0), .val (.int ((p0 &&& (2147483647 : Int32)) % (5 : Int32))), .val (.ref w_s_TRAPPED), .val (.int (1 : Int32))] [(.int (1 : Int32)), (.int (isOpen_r w_s_TRAPPED w_s_QUEUED w_s_TRAPPED))])) t
        by_cases hc73 : (isOpen_r w_s_TRAPPED w_s_QUEUED w_s_TRAPPED) = (1 : Int32)
        · show Steps p.tables e below (T9.setTop (mkF m 73 #[.val (.int p0), .val (.int ((p0 &&& (2147483647 : Int32)) % (5 : Int32))), .val (.ref w_s_TRAPPED), .val (.int (1 : Int32))] [(.int (1 : Int32)), (.int (isOpen_r w_s_TRAPPED w_s_QUEUED w_s_TRAPPED))])) t
          refine XS.icmpNo X9.here hx rfl (hb hby at_73) rfl (teq hc73).2 ?_
          show Steps p.tables e below (T9.setTop (mkF m 76 #[.val (.int p0), .val (.int ((p0 &&& (2147483647 : Int32)) % (5 : Int32))), .val (.ref w_s_TRAPPED), .val (.int (1 : Int32))] [])) t
          refine XS.iconst X9.here hx rfl (hb hby at_76) ?_
          show Steps p.tables e below (T9.setTop (mkF m 77 #[.val (.int p0), .val (.int ((p0 &&& (2147483647 : Int32)) % (5 : Int32))), .val (.ref w_s_TRAPPED), .val (.int (1 : Int32))] [(.int (1 : Int32))])) t
          refine XS.goto X9.here hx rfl (pc0 := 77) (pc' := 81) rfl (hb hby at_77) (by decide) (by decide) ?_
          first | exact k | (simp only [if_pos hc73] at k ⊢; exact k)
        · show Steps p.tables e below (T9.setTop (mkF m 73 #[.val (.int p0), .val (.int ((p0 &&& (2147483647 : Int32)) % (5 : Int32))), .val (.ref w_s_TRAPPED), .val (.int (1 : Int32))] [(.int (1 : Int32)), (.int (isOpen_r w_s_TRAPPED w_s_QUEUED w_s_TRAPPED))])) t
          refine XS.icmpYes X9.here hx rfl (pc0 := 73) (pc' := 80) rfl (hb hby at_73) rfl (feq hc73).2 (by decide) (by decide) ?_
          show Steps p.tables e below (T9.setTop (mkF m 80 #[.val (.int p0), .val (.int ((p0 &&& (2147483647 : Int32)) % (5 : Int32))), .val (.ref w_s_TRAPPED), .val (.int (1 : Int32))] [])) t
          refine XS.iconst X9.here hx rfl (hb hby at_80) ?_
          first | exact k | (simp only [if_neg hc73] at k ⊢; exact k)
      have hfin : (if (isOpen_r w_s_TRAPPED w_s_QUEUED w_s_TRAPPED) = (1 : Int32) then (1 : Int32) else (0 : Int32)) = (1 : Int32) := by simp [isOpen_r, ne_FULFILLED_QUEUED, ne_FULFILLED_TRAPPED, ne_EXPIRED_QUEUED, ne_EXPIRED_TRAPPED, ne_CANCELLED_QUEUED, ne_CANCELLED_TRAPPED]
      rw [hfin]
      obtain ⟨fs, hr, hrun, hended, hW, hsame⟩ := X9.leave (v := some (.int (1 : Int32))) (fun h => by rw [Bd.returns] at h; cases h)
      refine own_end (v := some (.int (1 : Int32))) ?_ hrun hended ?_ hW (hsame.mono (by decide) (by decide))
      · show Steps p.tables e below (T9.setTop (mkF m 81 #[.val (.int p0), .val (.int ((p0 &&& (2147483647 : Int32)) % (5 : Int32))), .val (.ref w_s_TRAPPED), .val (.int (1 : Int32))] [(.int (1 : Int32))])) _
        exact retN X9 hx (t := .boolean) Bd.returns (by simp) (hb hby at_81) hr
      · show Qrm0 Z p0 w_s_QUEUED w_s_TRAPPED w_s_FULFILLED w_s_EXPIRED w_s_CANCELLED h0 n0 _ T9.heap _
        rw [e9]
        exact ⟨rfl, N12⟩
    · skip
      refine own_go (S' := s₁.setTop (mkF m 36 #[.val (.int p0), .val (.int ((p0 &&& (2147483647 : Int32)) % (5 : Int32))), .unset, .unset] [(.int (2 : Int32)), (.int ((p0 &&& (2147483647 : Int32)) % (5 : Int32)))])) (fun t k => ?_) ?_
      · show Steps p.tables e below (s₁.setTop (mkF m 22 #[.val (.int p0), .val (.int ((p0 &&& (2147483647 : Int32)) % (5 : Int32))), .unset, .unset] [(.int (1 : Int32)), (.int ((p0 &&& (2147483647 : Int32)) % (5 : Int32)))])) t
        refine XS.icmpYes X0.here hx rfl (pc0 := 22) (pc' := 34) rfl (hb hby at_22) rfl (feq hc22).2 (by decide) (by decide) ?_
        show Steps p.tables e below (s₁.setTop (mkF m 34 #[.val (.int p0), .val (.int ((p0 &&& (2147483647 : Int32)) % (5 : Int32))), .unset, .unset] [])) t
        refine XS.iloadN X0.here hx rfl (hb hby at_34) rfl ?_
        show Steps p.tables e below (s₁.setTop (mkF m 35 #[.val (.int p0), .val (.int ((p0 &&& (2147483647 : Int32)) % (5 : Int32))), .unset, .unset] [(.int ((p0 &&& (2147483647 : Int32)) % (5 : Int32)))])) t
        refine XS.iconst X0.here hx rfl (hb hby at_35) ?_
        exact k
      by_cases hc36 : ((p0 &&& (2147483647 : Int32)) % (5 : Int32)) = (2 : Int32)
      · skip
        refine own_go (S' := s₁.setTop (mkF m 39 #[.val (.int p0), .val (.int ((p0 &&& (2147483647 : Int32)) % (5 : Int32))), .unset, .unset] [])) (fun t k => ?_) ?_
        · show Steps p.tables e below (s₁.setTop (mkF m 36 #[.val (.int p0), .val (.int ((p0 &&& (2147483647 : Int32)) % (5 : Int32))), .unset, .unset] [(.int (2 : Int32)), (.int ((p0 &&& (2147483647 : Int32)) % (5 : Int32)))])) t
          refine XS.icmpNo X0.here hx rfl (hb hby at_36) rfl (teq hc36).2 ?_
          exact k
        obtain ⟨T13, X13, e13, st13⟩ := getS2 X0 hx hZ hown (host := "") (Or.inl (hw _ (List.mem_of_getElem? (i := 17) rfl))) Via.refl e0 S_FULFILLED (g := (mkF m 39 #[.val (.int p0), .val (.int ((p0 &&& (2147483647 : Int32)) % (5 : Int32))), .unset, .unset] [])) rfl (hb hby at_39)
        refine own_go st13 ?_
        refine own_go (S' := T13.setTop (mkF m 69 #[.val (.int p0), .val (.int ((p0 &&& (2147483647 : Int32)) % (5 : Int32))), .val (.ref w_s_FULFILLED), .val (.int (0 : Int32))] [(.ref w_s_FULFILLED)])) (fun t k => ?_) ?_
        · show Steps p.tables e below (T13.setTop (mkF m 42 #[.val (.int p0), .val (.int ((p0 &&& (2147483647 : Int32)) % (5 : Int32))), .unset, .unset] [(.ref w_s_FULFILLED)])) t
          refine XS.astoreN X13.here hx rfl (hb hby at_42) rfl rfl (l' := #[.val (.int p0), .val (.int ((p0 &&& (2147483647 : Int32)) % (5 : Int32))), .val (.ref w_s_FULFILLED), .unset]) rfl ?_
          show Steps p.tables e below (T13.setTop (mkF m 43 #[.val (.int p0), .val (.int ((p0 &&& (2147483647 : Int32)) % (5 : Int32))), .val (.ref w_s_FULFILLED), .unset] [])) t
          refine XS.iconst X13.here hx rfl (hb hby at_43) ?_
          show Steps p.tables e below (T13.setTop (mkF m 44 #[.val (.int p0), .val (.int ((p0 &&& (2147483647 : Int32)) % (5 : Int32))), .val (.ref w_s_FULFILLED), .unset] [(.int (0 : Int32))])) t
          refine XS.istoreN X13.here hx rfl (hb hby at_44) rfl (l' := #[.val (.int p0), .val (.int ((p0 &&& (2147483647 : Int32)) % (5 : Int32))), .val (.ref w_s_FULFILLED), .val (.int (0 : Int32))]) rfl ?_
          show Steps p.tables e below (T13.setTop (mkF m 45 #[.val (.int p0), .val (.int ((p0 &&& (2147483647 : Int32)) % (5 : Int32))), .val (.ref w_s_FULFILLED), .val (.int (0 : Int32))] [])) t
          refine XS.goto X13.here hx rfl (pc0 := 45) (pc' := 68) rfl (hb hby at_45) (by decide) (by decide) ?_
          show Steps p.tables e below (T13.setTop (mkF m 68 #[.val (.int p0), .val (.int ((p0 &&& (2147483647 : Int32)) % (5 : Int32))), .val (.ref w_s_FULFILLED), .val (.int (0 : Int32))] [])) t
          refine XS.aloadN X13.here hx rfl (hb hby at_68) rfl rfl ?_
          exact k
        obtain ⟨cq14, kq14, qa14, qb14, qc14⟩ := isOf hZ e13 E_w_s_FULFILLED
        obtain ⟨_, _, ⟨T14, L14, kk14, nn14⟩, -, X14, ⟨Lc14, hQ14, l14, y14, z14⟩, st14⟩ := X13.virtualBack hx (y := (⟨"com/example/lendwell/lendwell/model/HoldStatus", "isOpen", "()Z"⟩ : MethodName)) (z := (⟨"com/example/lendwell/lendwell/model/HoldStatus", "isOpen", "()Z"⟩ : MethodName)) hown (mvT hZ (hw _ (List.mem_of_getElem? (i := 4) rfl))) (mvT hZ (hw _ (List.mem_of_getElem? (i := 5) rfl))) (notFace_of_selects (args := #[]) (mvT hZ (hw _ (List.mem_of_getElem? (i := 7) rfl)))) (mvT hZ (hw _ (List.mem_of_getElem? (i := 7) rfl))) (mvT hZ (hw _ (List.mem_of_getElem? (i := 6) rfl))) (by decide) (backOf (W := 0) (isOpen l Z a0 hw [] w_s_FULFILLED w_s_QUEUED w_s_TRAPPED h0 n0 Z0 S_QUEUED S_TRAPPED) hZ (hw _ (List.mem_of_getElem? (i := 8) rfl)) (hw _ (List.mem_of_getElem? (i := 2) rfl)) (by decide) (by decide)) qa14 qc14 (g := (mkF m 69 #[.val (.int p0), .val (.int ((p0 &&& (2147483647 : Int32)) % (5 : Int32))), .val (.ref w_s_FULFILLED), .val (.int (0 : Int32))] [(.ref w_s_FULFILLED)])) rfl (by rw [hml]; rfl) (Steps.refl _) (argsL := []) (rest := []) (lenOf pd_11 rfl) rfl (by show 2 * 0 + _ ≤ _; exact Nat.le_of_eq rfl) (hb hby at_69) (fun _ _ => ⟨rfl, e13, (by decide : 0 + 0 ≤ _), (by decide : 0 + 0 ≤ _)⟩)
        dsimp only [Pt.U, Pt.locs, Pt.cells, Pt.slots] at X14 l14 y14 z14 st14 hQ14
        subst l14 y14 z14
        obtain ⟨rfl, N15, e14⟩ := hQ14
        have N17 := Fr.app N0 N15
        refine own_goT st14 ?_
        refine own_go (S' := T14.setTop (mkF m 73 #[.val (.int p0), .val (.int ((p0 &&& (2147483647 : Int32)) % (5 : Int32))), .val (.ref w_s_FULFILLED), .val (.int (0 : Int32))] [(.int (0 : Int32)), (.int (isOpen_r w_s_FULFILLED w_s_QUEUED w_s_TRAPPED))])) (fun t k => ?_) ?_
        · show Steps p.tables e below (T14.setTop (mkF m 72 #[.val (.int p0), .val (.int ((p0 &&& (2147483647 : Int32)) % (5 : Int32))), .val (.ref w_s_FULFILLED), .val (.int (0 : Int32))] [(.int (isOpen_r w_s_FULFILLED w_s_QUEUED w_s_TRAPPED))])) t
          refine XS.iloadN X14.here hx rfl (hb hby at_72) rfl ?_
          exact k
        refine own_go (S' := T14.setTop (mkF m 81 #[.val (.int p0), .val (.int ((p0 &&& (2147483647 : Int32)) % (5 : Int32))), .val (.ref w_s_FULFILLED), .val (.int (0 : Int32))] [(.int (if (isOpen_r w_s_FULFILLED w_s_QUEUED w_s_TRAPPED) = (0 : Int32) then (1 : Int32) else (0 : Int32)))])) (fun t k => ?_) ?_
        · show Steps p.tables e below (T14.setTop (mkF m 73 #[.val (.int p0), .val (.int ((p0 &&& (2147483647 : Int32)) % (5 : Int32))), .val (.ref w_s_FULFILLED), .val (.int (0 : Int32))] [(.int (0 : Int32)), (.int (isOpen_r w_s_FULFILLED w_s_QUEUED w_s_TRAPPED))])) t
          by_cases hc73 : (isOpen_r w_s_FULFILLED w_s_QUEUED w_s_TRAPPED) = (0 : Int32)
          · show Steps p.tables e below (T14.setTop (mkF m 73 #[.val (.int p0), .val (.int ((p0 &&& (2147483647 : Int32)) % (5 : Int32))), .val (.ref w_s_FULFILLED), .val (.int (0 : Int32))] [(.int (0 : Int32)), (.int (isOpen_r w_s_FULFILLED w_s_QUEUED w_s_TRAPPED))])) t
            refine XS.icmpNo X14.here hx rfl (hb hby at_73) rfl (teq hc73).2 ?_
            show Steps p.tables e below (T14.setTop (mkF m 76 #[.val (.int p0), .val (.int ((p0 &&& (2147483647 : Int32)) % (5 : Int32))), .val (.ref w_s_FULFILLED), .val (.int (0 : Int32))] [])) t
            refine XS.iconst X14.here hx rfl (hb hby at_76) ?_
            show Steps p.tables e below (T14.setTop (mkF m 77 #[.val (.int p0), .val (.int ((p0 &&& (2147483647 : Int32)) % (5 : Int32))), .val (.ref w_s_FULFILLED), .val (.int (0 : Int32))] [(.int (1 : Int32))])) t
            refine XS.goto X14.here hx rfl (pc0 := 77) (pc' := 81) rfl (hb hby at_77) (by decide) (by decide) ?_
            first | exact k | (simp only [if_pos hc73] at k ⊢; exact k)
          · show Steps p.tables e below (T14.setTop (mkF m 73 #[.val (.int p0), .val (.int ((p0 &&& (2147483647 : Int32)) % (5 : Int32))), .val (.ref w_s_FULFILLED), .val (.int (0 : Int32))] [(.int (0 : Int32)), (.int (isOpen_r w_s_FULFILLED w_s_QUEUED w_s_TRAPPED))])) t
            refine XS.icmpYes X14.here hx rfl (pc0 := 73) (pc' := 80) rfl (hb hby at_73) rfl (feq hc73).2 (by decide) (by decide) ?_
            show Steps p.tables e below (T14.setTop (mkF m 80 #[.val (.int p0), .val (.int ((p0 &&& (2147483647 : Int32)) % (5 : Int32))), .val (.ref w_s_FULFILLED), .val (.int (0 : Int32))] [])) t
            refine XS.iconst X14.here hx rfl (hb hby at_80) ?_
            first | exact k | (simp only [if_neg hc73] at k ⊢; exact k)
        have hfin : (if (isOpen_r w_s_FULFILLED w_s_QUEUED w_s_TRAPPED) = (0 : Int32) then (1 : Int32) else (0 : Int32)) = (1 : Int32) := by simp [isOpen_r, ne_FULFILLED_QUEUED, ne_FULFILLED_TRAPPED, ne_EXPIRED_QUEUED, ne_EXPIRED_TRAPPED, ne_CANCELLED_QUEUED, ne_CANCELLED_TRAPPED]
        rw [hfin]
        obtain ⟨fs, hr, hrun, hended, hW, hsame⟩ := X14.leave (v := some (.int (1 : Int32))) (fun h => by rw [Bd.returns] at h; cases h)
        refine own_end (v := some (.int (1 : Int32))) ?_ hrun hended ?_ hW (hsame.mono (by decide) (by decide))
        · show Steps p.tables e below (T14.setTop (mkF m 81 #[.val (.int p0), .val (.int ((p0 &&& (2147483647 : Int32)) % (5 : Int32))), .val (.ref w_s_FULFILLED), .val (.int (0 : Int32))] [(.int (1 : Int32))])) _
          exact retN X14 hx (t := .boolean) Bd.returns (by simp) (hb hby at_81) hr
        · show Qrm0 Z p0 w_s_QUEUED w_s_TRAPPED w_s_FULFILLED w_s_EXPIRED w_s_CANCELLED h0 n0 _ T14.heap _
          rw [e14]
          exact ⟨rfl, N17⟩
      · skip
        refine own_go (S' := s₁.setTop (mkF m 50 #[.val (.int p0), .val (.int ((p0 &&& (2147483647 : Int32)) % (5 : Int32))), .unset, .unset] [(.int (3 : Int32)), (.int ((p0 &&& (2147483647 : Int32)) % (5 : Int32)))])) (fun t k => ?_) ?_
        · show Steps p.tables e below (s₁.setTop (mkF m 36 #[.val (.int p0), .val (.int ((p0 &&& (2147483647 : Int32)) % (5 : Int32))), .unset, .unset] [(.int (2 : Int32)), (.int ((p0 &&& (2147483647 : Int32)) % (5 : Int32)))])) t
          refine XS.icmpYes X0.here hx rfl (pc0 := 36) (pc' := 48) rfl (hb hby at_36) rfl (feq hc36).2 (by decide) (by decide) ?_
          show Steps p.tables e below (s₁.setTop (mkF m 48 #[.val (.int p0), .val (.int ((p0 &&& (2147483647 : Int32)) % (5 : Int32))), .unset, .unset] [])) t
          refine XS.iloadN X0.here hx rfl (hb hby at_48) rfl ?_
          show Steps p.tables e below (s₁.setTop (mkF m 49 #[.val (.int p0), .val (.int ((p0 &&& (2147483647 : Int32)) % (5 : Int32))), .unset, .unset] [(.int ((p0 &&& (2147483647 : Int32)) % (5 : Int32)))])) t
          refine XS.iconst X0.here hx rfl (hb hby at_49) ?_
          exact k
        by_cases hc50 : ((p0 &&& (2147483647 : Int32)) % (5 : Int32)) = (3 : Int32)
        · skip
          refine own_go (S' := s₁.setTop (mkF m 53 #[.val (.int p0), .val (.int ((p0 &&& (2147483647 : Int32)) % (5 : Int32))), .unset, .unset] [])) (fun t k => ?_) ?_
          · show Steps p.tables e below (s₁.setTop (mkF m 50 #[.val (.int p0), .val (.int ((p0 &&& (2147483647 : Int32)) % (5 : Int32))), .unset, .unset] [(.int (3 : Int32)), (.int ((p0 &&& (2147483647 : Int32)) % (5 : Int32)))])) t
            refine XS.icmpNo X0.here hx rfl (hb hby at_50) rfl (teq hc50).2 ?_
            exact k
          obtain ⟨T18, X18, e18, st18⟩ := getS2 X0 hx hZ hown (host := "") (Or.inl (hw _ (List.mem_of_getElem? (i := 10) rfl))) Via.refl e0 S_EXPIRED (g := (mkF m 53 #[.val (.int p0), .val (.int ((p0 &&& (2147483647 : Int32)) % (5 : Int32))), .unset, .unset] [])) rfl (hb hby at_53)
          refine own_go st18 ?_
          refine own_go (S' := T18.setTop (mkF m 69 #[.val (.int p0), .val (.int ((p0 &&& (2147483647 : Int32)) % (5 : Int32))), .val (.ref w_s_EXPIRED), .val (.int (0 : Int32))] [(.ref w_s_EXPIRED)])) (fun t k => ?_) ?_
          · show Steps p.tables e below (T18.setTop (mkF m 56 #[.val (.int p0), .val (.int ((p0 &&& (2147483647 : Int32)) % (5 : Int32))), .unset, .unset] [(.ref w_s_EXPIRED)])) t
            refine XS.astoreN X18.here hx rfl (hb hby at_56) rfl rfl (l' := #[.val (.int p0), .val (.int ((p0 &&& (2147483647 : Int32)) % (5 : Int32))), .val (.ref w_s_EXPIRED), .unset]) rfl ?_
            show Steps p.tables e below (T18.setTop (mkF m 57 #[.val (.int p0), .val (.int ((p0 &&& (2147483647 : Int32)) % (5 : Int32))), .val (.ref w_s_EXPIRED), .unset] [])) t
            refine XS.iconst X18.here hx rfl (hb hby at_57) ?_
            show Steps p.tables e below (T18.setTop (mkF m 58 #[.val (.int p0), .val (.int ((p0 &&& (2147483647 : Int32)) % (5 : Int32))), .val (.ref w_s_EXPIRED), .unset] [(.int (0 : Int32))])) t
            refine XS.istoreN X18.here hx rfl (hb hby at_58) rfl (l' := #[.val (.int p0), .val (.int ((p0 &&& (2147483647 : Int32)) % (5 : Int32))), .val (.ref w_s_EXPIRED), .val (.int (0 : Int32))]) rfl ?_
            show Steps p.tables e below (T18.setTop (mkF m 59 #[.val (.int p0), .val (.int ((p0 &&& (2147483647 : Int32)) % (5 : Int32))), .val (.ref w_s_EXPIRED), .val (.int (0 : Int32))] [])) t
            refine XS.goto X18.here hx rfl (pc0 := 59) (pc' := 68) rfl (hb hby at_59) (by decide) (by decide) ?_
            show Steps p.tables e below (T18.setTop (mkF m 68 #[.val (.int p0), .val (.int ((p0 &&& (2147483647 : Int32)) % (5 : Int32))), .val (.ref w_s_EXPIRED), .val (.int (0 : Int32))] [])) t
            refine XS.aloadN X18.here hx rfl (hb hby at_68) rfl rfl ?_
            exact k
          obtain ⟨cq19, kq19, qa19, qb19, qc19⟩ := isOf hZ e18 E_w_s_EXPIRED
          obtain ⟨_, _, ⟨T19, L19, kk19, nn19⟩, -, X19, ⟨Lc19, hQ19, l19, y19, z19⟩, st19⟩ := X18.virtualBack hx (y := (⟨"com/example/lendwell/lendwell/model/HoldStatus", "isOpen", "()Z"⟩ : MethodName)) (z := (⟨"com/example/lendwell/lendwell/model/HoldStatus", "isOpen", "()Z"⟩ : MethodName)) hown (mvT hZ (hw _ (List.mem_of_getElem? (i := 4) rfl))) (mvT hZ (hw _ (List.mem_of_getElem? (i := 5) rfl))) (notFace_of_selects (args := #[]) (mvT hZ (hw _ (List.mem_of_getElem? (i := 7) rfl)))) (mvT hZ (hw _ (List.mem_of_getElem? (i := 7) rfl))) (mvT hZ (hw _ (List.mem_of_getElem? (i := 6) rfl))) (by decide) (backOf (W := 0) (isOpen l Z a0 hw [] w_s_EXPIRED w_s_QUEUED w_s_TRAPPED h0 n0 Z0 S_QUEUED S_TRAPPED) hZ (hw _ (List.mem_of_getElem? (i := 8) rfl)) (hw _ (List.mem_of_getElem? (i := 2) rfl)) (by decide) (by decide)) qa19 qc19 (g := (mkF m 69 #[.val (.int p0), .val (.int ((p0 &&& (2147483647 : Int32)) % (5 : Int32))), .val (.ref w_s_EXPIRED), .val (.int (0 : Int32))] [(.ref w_s_EXPIRED)])) rfl (by rw [hml]; rfl) (Steps.refl _) (argsL := []) (rest := []) (lenOf pd_11 rfl) rfl (by show 2 * 0 + _ ≤ _; exact Nat.le_of_eq rfl) (hb hby at_69) (fun _ _ => ⟨rfl, e18, (by decide : 0 + 0 ≤ _), (by decide : 0 + 0 ≤ _)⟩)
          dsimp only [Pt.U, Pt.locs, Pt.cells, Pt.slots] at X19 l19 y19 z19 st19 hQ19
          subst l19 y19 z19
          obtain ⟨rfl, N20, e19⟩ := hQ19
          have N22 := Fr.app N0 N20
          refine own_goT st19 ?_
          refine own_go (S' := T19.setTop (mkF m 73 #[.val (.int p0), .val (.int ((p0 &&& (2147483647 : Int32)) % (5 : Int32))), .val (.ref w_s_EXPIRED), .val (.int (0 : Int32))] [(.int (0 : Int32)), (.int (isOpen_r w_s_EXPIRED w_s_QUEUED w_s_TRAPPED))])) (fun t k => ?_) ?_
          · show Steps p.tables e below (T19.setTop (mkF m 72 #[.val (.int p0), .val (.int ((p0 &&& (2147483647 : Int32)) % (5 : Int32))), .val (.ref w_s_EXPIRED), .val (.int (0 : Int32))] [(.int (isOpen_r w_s_EXPIRED w_s_QUEUED w_s_TRAPPED))])) t
            refine XS.iloadN X19.here hx rfl (hb hby at_72) rfl ?_
            exact k
          refine own_go (S' := T19.setTop (mkF m 81 #[.val (.int p0), .val (.int ((p0 &&& (2147483647 : Int32)) % (5 : Int32))), .val (.ref w_s_EXPIRED), .val (.int (0 : Int32))] [(.int (if (isOpen_r w_s_EXPIRED w_s_QUEUED w_s_TRAPPED) = (0 : Int32) then (1 : Int32) else (0 : Int32)))])) (fun t k => ?_) ?_
          · show Steps p.tables e below (T19.setTop (mkF m 73 #[.val (.int p0), .val (.int ((p0 &&& (2147483647 : Int32)) % (5 : Int32))), .val (.ref w_s_EXPIRED), .val (.int (0 : Int32))] [(.int (0 : Int32)), (.int (isOpen_r w_s_EXPIRED w_s_QUEUED w_s_TRAPPED))])) t
            by_cases hc73 : (isOpen_r w_s_EXPIRED w_s_QUEUED w_s_TRAPPED) = (0 : Int32)
            · show Steps p.tables e below (T19.setTop (mkF m 73 #[.val (.int p0), .val (.int ((p0 &&& (2147483647 : Int32)) % (5 : Int32))), .val (.ref w_s_EXPIRED), .val (.int (0 : Int32))] [(.int (0 : Int32)), (.int (isOpen_r w_s_EXPIRED w_s_QUEUED w_s_TRAPPED))])) t
              refine XS.icmpNo X19.here hx rfl (hb hby at_73) rfl (teq hc73).2 ?_
              show Steps p.tables e below (T19.setTop (mkF m 76 #[.val (.int p0), .val (.int ((p0 &&& (2147483647 : Int32)) % (5 : Int32))), .val (.ref w_s_EXPIRED), .val (.int (0 : Int32))] [])) t
              refine XS.iconst X19.here hx rfl (hb hby at_76) ?_
              show Steps p.tables e below (T19.setTop (mkF m 77 #[.val (.int p0), .val (.int ((p0 &&& (2147483647 : Int32)) % (5 : Int32))), .val (.ref w_s_EXPIRED), .val (.int (0 : Int32))] [(.int (1 : Int32))])) t
              refine XS.goto X19.here hx rfl (pc0 := 77) (pc' := 81) rfl (hb hby at_77) (by decide) (by decide) ?_
              first | exact k | (simp only [if_pos hc73] at k ⊢; exact k)
            · show Steps p.tables e below (T19.setTop (mkF m 73 #[.val (.int p0), .val (.int ((p0 &&& (2147483647 : Int32)) % (5 : Int32))), .val (.ref w_s_EXPIRED), .val (.int (0 : Int32))] [(.int (0 : Int32)), (.int (isOpen_r w_s_EXPIRED w_s_QUEUED w_s_TRAPPED))])) t
              refine XS.icmpYes X19.here hx rfl (pc0 := 73) (pc' := 80) rfl (hb hby at_73) rfl (feq hc73).2 (by decide) (by decide) ?_
              show Steps p.tables e below (T19.setTop (mkF m 80 #[.val (.int p0), .val (.int ((p0 &&& (2147483647 : Int32)) % (5 : Int32))), .val (.ref w_s_EXPIRED), .val (.int (0 : Int32))] [])) t
              refine XS.iconst X19.here hx rfl (hb hby at_80) ?_
              first | exact k | (simp only [if_neg hc73] at k ⊢; exact k)
          have hfin : (if (isOpen_r w_s_EXPIRED w_s_QUEUED w_s_TRAPPED) = (0 : Int32) then (1 : Int32) else (0 : Int32)) = (1 : Int32) := by simp [isOpen_r, ne_FULFILLED_QUEUED, ne_FULFILLED_TRAPPED, ne_EXPIRED_QUEUED, ne_EXPIRED_TRAPPED, ne_CANCELLED_QUEUED, ne_CANCELLED_TRAPPED]
          rw [hfin]
          obtain ⟨fs, hr, hrun, hended, hW, hsame⟩ := X19.leave (v := some (.int (1 : Int32))) (fun h => by rw [Bd.returns] at h; cases h)
          refine own_end (v := some (.int (1 : Int32))) ?_ hrun hended ?_ hW (hsame.mono (by decide) (by decide))
          · show Steps p.tables e below (T19.setTop (mkF m 81 #[.val (.int p0), .val (.int ((p0 &&& (2147483647 : Int32)) % (5 : Int32))), .val (.ref w_s_EXPIRED), .val (.int (0 : Int32))] [(.int (1 : Int32))])) _
            exact retN X19 hx (t := .boolean) Bd.returns (by simp) (hb hby at_81) hr
          · show Qrm0 Z p0 w_s_QUEUED w_s_TRAPPED w_s_FULFILLED w_s_EXPIRED w_s_CANCELLED h0 n0 _ T19.heap _
            rw [e19]
            exact ⟨rfl, N22⟩
        · skip
          refine own_go (S' := s₁.setTop (mkF m 62 #[.val (.int p0), .val (.int ((p0 &&& (2147483647 : Int32)) % (5 : Int32))), .unset, .unset] [])) (fun t k => ?_) ?_
          · show Steps p.tables e below (s₁.setTop (mkF m 50 #[.val (.int p0), .val (.int ((p0 &&& (2147483647 : Int32)) % (5 : Int32))), .unset, .unset] [(.int (3 : Int32)), (.int ((p0 &&& (2147483647 : Int32)) % (5 : Int32)))])) t
            refine XS.icmpYes X0.here hx rfl (pc0 := 50) (pc' := 62) rfl (hb hby at_50) rfl (feq hc50).2 (by decide) (by decide) ?_
            exact k
          obtain ⟨T23, X23, e23, st23⟩ := getS2 X0 hx hZ hown (host := "") (Or.inl (hw _ (List.mem_of_getElem? (i := 15) rfl))) Via.refl e0 S_CANCELLED (g := (mkF m 62 #[.val (.int p0), .val (.int ((p0 &&& (2147483647 : Int32)) % (5 : Int32))), .unset, .unset] [])) rfl (hb hby at_62)
          refine own_go st23 ?_
          refine own_go (S' := T23.setTop (mkF m 69 #[.val (.int p0), .val (.int ((p0 &&& (2147483647 : Int32)) % (5 : Int32))), .val (.ref w_s_CANCELLED), .val (.int (0 : Int32))] [(.ref w_s_CANCELLED)])) (fun t k => ?_) ?_
          · show Steps p.tables e below (T23.setTop (mkF m 65 #[.val (.int p0), .val (.int ((p0 &&& (2147483647 : Int32)) % (5 : Int32))), .unset, .unset] [(.ref w_s_CANCELLED)])) t
            refine XS.astoreN X23.here hx rfl (hb hby at_65) rfl rfl (l' := #[.val (.int p0), .val (.int ((p0 &&& (2147483647 : Int32)) % (5 : Int32))), .val (.ref w_s_CANCELLED), .unset]) rfl ?_
            show Steps p.tables e below (T23.setTop (mkF m 66 #[.val (.int p0), .val (.int ((p0 &&& (2147483647 : Int32)) % (5 : Int32))), .val (.ref w_s_CANCELLED), .unset] [])) t
            refine XS.iconst X23.here hx rfl (hb hby at_66) ?_
            show Steps p.tables e below (T23.setTop (mkF m 67 #[.val (.int p0), .val (.int ((p0 &&& (2147483647 : Int32)) % (5 : Int32))), .val (.ref w_s_CANCELLED), .unset] [(.int (0 : Int32))])) t
            refine XS.istoreN X23.here hx rfl (hb hby at_67) rfl (l' := #[.val (.int p0), .val (.int ((p0 &&& (2147483647 : Int32)) % (5 : Int32))), .val (.ref w_s_CANCELLED), .val (.int (0 : Int32))]) rfl ?_
            show Steps p.tables e below (T23.setTop (mkF m 68 #[.val (.int p0), .val (.int ((p0 &&& (2147483647 : Int32)) % (5 : Int32))), .val (.ref w_s_CANCELLED), .val (.int (0 : Int32))] [])) t
            refine XS.aloadN X23.here hx rfl (hb hby at_68) rfl rfl ?_
            exact k
          obtain ⟨cq24, kq24, qa24, qb24, qc24⟩ := isOf hZ e23 E_w_s_CANCELLED
          obtain ⟨_, _, ⟨T24, L24, kk24, nn24⟩, -, X24, ⟨Lc24, hQ24, l24, y24, z24⟩, st24⟩ := X23.virtualBack hx (y := (⟨"com/example/lendwell/lendwell/model/HoldStatus", "isOpen", "()Z"⟩ : MethodName)) (z := (⟨"com/example/lendwell/lendwell/model/HoldStatus", "isOpen", "()Z"⟩ : MethodName)) hown (mvT hZ (hw _ (List.mem_of_getElem? (i := 4) rfl))) (mvT hZ (hw _ (List.mem_of_getElem? (i := 5) rfl))) (notFace_of_selects (args := #[]) (mvT hZ (hw _ (List.mem_of_getElem? (i := 7) rfl)))) (mvT hZ (hw _ (List.mem_of_getElem? (i := 7) rfl))) (mvT hZ (hw _ (List.mem_of_getElem? (i := 6) rfl))) (by decide) (backOf (W := 0) (isOpen l Z a0 hw [] w_s_CANCELLED w_s_QUEUED w_s_TRAPPED h0 n0 Z0 S_QUEUED S_TRAPPED) hZ (hw _ (List.mem_of_getElem? (i := 8) rfl)) (hw _ (List.mem_of_getElem? (i := 2) rfl)) (by decide) (by decide)) qa24 qc24 (g := (mkF m 69 #[.val (.int p0), .val (.int ((p0 &&& (2147483647 : Int32)) % (5 : Int32))), .val (.ref w_s_CANCELLED), .val (.int (0 : Int32))] [(.ref w_s_CANCELLED)])) rfl (by rw [hml]; rfl) (Steps.refl _) (argsL := []) (rest := []) (lenOf pd_11 rfl) rfl (by show 2 * 0 + _ ≤ _; exact Nat.le_of_eq rfl) (hb hby at_69) (fun _ _ => ⟨rfl, e23, (by decide : 0 + 0 ≤ _), (by decide : 0 + 0 ≤ _)⟩)
          dsimp only [Pt.U, Pt.locs, Pt.cells, Pt.slots] at X24 l24 y24 z24 st24 hQ24
          subst l24 y24 z24
          obtain ⟨rfl, N25, e24⟩ := hQ24
          have N27 := Fr.app N0 N25
          refine own_goT st24 ?_
          refine own_go (S' := T24.setTop (mkF m 73 #[.val (.int p0), .val (.int ((p0 &&& (2147483647 : Int32)) % (5 : Int32))), .val (.ref w_s_CANCELLED), .val (.int (0 : Int32))] [(.int (0 : Int32)), (.int (isOpen_r w_s_CANCELLED w_s_QUEUED w_s_TRAPPED))])) (fun t k => ?_) ?_
          · show Steps p.tables e below (T24.setTop (mkF m 72 #[.val (.int p0), .val (.int ((p0 &&& (2147483647 : Int32)) % (5 : Int32))), .val (.ref w_s_CANCELLED), .val (.int (0 : Int32))] [(.int (isOpen_r w_s_CANCELLED w_s_QUEUED w_s_TRAPPED))])) t
            refine XS.iloadN X24.here hx rfl (hb hby at_72) rfl ?_
            exact k
          refine own_go (S' := T24.setTop (mkF m 81 #[.val (.int p0), .val (.int ((p0 &&& (2147483647 : Int32)) % (5 : Int32))), .val (.ref w_s_CANCELLED), .val (.int (0 : Int32))] [(.int (if (isOpen_r w_s_CANCELLED w_s_QUEUED w_s_TRAPPED) = (0 : Int32) then (1 : Int32) else (0 : Int32)))])) (fun t k => ?_) ?_
          · show Steps p.tables e below (T24.setTop (mkF m 73 #[.val (.int p0), .val (.int ((p0 &&& (2147483647 : Int32)) % (5 : Int32))), .val (.ref w_s_CANCELLED), .val (.int (0 : Int32))] [(.int (0 : Int32)), (.int (isOpen_r w_s_CANCELLED w_s_QUEUED w_s_TRAPPED))])) t
            by_cases hc73 : (isOpen_r w_s_CANCELLED w_s_QUEUED w_s_TRAPPED) = (0 : Int32)
            · show Steps p.tables e below (T24.setTop (mkF m 73 #[.val (.int p0), .val (.int ((p0 &&& (2147483647 : Int32)) % (5 : Int32))), .val (.ref w_s_CANCELLED), .val (.int (0 : Int32))] [(.int (0 : Int32)), (.int (isOpen_r w_s_CANCELLED w_s_QUEUED w_s_TRAPPED))])) t
              refine XS.icmpNo X24.here hx rfl (hb hby at_73) rfl (teq hc73).2 ?_
              show Steps p.tables e below (T24.setTop (mkF m 76 #[.val (.int p0), .val (.int ((p0 &&& (2147483647 : Int32)) % (5 : Int32))), .val (.ref w_s_CANCELLED), .val (.int (0 : Int32))] [])) t
              refine XS.iconst X24.here hx rfl (hb hby at_76) ?_
              show Steps p.tables e below (T24.setTop (mkF m 77 #[.val (.int p0), .val (.int ((p0 &&& (2147483647 : Int32)) % (5 : Int32))), .val (.ref w_s_CANCELLED), .val (.int (0 : Int32))] [(.int (1 : Int32))])) t
              refine XS.goto X24.here hx rfl (pc0 := 77) (pc' := 81) rfl (hb hby at_77) (by decide) (by decide) ?_
              first | exact k | (simp only [if_pos hc73] at k ⊢; exact k)
            · show Steps p.tables e below (T24.setTop (mkF m 73 #[.val (.int p0), .val (.int ((p0 &&& (2147483647 : Int32)) % (5 : Int32))), .val (.ref w_s_CANCELLED), .val (.int (0 : Int32))] [(.int (0 : Int32)), (.int (isOpen_r w_s_CANCELLED w_s_QUEUED w_s_TRAPPED))])) t
              refine XS.icmpYes X24.here hx rfl (pc0 := 73) (pc' := 80) rfl (hb hby at_73) rfl (feq hc73).2 (by decide) (by decide) ?_
              show Steps p.tables e below (T24.setTop (mkF m 80 #[.val (.int p0), .val (.int ((p0 &&& (2147483647 : Int32)) % (5 : Int32))), .val (.ref w_s_CANCELLED), .val (.int (0 : Int32))] [])) t
              refine XS.iconst X24.here hx rfl (hb hby at_80) ?_
              first | exact k | (simp only [if_neg hc73] at k ⊢; exact k)
          have hfin : (if (isOpen_r w_s_CANCELLED w_s_QUEUED w_s_TRAPPED) = (0 : Int32) then (1 : Int32) else (0 : Int32)) = (1 : Int32) := by simp [isOpen_r, ne_FULFILLED_QUEUED, ne_FULFILLED_TRAPPED, ne_EXPIRED_QUEUED, ne_EXPIRED_TRAPPED, ne_CANCELLED_QUEUED, ne_CANCELLED_TRAPPED]
          rw [hfin]
          obtain ⟨fs, hr, hrun, hended, hW, hsame⟩ := X24.leave (v := some (.int (1 : Int32))) (fun h => by rw [Bd.returns] at h; cases h)
          refine own_end (v := some (.int (1 : Int32))) ?_ hrun hended ?_ hW (hsame.mono (by decide) (by decide))
          · show Steps p.tables e below (T24.setTop (mkF m 81 #[.val (.int p0), .val (.int ((p0 &&& (2147483647 : Int32)) % (5 : Int32))), .val (.ref w_s_CANCELLED), .val (.int (0 : Int32))] [(.int (1 : Int32))])) _
            exact retN X24 hx (t := .boolean) Bd.returns (by simp) (hb hby at_81) hr
          · show Qrm0 Z p0 w_s_QUEUED w_s_TRAPPED w_s_FULFILLED w_s_EXPIRED w_s_CANCELLED h0 n0 _ T24.heap _
            rw [e24]
            exact ⟨rfl, N27⟩
set_option maxRecDepth 65536 in
set_option maxHeartbeats 40000000 in
theorem comes_1 {Post : Tables → Env → Array Value → State → Outcome → State → Prop} (hpost : ∀ tb e args s v u, (limb_1_1.after args s (.returned v) u = true ∧ limb_1_2.after args s (.returned v) u = true ∧ True) → FrameEnd s (.returned v) u (Jvm.fieldLocs frame_1_writes args s ++ Jvm.arrayLocs frame_1_arrays args s ++ Jvm.staticLocs frame_1_statics s) 0 0 → Post tb e args s (.returned v) u) :
    ArmFor flags0 classFile x code maxLocals ret World_1 tables_1 room_1 Calls_1 rest_1 Pre_1 Post := by
  intro l hfl _ _ p e ha hc hk s m args below hf hA hF happ hP
  obtain ⟨hcalls, hrest, hpre⟩ := hP
  obtain ⟨-, -, -, hnamed, -, -, -, hat⟩ := (Spec.applies_iff hf).mp happ
  obtain ⟨hg, hn⟩ := and_e (Cond.before_iff.mp (show (Jvm.Cond.and given_1 narrow_1).before args s = true from hpre))
  obtain ⟨g46, g47⟩ := and_e hg
  obtain ⟨w0, rfl⟩ : ∃ w0 : Value, args = #[w0] := by
    have hs : args.size = 1 := by simpa [Cond.value, given_1] using g46
    obtain ⟨L⟩ := args
    match L, hs with
    | [w0], _ => exact ⟨w0, rfl⟩
  have hw := fun d (hd : d ∈ tables_1) => atoms_spec (ws := Jvm.Cond.code x code maxLocals ret :: tables_1) hat d (List.mem_cons_of_mem _ hd)
  have hfit : Fit s := fun {y c} hc i hi => by
    obtain ⟨ha, rfl⟩ := Array.getElem?_eq_some_iff.mp hc
    have q := List.all_eq_true.mp ((Array.all_eq_true_iff_forall_mem.mp hF) _ (Array.getElem_mem ha)) i (List.mem_range.mpr hi)
    simpa [Array.getElem?_eq_getElem hi] using q
  obtain ⟨i0, ei0⟩ := is_v g47
  obtain rfl : w0 = (.int i0) := Option.some.inj ei0
  obtain ⟨n28, n29⟩ := and_e hn
  obtain ⟨n30, n31⟩ := and_e n29
  obtain ⟨n32, n33⟩ := and_e n31
  obtain ⟨n34, n35⟩ := and_e n33
  obtain ⟨n36, n37⟩ := and_e n35
  obtain ⟨n38, n39⟩ := and_e n37
  obtain ⟨n40, n41⟩ := and_e n39
  obtain ⟨n42, n43⟩ := and_e n41
  obtain ⟨n44, n45⟩ := and_e n43
  obtain ⟨a_QUEUED, ev_QUEUED⟩ := exa_v n28
  have E_QUEUED : Exa s s.heap a_QUEUED "com/example/lendwell/lendwell/model/HoldStatus" := Exa.start ev_QUEUED n28
  have S_QUEUED : Sta s s.heap "com/example/lendwell/lendwell/model/HoldStatus" "QUEUED" "Lcom/example/lendwell/lendwell/model/HoldStatus;" (.ref a_QUEUED) := Sta.start ev_QUEUED (Or.inr ⟨(hw _ (List.mem_of_getElem? (i := 2) rfl)), (hw _ (List.mem_of_getElem? (i := 3) rfl))⟩)
  obtain ⟨a_EXPIRED, ev_EXPIRED⟩ := exa_v n30
  have E_EXPIRED : Exa s s.heap a_EXPIRED "com/example/lendwell/lendwell/model/HoldStatus" := Exa.start ev_EXPIRED n30
  have S_EXPIRED : Sta s s.heap "com/example/lendwell/lendwell/model/HoldStatus" "EXPIRED" "Lcom/example/lendwell/lendwell/model/HoldStatus;" (.ref a_EXPIRED) := Sta.start ev_EXPIRED (Or.inr ⟨(hw _ (List.mem_of_getElem? (i := 2) rfl)), (hw _ (List.mem_of_getElem? (i := 11) rfl))⟩)
  obtain ⟨a_TRAPPED, ev_TRAPPED⟩ := exa_v n36
  have E_TRAPPED : Exa s s.heap a_TRAPPED "com/example/lendwell/lendwell/model/HoldStatus" := Exa.start ev_TRAPPED n36
  have S_TRAPPED : Sta s s.heap "com/example/lendwell/lendwell/model/HoldStatus" "TRAPPED" "Lcom/example/lendwell/lendwell/model/HoldStatus;" (.ref a_TRAPPED) := Sta.start ev_TRAPPED (Or.inr ⟨(hw _ (List.mem_of_getElem? (i := 2) rfl)), (hw _ (List.mem_of_getElem? (i := 13) rfl))⟩)
  obtain ⟨a_CANCELLED, ev_CANCELLED⟩ := exa_v n40
  have E_CANCELLED : Exa s s.heap a_CANCELLED "com/example/lendwell/lendwell/model/HoldStatus" := Exa.start ev_CANCELLED n40
  have S_CANCELLED : Sta s s.heap "com/example/lendwell/lendwell/model/HoldStatus" "CANCELLED" "Lcom/example/lendwell/lendwell/model/HoldStatus;" (.ref a_CANCELLED) := Sta.start ev_CANCELLED (Or.inr ⟨(hw _ (List.mem_of_getElem? (i := 2) rfl)), (hw _ (List.mem_of_getElem? (i := 16) rfl))⟩)
  obtain ⟨a_FULFILLED, ev_FULFILLED⟩ := exa_v n44
  have E_FULFILLED : Exa s s.heap a_FULFILLED "com/example/lendwell/lendwell/model/HoldStatus" := Exa.start ev_FULFILLED n44
  have S_FULFILLED : Sta s s.heap "com/example/lendwell/lendwell/model/HoldStatus" "FULFILLED" "Lcom/example/lendwell/lendwell/model/HoldStatus;" (.ref a_FULFILLED) := Sta.start ev_FULFILLED (Or.inr ⟨(hw _ (List.mem_of_getElem? (i := 2) rfl)), (hw _ (List.mem_of_getElem? (i := 18) rfl))⟩)
  have O_EXPIRED : s.fieldOf? a_EXPIRED "java/lang/Enum" "ordinal" "I" = some (.int (3 : Int32)) := own_ord ev_EXPIRED n32
  have O_QUEUED : s.fieldOf? a_QUEUED "java/lang/Enum" "ordinal" "I" = some (.int (0 : Int32)) := own_ord ev_QUEUED n34
  have O_TRAPPED : s.fieldOf? a_TRAPPED "java/lang/Enum" "ordinal" "I" = some (.int (1 : Int32)) := own_ord ev_TRAPPED n38
  have O_CANCELLED : s.fieldOf? a_CANCELLED "java/lang/Enum" "ordinal" "I" = some (.int (4 : Int32)) := own_ord ev_CANCELLED n42
  have O_FULFILLED : s.fieldOf? a_FULFILLED "java/lang/Enum" "ordinal" "I" = some (.int (2 : Int32)) := own_ord ev_FULFILLED n45
  obtain ⟨n, o, h1, h2, h3, _, L, rfl, ⟨rfl, N⟩, hq⟩ := rm0 l s _ hw tables_1 i0 a_QUEUED a_TRAPPED a_FULFILLED a_EXPIRED a_CANCELLED s.heap s.heap.size (Nat.le_refl _) (fun q => absurd ((O_FULFILLED.symm.trans ((congrArg (fun z => s.fieldOf? z "java/lang/Enum" "ordinal" "I") q).trans O_QUEUED))) (by decide)) (fun q => absurd ((O_FULFILLED.symm.trans ((congrArg (fun z => s.fieldOf? z "java/lang/Enum" "ordinal" "I") q).trans O_TRAPPED))) (by decide)) (fun q => absurd ((O_EXPIRED.symm.trans ((congrArg (fun z => s.fieldOf? z "java/lang/Enum" "ordinal" "I") q).trans O_QUEUED))) (by decide)) (fun q => absurd ((O_EXPIRED.symm.trans ((congrArg (fun z => s.fieldOf? z "java/lang/Enum" "ordinal" "I") q).trans O_TRAPPED))) (by decide)) (fun q => absurd ((O_CANCELLED.symm.trans ((congrArg (fun z => s.fieldOf? z "java/lang/Enum" "ordinal" "I") q).trans O_QUEUED))) (by decide)) (fun q => absurd ((O_CANCELLED.symm.trans ((congrArg (fun z => s.fieldOf? z "java/lang/Enum" "ordinal" "I") q).trans O_TRAPPED))) (by decide)) S_QUEUED S_TRAPPED E_QUEUED E_TRAPPED S_FULFILLED E_FULFILLED S_EXPIRED E_EXPIRED S_CANCELLED E_CANCELLED p e ha hc hk s m _ below hf ((Spec.applies_iff_loose hf).mp happ).1 ⟨rfl, State.Warmed39.refl s, rfl⟩ trivial
  refine ⟨n, _, h1, h2, h3, hpost _ _ _ _ _ _ ⟨Cond.after_iff.mpr rfl, Cond.after_iff.mpr (eq_i res_at (Term.int_eval (1)) rfl), trivial⟩ ⟨hq.1, hq.2.1, (hq.2.2.sift fun y hy => Or.inr (N y hy)).mono (by decide) (by decide)⟩⟩
theorem main_1_1 : Claimed_1_1 := comes_1 fun _ _ _ _ _ _ h hF => ⟨h.1, hF⟩
theorem main_1_2 : Claimed_1_2 := comes_1 fun _ _ _ _ _ _ h hF => ⟨h.2.1, hF⟩
end Jvm.Pilot.@@N@@
namespace Jvm.Pilot.@@N@@
open Jvm Jvm.ClassFile Sem Op Lib Jvm.Free Jvm.Stand Jvm.Pilot.@@N@@.Jvm.D
/-! MADE BY PROGRAM (witnessworld.py) out of the Statement's table words and the real class files: 12 classes; the members and pool entries that the words name. The judged class is class 1, her method 1. -/
namespace start1
open Jvm.ClassFile
def u (s : String) : CpInfo := .utf8 (stringToUtf16 s)
/-- a pool by its gaps: so many unusable entries, then the entry; so many at the end -/
def gap : Nat → List CpInfo → List CpInfo
  | 0, r => r
  | n + 1, r => .unusable :: gap n r
def poolList (es : List (Nat × CpInfo)) (last : Nat) : List CpInfo := es.foldr (fun e r => gap e.1 (e.2 :: r)) (gap last [])
def pool (es : List (Nat × CpInfo)) (last : Nat) : Array CpInfo := ⟨poolList es last⟩
def fileOf (pool : Array CpInfo) (this : Nat) (attrs : Array Attribute := #[]) (ms : Array MethodInfo := #[]) (fl : Nat := 33) (sup : Nat := 0) (ifs : Array Nat := #[]) (fds : Array FieldInfo := #[]) : ClassFile where
  minorVersion := 0
  majorVersion := 65
  constantPool := pool
  accessFlags := fl
  thisClass := this
  superClass := sup
  interfaces := ifs
  fields := fds
  methods := ms
  attributes := attrs
def plain (name : String) (sup : Option ClassId) : Class where
  name := name
  kind := .ordinary
  loader := none
  accessFlags := 33
  super := sup
  interfaces := #[]
  cf := none
  fields := #[]
  methods := #[]
  instanceTypes := #[]
  staticTypes := #[]
  resolved := #[]
  callSites := []
  init := .initialized
  statics := none
  mirror := none

def pool0 : Array CpInfo := pool [(5, u "<init>"), (0, u "()V"), (1, .class_ 10), (1, u "java/lang/Object")] 113

def k0m0 : Method := { name := "<init>", desc := "()V", sig := { parameters := [], returnType := none }, accessFlags := 1, code := none }
/-- java/lang/Object -/
def k0 : Class := { plain "java/lang/Object" none with
  accessFlags := 33
  interfaces := #[]
  cf := some (fileOf pool0 8 #[] #[{ accessFlags := 1, nameIndex := 5, descriptorIndex := 6, attributes := #[] }] 33 0 #[] #[])
  fields := #[]
  methods := #[k0m0]
  instanceTypes := #[]
  staticTypes := #[]
  resolved := Array.replicate 124 none
  statics := none }

def pool1 : Array CpInfo := pool [(2, .class_ 4), (1, u "java/lang/Object"), (0, u "<init>"), (0, u "()V"), (0, .integer 2147483647), (0, .fieldref 9 10), (0, .class_ 11), (0, .nameAndType 12 13), (0, u "com/example/lendwell/lendwell/model/HoldStatus"), (0, u "QUEUED"), (0, u "Lcom/example/lendwell/lendwell/model/HoldStatus;"), (0, .fieldref 9 15), (0, .nameAndType 16 13), (0, u "TRAPPED"), (0, .fieldref 9 18), (0, .nameAndType 19 13), (0, u "FULFILLED"), (0, .fieldref 9 21), (0, .nameAndType 22 13), (0, u "EXPIRED"), (0, .fieldref 9 24), (0, .nameAndType 25 13), (0, u "CANCELLED"), (0, .methodref 9 27), (0, .nameAndType 28 29), (0, u "isOpen"), (0, u "()Z"), (0, .class_ 31), (0, u "com/example/lendwell/lendwell/model/HoldStatusIsOpenPinLaw"), (2, u "law"), (0, u "(I)Z")] 3

def k1m0 : Method := { name := "<init>", desc := "()V", sig := { parameters := [], returnType := none }, accessFlags := 1, code := none }
def k1c1 : Code := { maxStack := 2, maxLocals := 4, code := code, exceptionTable := #[], attributes := #[] }
def k1m1 : Method := { name := "law", desc := "(I)Z", sig := { parameters := [.int], returnType := some .boolean }, accessFlags := 9, code := some k1c1 }
/-- com/example/lendwell/lendwell/model/HoldStatusIsOpenPinLaw -/
def k1 : Class := { plain "com/example/lendwell/lendwell/model/HoldStatusIsOpenPinLaw" (some 0) with
  accessFlags := 49
  interfaces := #[]
  cf := some (fileOf pool1 30 #[] #[{ accessFlags := 1, nameIndex := 5, descriptorIndex := 6, attributes := #[] }, { accessFlags := 9, nameIndex := 34, descriptorIndex := 35, attributes := #[] }] 49 2 #[] #[])
  fields := #[]
  methods := #[k1m0, k1m1]
  instanceTypes := #[]
  staticTypes := #[]
  resolved := Array.replicate 39 none
  statics := none }

def pool2 : Array CpInfo := pool [(1, .class_ 2), (0, u "java/lang/constant/Constable"), (0, .class_ 4), (0, u "java/lang/Object")] 6

/-- java/lang/constant/Constable -/
def k2 : Class := { plain "java/lang/constant/Constable" (some 0) with
  accessFlags := 1537
  interfaces := #[]
  cf := some (fileOf pool2 1 #[] #[] 1537 3 #[] #[])
  fields := #[]
  methods := #[]
  instanceTypes := #[]
  staticTypes := #[]
  resolved := Array.replicate 11 none
  statics := none }

def pool3 : Array CpInfo := pool [(1, .class_ 2), (0, u "java/lang/Comparable"), (0, .class_ 4), (0, u "java/lang/Object")] 7

/-- java/lang/Comparable -/
def k3 : Class := { plain "java/lang/Comparable" (some 0) with
  accessFlags := 1537
  interfaces := #[]
  cf := some (fileOf pool3 1 #[] #[] 1537 3 #[] #[])
  fields := #[]
  methods := #[]
  instanceTypes := #[]
  staticTypes := #[]
  resolved := Array.replicate 12 none
  statics := none }

def pool4 : Array CpInfo := pool [(1, .class_ 2), (0, u "java/io/Serializable"), (0, .class_ 4), (0, u "java/lang/Object")] 2

/-- java/io/Serializable -/
def k4 : Class := { plain "java/io/Serializable" (some 0) with
  accessFlags := 1537
  interfaces := #[]
  cf := some (fileOf pool4 1 #[] #[] 1537 3 #[] #[])
  fields := #[]
  methods := #[]
  instanceTypes := #[]
  staticTypes := #[]
  resolved := Array.replicate 7 none
  statics := none }

def pool5 : Array CpInfo := pool [(2, .class_ 4), (1, u "java/lang/Enum"), (0, u "name"), (0, u "Ljava/lang/String;"), (2, u "ordinal"), (0, u "I"), (1, .class_ 14), (1, u "java/lang/Object"), (4, u "hash"), (86, .class_ 108), (1, u "java/lang/Enum$EnumDesc"), (2, .class_ 112), (0, u "java/lang/constant/Constable"), (0, .class_ 114), (0, u "java/lang/Comparable"), (0, .class_ 116), (0, u "java/io/Serializable")] 87

/-- java/lang/Enum -/
def k5 : Class := { plain "java/lang/Enum" (some 0) with
  accessFlags := 1057
  interfaces := #[2, 3, 4]
  cf := some (fileOf pool5 2 #[.nestMembers #[106]] #[] 1057 12 #[111, 113, 115] #[{ accessFlags := 18, nameIndex := 5, descriptorIndex := 6, attributes := #[] }, { accessFlags := 18, nameIndex := 9, descriptorIndex := 10, attributes := #[] }, { accessFlags := 2, nameIndex := 19, descriptorIndex := 10, attributes := #[] }])
  fields := #[{ name := "name", type := (.object "java/lang/String"), accessFlags := 18, slot := 0, constantValue := 0 }, { name := "ordinal", type := .int, accessFlags := 18, slot := 1, constantValue := 0 }, { name := "hash", type := .int, accessFlags := 2, slot := 2, constantValue := 0 }]
  methods := #[]
  instanceTypes := #[(.object "java/lang/String"), .int, .int]
  staticTypes := #[]
  resolved := Array.replicate 204 none
  statics := none }

def pool6 : Array CpInfo := pool [(1, .class_ 2), (0, u "com/example/lendwell/lendwell/model/HoldStatus"), (0, .fieldref 1 4), (0, .nameAndType 5 6), (0, u "QUEUED"), (0, u "Lcom/example/lendwell/lendwell/model/HoldStatus;"), (0, .fieldref 1 8), (0, .nameAndType 9 6), (0, u "TRAPPED"), (2, u "FULFILLED"), (2, u "EXPIRED"), (2, u "CANCELLED"), (2, u "$VALUES"), (0, u "[Lcom/example/lendwell/lendwell/model/HoldStatus;"), (6, .class_ 31), (1, u "java/lang/Enum"), (8, u "written"), (0, u "Ljava/lang/String;"), (47, u "isOpen"), (0, u "()Z")] 22

def k6c0 : Code := { maxStack := 2, maxLocals := 1, code := prog_15_method_5_code, exceptionTable := #[], attributes := #[] }
def k6m0 : Method := { name := "isOpen", desc := "()Z", sig := { parameters := [], returnType := some .boolean }, accessFlags := 1, code := some k6c0 }
/-- com/example/lendwell/lendwell/model/HoldStatus -/
def k6 : Class := { plain "com/example/lendwell/lendwell/model/HoldStatus" (some 5) with
  accessFlags := 16433
  interfaces := #[]
  cf := some (fileOf pool6 1 #[] #[{ accessFlags := 1, nameIndex := 89, descriptorIndex := 90, attributes := #[] }] 16433 29 #[] #[{ accessFlags := 16409, nameIndex := 5, descriptorIndex := 6, attributes := #[] }, { accessFlags := 16409, nameIndex := 9, descriptorIndex := 6, attributes := #[] }, { accessFlags := 16409, nameIndex := 12, descriptorIndex := 6, attributes := #[] }, { accessFlags := 16409, nameIndex := 15, descriptorIndex := 6, attributes := #[] }, { accessFlags := 16409, nameIndex := 18, descriptorIndex := 6, attributes := #[] }, { accessFlags := 18, nameIndex := 40, descriptorIndex := 41, attributes := #[] }, { accessFlags := 4122, nameIndex := 21, descriptorIndex := 22, attributes := #[] }])
  fields := #[{ name := "QUEUED", type := (.object "com/example/lendwell/lendwell/model/HoldStatus"), accessFlags := 16409, slot := 0, constantValue := 0 }, { name := "TRAPPED", type := (.object "com/example/lendwell/lendwell/model/HoldStatus"), accessFlags := 16409, slot := 1, constantValue := 0 }, { name := "FULFILLED", type := (.object "com/example/lendwell/lendwell/model/HoldStatus"), accessFlags := 16409, slot := 2, constantValue := 0 }, { name := "EXPIRED", type := (.object "com/example/lendwell/lendwell/model/HoldStatus"), accessFlags := 16409, slot := 3, constantValue := 0 }, { name := "CANCELLED", type := (.object "com/example/lendwell/lendwell/model/HoldStatus"), accessFlags := 16409, slot := 4, constantValue := 0 }, { name := "written", type := (.object "java/lang/String"), accessFlags := 18, slot := 3, constantValue := 0 }, { name := "$VALUES", type := (.array (.object "com/example/lendwell/lendwell/model/HoldStatus")), accessFlags := 4122, slot := 5, constantValue := 0 }]
  methods := #[k6m0]
  instanceTypes := #[(.object "java/lang/String"), .int, .int, (.object "java/lang/String")]
  staticTypes := #[(.object "com/example/lendwell/lendwell/model/HoldStatus"), (.object "com/example/lendwell/lendwell/model/HoldStatus"), (.object "com/example/lendwell/lendwell/model/HoldStatus"), (.object "com/example/lendwell/lendwell/model/HoldStatus"), (.object "com/example/lendwell/lendwell/model/HoldStatus"), (.array (.object "com/example/lendwell/lendwell/model/HoldStatus"))]
  resolved := Array.replicate 113 none
  statics := some 0 }

def pool7 : Array CpInfo := pool [(1, u "java/lang/Cloneable"), (0, .class_ 1), (0, u "java/lang/Object"), (0, .class_ 3)] 3

/-- java/lang/Cloneable -/
def k7 : Class := { plain "java/lang/Cloneable" (some 0) with
  accessFlags := 1537
  interfaces := #[]
  cf := some (fileOf pool7 2 #[] #[] 1537 4 #[] #[])
  fields := #[]
  methods := #[]
  instanceTypes := #[]
  staticTypes := #[]
  resolved := Array.replicate 8 none
  statics := none }

/-- the primitive byte -/
def k8 : Class := { plain "byte" none with kind := .primitive 'B', accessFlags := 0x411 }
/-- [B -/
def k9 : Class := { plain "[B" (some 0) with kind := .array 8 .byte, interfaces := #[7, 4], accessFlags := 1041 }

/-- the primitive int -/
def k10 : Class := { plain "int" none with kind := .primitive 'I', accessFlags := 0x411 }
/-- [I -/
def k11 : Class := { plain "[I" (some 0) with kind := .array 10 .int, interfaces := #[7, 4], accessFlags := 1041 }

def heap : Heap := #[{ cls := 6, slots := #[.ref 1, .ref 2, .ref 3, .ref 4, .ref 5, .null], vm := .statics 6 },
  { cls := 6, slots := #[.null, .int 0, .int 0, .null], vm := .none },
  { cls := 6, slots := #[.null, .int 1, .int 0, .null], vm := .none },
  { cls := 6, slots := #[.null, .int 2, .int 0, .null], vm := .none },
  { cls := 6, slots := #[.null, .int 3, .int 0, .null], vm := .none },
  { cls := 6, slots := #[.null, .int 4, .int 0, .null], vm := .none }]
def classes : Array Class := #[k0, k1, k2, k3, k4, k5, k6, k7, k8, k9, k10, k11]
def interned : List (Array UInt16 × Addr) := []
def slotsUsed : Nat := 26
def theMethod : MethodId := ⟨1, 1⟩
def args0 : Array Value := #[.int 5]
def aboutOver (below : List Frame) : State where
  vm := { classes := classes, interned := interned.toArray }
  heap := heap
  slotsUsed := slotsUsed
  threads := #[{ frames := .invoking theMethod args0 :: below }]
def below0 : List Frame := [.native { method := ⟨0, 0⟩, args := #[] }]
def about1 : State := aboutOver below0
def p0 : Program := .bare "" "" ""
def e0 : Env := launch0.env 0 0 0
theorem w_frames : about1.frames = Frame.invoking theMethod args0 :: below0 := rfl
set_option maxRecDepth 65536 in
theorem w_args : argsFit about1.vm theMethod args0 = true := by decide +kernel
set_option maxRecDepth 65536 in
theorem w_heap : heapFits about1 = true := by decide +kernel
set_option maxRecDepth 65536 in
theorem w_runnable : about1.curStatus? = some .runnable := by decide +kernel
set_option maxRecDepth 65536 in
theorem w_alone : about1.alone = true := by decide +kernel
set_option maxRecDepth 65536 in
theorem w_named : about1.methodNamed? x = some theMethod := by decide +kernel
set_option maxRecDepth 65536 in
theorem w_hears : about1.hears theMethod below0 = true := by decide +kernel
set_option maxRecDepth 65536 in
theorem w_ripe : about1.ripe theMethod args0 below0 = true := by decide +kernel
theorem w_running : about1.status = .running := rfl
set_option maxRecDepth 65536 in
theorem w_room : about1.hasRoom e0.platform room_1 = true :=
  launch0.hasRoom_least _ room_1 (by decide +kernel) (by decide +kernel) (by decide +kernel) (by decide +kernel) (by decide +kernel) (by decide +kernel)
theorem allAtoms_all (ts : List Jvm.Cond) (a : Array Jvm.Value) (st : Jvm.State) : (allAtoms ts).before a st = ts.all (fun c => c.before a st) := by
  induction ts with
  | nil => rfl
  | cons c t ih =>
    show (Jvm.Cond.and c (allAtoms t)).before a st = _
    rw [Jvm.Cond.before_and, ih, List.all_cons]
def words1 : List Jvm.Cond := Jvm.Cond.code x code maxLocals ret :: tables_1
/-- a 'code' word, met by the world's own term for the bytes: nothing is compared byte by byte -/
theorem code_word {y : MethodName} {bytes : ByteArray} {mx : Nat} {rt : Option FieldType} {a : Array Value} {s : State} {m : MethodId} {meth : Method} {c : Code} (h1 : s.methodNamed? y = some m) (h2 : s.vm.method? m = some meth) (h3 : meth.code = some c) (h4 : c.code = bytes)
    (h5 : (c.maxLocals == mx && c.exceptionTable.isEmpty && decide (c.maxStack ≤ mostOperands) && decide (meth.sig.returnType = rt) && !meth.locks && decide (parseMethodDescriptor y.desc = some meth.sig)) = true) : (Jvm.Cond.code y bytes mx rt).before a s = true := by
  simp only [Bool.and_eq_true, beq_iff_eq, Bool.not_eq_true', decide_eq_true_eq] at h5
  obtain ⟨⟨⟨⟨⟨g1, g2⟩, g3⟩, g4⟩, g5⟩, g6⟩ := h5
  simp [Cond.before, Cond.holds, Cond.value, h1, h2, h3, h4, g1, g2, g3, g4, g5, g6]
def isCode : Jvm.Cond → Bool
  | .code _ _ _ _ => true
  | _ => false
theorem all_split {L : List Jvm.Cond} {P : Jvm.Cond → Bool} (h1 : L.all (fun c => isCode c || P c) = true) (h2 : ∀ c ∈ L.filter isCode, P c = true) : L.all P = true := by
  refine List.all_eq_true.mpr fun c hc => ?_
  have h := List.all_eq_true.mp h1 c hc
  rcases Bool.eq_false_or_eq_true (isCode c) with hi | hi
  · exact h2 c (List.mem_filter.mpr ⟨hc, hi⟩)
  · simpa [hi] using h
set_option maxRecDepth 65536 in
theorem w_c0 : (Jvm.Cond.code x code maxLocals ret).before args0 about1 = true := code_word (m := ⟨1, 1⟩) (meth := k1m1) (c := k1c1) (by decide +kernel) rfl rfl rfl (by decide +kernel)
set_option maxRecDepth 65536 in
theorem w_c1 : (Jvm.Cond.code ({ cls := "com/example/lendwell/lendwell/model/HoldStatus", name := "isOpen", desc := "()Z" } : Jvm.MethodName) prog_15_method_5_code (1 : Nat) (Option.some Jvm.ClassFile.FieldType.boolean)).before args0 about1 = true := code_word (m := ⟨6, 0⟩) (meth := k6m0) (c := k6c0) (by decide +kernel) rfl rfl rfl (by decide +kernel)
def codes1 : List Jvm.Cond := [Jvm.Cond.code x code maxLocals ret, Jvm.Cond.code ({ cls := "com/example/lendwell/lendwell/model/HoldStatus", name := "isOpen", desc := "()Z" } : Jvm.MethodName) prog_15_method_5_code (1 : Nat) (Option.some Jvm.ClassFile.FieldType.boolean)]
set_option maxRecDepth 65536 in
theorem codes_eq : words1.filter isCode = codes1 := rfl
theorem w_codes : ∀ c ∈ words1.filter isCode, c.before args0 about1 = true := by
  rw [codes_eq]
  intro c hc
  simp only [codes1, List.mem_cons, List.not_mem_nil, or_false] at hc
  rcases hc with rfl | rfl
  · exact w_c0
  · exact w_c1
set_option maxRecDepth 65536 in
theorem w_t1 : words1.all (fun c => isCode c || c.before args0 about1) = true := by decide +kernel
theorem w_tables : (allAtoms (Jvm.Cond.code x code maxLocals ret :: tables_1)).before args0 about1 = true := by
  rw [allAtoms_all]
  show words1.all (fun c => c.before args0 about1) = true
  refine all_split ?_ w_codes
  rw [w_t1]
set_option maxRecDepth 65536 in
theorem w_case : (Jvm.Cond.and given_1 narrow_1).before args0 about1 = true := by decide +kernel
theorem w_applies : (headSpec (Jvm.Cond.code x code maxLocals ret :: tables_1) room_1).applies x e0.platform about1 = true :=
  (Spec.applies_iff w_frames).mpr ⟨w_running, w_runnable, w_alone, w_named, w_hears, w_ripe, w_room, w_tables⟩
theorem atStart : AtStart classFile x code maxLocals ret World_1 tables_1 room_1 Calls_1 rest_1 Pre_1 launch0 p0 e0 about1 theMethod args0 below0 :=
  ⟨lists_1, trivial, launch0.admits_env _ _ _, launch0.least_env, fairChoices_fair.cas, fairChoices_fair.clock, w_frames, w_args, w_heap, w_applies, trivial, trivial, w_case⟩
end start1
theorem witness_1 : WitnessClaimed_1 := ⟨start1.p0, start1.e0, start1.about1, start1.theMethod, start1.args0, start1.below0, start1.atStart⟩
end Jvm.Pilot.@@N@@
