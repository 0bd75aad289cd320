import JvmDerived
import JvmDerived.Pilot.@@N@@Statement
import JvmDerived.Pilot.@@N@@Code
set_option linter.unusedVariables false
set_option linter.unusedSimpArgs false
namespace Jvm.RoadKit
open Sem ClassFile Op Lib Jvm.Stand Jvm.Free Jvm.LawKit
section New
variable {p : Program} {l : Launch} {e : Env} {R : Room} {s : State} {m : MethodId} {args : Array Value} {below : List Frame} {meth : Method} {c : Code} {T : State} {locs : List Loc} {cells slots : Nat}
theorem retI (X : Stand p l e R s m args below meth c T locs cells slots) (hx : p.tables.exec = Jvm.exec) {pc : Nat} {Ls : Array Slot} {z : Int32} {rest : List Value} (hret : meth.sig.returnType = some .int) (hd : decode c.code pc = .ok (.ireturn, 1)) {fs : List Frame}
    (hl : ∀ (f : JFrame) (acts : List Action), f.method = m → f.locked = none → f.entered = [] → (doReturn e (T.setTop f) acts (some (.int z))).1 = T.setFrames fs) : Steps p.tables e below (T.setTop (mkF m pc Ls (.int z :: rest))) (T.setFrames fs) := by
  have hm' : T.vm.method? m = some meth := X.method'
  have hn : narrow .int (.int z) = .int z := rfl
  show Steps p.tables e below (T.setTop { method := m, pc := pc, locals := Ls, stack := _ :: rest, locked := none }) _
  jvm_step X.here [X.here.top, hx, hd, hm', hret, hn]
  first | (intro acts; rw [hl _ acts rfl rfl rfl]) | rw [hl _ _ rfl rfl rfl]
  exact Steps.refl _
end New
end Jvm.RoadKit
@@BLOCK:NumsL.lean.txt@@
namespace Jvm.Pilot.@@N@@
open Jvm Jvm.ClassFile Sem Op Lib Jvm.Free Jvm.Stand Jvm.LawKit Jvm.RoadKit Bundle Jvm.Pilot.@@N@@.Jvm.D
/-- from S the run comes to an end that says Q -/
def own_Go (p : Program) (e : Env) (below : List Frame) (s : State) (Q : Option Value → Heap → List Loc → Prop) (c n : Nat) (S : State) : Prop :=
  ∃ s₂ o, Steps p.tables e below S s₂ ∧ s₂.status = .running ∧ Ended s₂ below o ∧ ∃ v L, o = .returned v ∧ Q v s₂.heap L ∧ FrameEnd s o s₂ L c n
theorem own_go {p : Program} {e : Env} {below : List Frame} {s : State} {Q : Option Value → Heap → List Loc → Prop} {c n : Nat} {S S' : State} (st : ∀ t, Steps p.tables e below S' t → Steps p.tables e below S t) (k : own_Go p e below s Q c n S') : own_Go p e below s Q c n S := by
  obtain ⟨s₂, o, h, r⟩ := k
  exact ⟨s₂, o, st _ h, r⟩
theorem own_goT {p : Program} {e : Env} {below : List Frame} {s : State} {Q : Option Value → Heap → List Loc → Prop} {c n : Nat} {S S' : State} (st : Steps p.tables e below S S') (k : own_Go p e below s Q c n S') : own_Go p e below s Q c n S := own_go (fun _ h => st.trans h) k
theorem own_end {p : Program} {e : Env} {below : List Frame} {s : State} {Q : Option Value → Heap → List Loc → Prop} {c n : Nat} {S s₂ : State} {v : Option Value} {L : List Loc} (h : Steps p.tables e below S s₂) (hrun : s₂.status = .running) (he : Ended s₂ below (.returned v)) (hq : Q v s₂.heap L) (hW : s.WarmedH s₂.vm) (hs : s.sameButNew ({ s₂ with vm := s.vm } : State) L c n) : own_Go p e below s Q c n S :=
  ⟨s₂, _, h, hrun, he, v, L, rfl, hq, ⟨_, rfl⟩, hW, hs⟩
/-- an array of known values, its class's number unsaid -/
def own_Arv (Z : State) (h : Heap) (a : Addr) (ty : FieldType) (n : Int32) (vs : List Value) (d : Value) : Prop := ∃ k, Arv Z h a k ty n vs d
theorem own_Arv.lt {Z : State} {h : Heap} {a : Addr} {ty : FieldType} {n : Int32} {vs : List Value} {d : Value} (F : own_Arv Z h a ty n vs d) : a < h.size := by obtain ⟨k, F⟩ := F; exact F.lt
theorem own_Arv.ext {Z : State} {h h' : Heap} {a : Addr} {ty : FieldType} {n : Int32} {vs : List Value} {d : Value} (F : own_Arv Z h a ty n vs d) (E : Ext h h') : own_Arv Z h' a ty n vs d := by obtain ⟨k, F⟩ := F; exact ⟨k, F.ext E⟩
theorem own_Arv.other {Z : State} {h h' : Heap} {a b : Addr} {sl : Nat} {v : Value} {ty : FieldType} {n : Int32} {vs : List Value} {d : Value} (F : own_Arv Z h b ty n vs d) (W : Wr h h' a sl v) (q : b ≠ a) : own_Arv Z h' b ty n vs d := by obtain ⟨k, F⟩ := F; exact ⟨k, F.other W q⟩
theorem own_Arv.keep {Z : State} {h h' : Heap} {a : Addr} {ws : List Addr} {ty : FieldType} {n : Int32} {vs : List Value} {d : Value} (F : own_Arv Z h a ty n vs d) (K : Keep h h' ws) (q : a ∉ ws) : own_Arv Z h' a ty n vs d := by obtain ⟨k, F⟩ := F; exact ⟨k, F.keep K q⟩
theorem own_plain {Z : State} {h : Heap} {a : Addr} {C : String} (F : Exa Z h a C) : ∃ c : Cell, h[a]? = some c ∧ c.vm.isStatics = false := by obtain ⟨c, k, h1, -, -, h4, -⟩ := F; exact ⟨c, h1, h4⟩
theorem own_sta_keep {Z : State} {h h' : Heap} {ws : List Addr} {C n d : String} {v : Value} (F : Sta Z h C n d v) (K : Keep h h' ws) (q : ∀ x ∈ ws, ∃ c : Cell, h[x]? = some c ∧ c.vm.isStatics = false) : Sta Z h' C n d v := by
  obtain ⟨cf, i, k, f, st, cell, h1, h2, h3, h4, h5, h6, h7⟩ := F
  refine ⟨cf, i, k, f, st, cell, h1, h2, h3, h4, K.2.1 st cell h5 fun hm => ?_, h6, h7⟩
  obtain ⟨c, g1, g2⟩ := q st hm
  cases h5.symm.trans g1
  rw [h6] at g2; cases g2
theorem own_ins_keep {Z : State} {h h' : Heap} {ws : List Addr} {a : Addr} {C : String} {b : Bool} (F : Ins Z h a C b) (K : Keep h h' ws) : Ins Z h' a C b := by
  obtain ⟨cell, cT, h1, h2, h3⟩ := F
  obtain ⟨c', g1, g2, g3, -⟩ := K.2.2 a cell h1
  exact ⟨c', cT, g1, h2, by rw [g2, g3]; exact h3⟩
/-- an array of which the length alone is known -/
def own_Len (Z : State) (h : Heap) (a : Addr) (ty : FieldType) (n : Int32) : Prop := ∃ c : Cell, Arr Z h a c ty ∧ c.slots.size = n.toNatClampNeg ∧ ¬ n < 0
theorem own_Len.lt {Z : State} {h : Heap} {a : Addr} {ty : FieldType} {n : Int32} (F : own_Len Z h a ty n) : a < h.size := by obtain ⟨c, A, -⟩ := F; exact A.lt
theorem own_Len.new {Z : State} {h : Heap} {a : Addr} {k : ClassId} {ty : FieldType} {n : Int32} (A : Arr Z h a (newA k ty n) ty) (q : ¬ n < 0) : own_Len Z h a ty n := ⟨_, A, sz_new _ _ _, q⟩
theorem own_Len.ext {Z : State} {h h' : Heap} {a : Addr} {ty : FieldType} {n : Int32} (F : own_Len Z h a ty n) (E : Ext h h') : own_Len Z h' a ty n := by obtain ⟨c, A, r⟩ := F; exact ⟨c, A.ext E, r⟩
theorem own_Len.other {Z : State} {h h' : Heap} {a b : Addr} {sl : Nat} {v : Value} {ty : FieldType} {n : Int32} (F : own_Len Z h b ty n) (W : Wr h h' a sl v) (q : b ≠ a) : own_Len Z h' b ty n := by obtain ⟨c, A, r⟩ := F; exact ⟨c, A.other W q, r⟩
theorem own_Len.keep {Z : State} {h h' : Heap} {a : Addr} {ws : List Addr} {ty : FieldType} {n : Int32} (F : own_Len Z h a ty n) (K : Keep h h' ws) (q : a ∉ ws) : own_Len Z h' a ty n := by obtain ⟨c, A, r⟩ := F; exact ⟨c, ⟨K.2.1 a c A.1 q, A.2⟩, r⟩
theorem own_unt_keep {h h' : Heap} {a : Addr} {ws : List Addr} (F : Unt h a) (K : Keep h h' ws) (q : a ∉ ws) : Unt h' a := by obtain ⟨c, h1, r⟩ := F; exact ⟨c, K.2.1 a c h1 q, r⟩
theorem own_unt_lt {h : Heap} {a : Addr} (F : Unt h a) : a < h.size := by obtain ⟨c, h1, -⟩ := F; exact (Array.getElem?_eq_some_iff.mp h1).1
/-- an array of references, of known values, its component's class C -/
def own_ArvR (Z : State) (h : Heap) (a : Addr) (C : String) (n : Int32) (vs : List Value) : Prop := ∃ k, Arv Z h a k (.object C) n vs .null ∧ Ovr Z k C
theorem own_ArvR.lt {Z : State} {h : Heap} {a : Addr} {C : String} {n : Int32} {vs : List Value} (F : own_ArvR Z h a C n vs) : a < h.size := by obtain ⟨k, F, -⟩ := F; exact F.lt
theorem own_ArvR.ext {Z : State} {h h' : Heap} {a : Addr} {C : String} {n : Int32} {vs : List Value} (F : own_ArvR Z h a C n vs) (E : Ext h h') : own_ArvR Z h' a C n vs := by obtain ⟨k, F, O⟩ := F; exact ⟨k, F.ext E, O⟩
theorem own_ArvR.other {Z : State} {h h' : Heap} {a b : Addr} {sl : Nat} {v : Value} {C : String} {n : Int32} {vs : List Value} (F : own_ArvR Z h b C n vs) (W : Wr h h' a sl v) (q : b ≠ a) : own_ArvR Z h' b C n vs := by obtain ⟨k, F, O⟩ := F; exact ⟨k, F.other W q, O⟩
theorem own_ArvR.keep {Z : State} {h h' : Heap} {a : Addr} {ws : List Addr} {C : String} {n : Int32} {vs : List Value} (F : own_ArvR Z h a C n vs) (K : Keep h h' ws) (q : a ∉ ws) : own_ArvR Z h' a C n vs := by obtain ⟨k, F, O⟩ := F; exact ⟨k, F.keep K q, O⟩
theorem own_plainB {Z : State} {h : Heap} {a : Addr} {C : String} {n : Int32} {vs : List Value} (F : own_ArvR Z h a C n vs) : ∃ c : Cell, h[a]? = some c ∧ c.vm.isStatics = false := by obtain ⟨k, ⟨c, A, -⟩, -⟩ := F; exact ⟨c, A.1, A.plain⟩
theorem own_plainA {Z : State} {h : Heap} {a : Addr} {ty : FieldType} {n : Int32} {vs : List Value} {d : Value} (F : own_Arv Z h a ty n vs d) : ∃ c : Cell, h[a]? = some c ∧ c.vm.isStatics = false := by obtain ⟨k, c, A, -⟩ := F; exact ⟨c, A.1, A.plain⟩
theorem own_plainL {Z : State} {h : Heap} {a : Addr} {ty : FieldType} {n : Int32} (F : own_Len Z h a ty n) : ∃ c : Cell, h[a]? = some c ∧ c.vm.isStatics = false := by obtain ⟨c, A, -⟩ := F; exact ⟨c, A.1, A.plain⟩
theorem own_neA {Z : State} {h : Heap} {x b : Addr} {C : String} {a0 : Array Value} {m : Nat} {ty : FieldType} {n : Int32} {vs : List Value} {d : Value} (E : Exa Z h x C) (F : own_Arv Z h b ty n vs d) (w : (Jvm.Cond.instantiable C m).before a0 Z = true) : x ≠ b := by obtain ⟨k, c, A, -⟩ := F; exact ne_arr E w A
theorem own_neL {Z : State} {h : Heap} {x b : Addr} {C : String} {a0 : Array Value} {m : Nat} {ty : FieldType} {n : Int32} (E : Exa Z h x C) (F : own_Len Z h b ty n) (w : (Jvm.Cond.instantiable C m).before a0 Z = true) : x ≠ b := by obtain ⟨c, A, -⟩ := F; exact ne_arr E w A
theorem own_neB {Z : State} {h : Heap} {x b : Addr} {C D : String} {a0 : Array Value} {m : Nat} {n : Int32} {vs : List Value} (E : Exa Z h x C) (F : own_ArvR Z h b D n vs) (w : (Jvm.Cond.instantiable C m).before a0 Z = true) : x ≠ b := by obtain ⟨k, ⟨c, A, -⟩, -⟩ := F; exact ne_arr E w A

theorem own_ord {args : Array Value} {s : State} {t : Term} {C n d : String} {k : Int32} {a : Addr} (ev : t.eval args s none [] s = some (.ref a)) (h : (Jvm.Cond.eq (.field t C n d) (.int k)).value args s none s [] = some true) : s.fieldOf? a C n d = some (.int k) := by
  obtain ⟨x, y, e1, e2, -, k2⟩ := cmp_v (Or.inl h)
  have e3 : y = .int k := (Option.some.inj e2).symm
  subst e3
  obtain ⟨z, rfl⟩ := k2
  have q := gotT (Cond.eq_ints e1 e2) h
  rw [← fld_at (C := C) (n := n) (dd := d) ev, e1, q]
theorem d1_0 : decode method_2_code 0 = .ok (.iload_n 0, 1) := by decide +kernel
theorem d1_1 : decode method_2_code 1 = .ok (.ifCond .ne 7, 3) := by decide +kernel
theorem d1_4 : decode method_2_code 4 = .ok (.getstatic 7, 3) := by decide +kernel
theorem d1_7 : decode method_2_code 7 = .ok (.areturn, 1) := by decide +kernel
theorem d1_8 : decode method_2_code 8 = .ok (.iload_n 0, 1) := by decide +kernel
theorem d1_9 : decode method_2_code 9 = .ok (.iconst 1, 1) := by decide +kernel
theorem d1_10 : decode method_2_code 10 = .ok (.if_icmp .ne 7, 3) := by decide +kernel
theorem d1_13 : decode method_2_code 13 = .ok (.getstatic 13, 3) := by decide +kernel
theorem d1_16 : decode method_2_code 16 = .ok (.areturn, 1) := by decide +kernel
theorem d1_17 : decode method_2_code 17 = .ok (.iload_n 0, 1) := by decide +kernel
theorem d1_18 : decode method_2_code 18 = .ok (.iconst 2, 1) := by decide +kernel
theorem d1_19 : decode method_2_code 19 = .ok (.if_icmp .ne 7, 3) := by decide +kernel
theorem d1_22 : decode method_2_code 22 = .ok (.getstatic 16, 3) := by decide +kernel
theorem d1_25 : decode method_2_code 25 = .ok (.areturn, 1) := by decide +kernel
theorem d1_26 : decode method_2_code 26 = .ok (.iload_n 0, 1) := by decide +kernel
theorem d1_27 : decode method_2_code 27 = .ok (.iconst 3, 1) := by decide +kernel
theorem d1_28 : decode method_2_code 28 = .ok (.if_icmp .ne 7, 3) := by decide +kernel
theorem d1_31 : decode method_2_code 31 = .ok (.getstatic 19, 3) := by decide +kernel
theorem d1_34 : decode method_2_code 34 = .ok (.areturn, 1) := by decide +kernel
theorem d1_35 : decode method_2_code 35 = .ok (.iload_n 0, 1) := by decide +kernel
theorem d1_36 : decode method_2_code 36 = .ok (.iconst 4, 1) := by decide +kernel
theorem d1_37 : decode method_2_code 37 = .ok (.if_icmp .ne 7, 3) := by decide +kernel
theorem d1_40 : decode method_2_code 40 = .ok (.getstatic 22, 3) := by decide +kernel
theorem d1_43 : decode method_2_code 43 = .ok (.areturn, 1) := by decide +kernel
theorem d1_44 : decode method_2_code 44 = .ok (.iload_n 0, 1) := by decide +kernel
theorem d1_45 : decode method_2_code 45 = .ok (.iconst 5, 1) := by decide +kernel
theorem d1_46 : decode method_2_code 46 = .ok (.if_icmp .ne 7, 3) := by decide +kernel
theorem d1_49 : decode method_2_code 49 = .ok (.getstatic 25, 3) := by decide +kernel
theorem d1_52 : decode method_2_code 52 = .ok (.areturn, 1) := by decide +kernel
theorem d1_53 : decode method_2_code 53 = .ok (.iload_n 0, 1) := by decide +kernel
theorem d1_54 : decode method_2_code 54 = .ok (.bipush 6, 2) := by decide +kernel
theorem d1_56 : decode method_2_code 56 = .ok (.if_icmp .ne 7, 3) := by decide +kernel
theorem d1_59 : decode method_2_code 59 = .ok (.getstatic 28, 3) := by decide +kernel
theorem d1_62 : decode method_2_code 62 = .ok (.areturn, 1) := by decide +kernel
theorem d1_63 : decode method_2_code 63 = .ok (.iload_n 0, 1) := by decide +kernel
theorem d1_64 : decode method_2_code 64 = .ok (.bipush 7, 2) := by decide +kernel
theorem d1_66 : decode method_2_code 66 = .ok (.if_icmp .ne 7, 3) := by decide +kernel
theorem d1_69 : decode method_2_code 69 = .ok (.getstatic 31, 3) := by decide +kernel
theorem d1_72 : decode method_2_code 72 = .ok (.areturn, 1) := by decide +kernel
theorem d1_73 : decode method_2_code 73 = .ok (.iload_n 0, 1) := by decide +kernel
theorem d1_74 : decode method_2_code 74 = .ok (.bipush 8, 2) := by decide +kernel
theorem d1_76 : decode method_2_code 76 = .ok (.if_icmp .ne 7, 3) := by decide +kernel
theorem d1_79 : decode method_2_code 79 = .ok (.getstatic 34, 3) := by decide +kernel
theorem d1_82 : decode method_2_code 82 = .ok (.areturn, 1) := by decide +kernel
theorem d1_83 : decode method_2_code 83 = .ok (.iload_n 0, 1) := by decide +kernel
theorem d1_84 : decode method_2_code 84 = .ok (.bipush 9, 2) := by decide +kernel
theorem d1_86 : decode method_2_code 86 = .ok (.if_icmp .ne 7, 3) := by decide +kernel
theorem d1_89 : decode method_2_code 89 = .ok (.getstatic 37, 3) := by decide +kernel
theorem d1_92 : decode method_2_code 92 = .ok (.areturn, 1) := by decide +kernel
theorem d1_93 : decode method_2_code 93 = .ok (.iload_n 0, 1) := by decide +kernel
theorem d1_94 : decode method_2_code 94 = .ok (.bipush 10, 2) := by decide +kernel
theorem d1_96 : decode method_2_code 96 = .ok (.if_icmp .ne 7, 3) := by decide +kernel
theorem d1_99 : decode method_2_code 99 = .ok (.getstatic 40, 3) := by decide +kernel
theorem d1_102 : decode method_2_code 102 = .ok (.areturn, 1) := by decide +kernel
theorem d1_103 : decode method_2_code 103 = .ok (.getstatic 43, 3) := by decide +kernel
theorem d1_106 : decode method_2_code 106 = .ok (.areturn, 1) := by decide +kernel
theorem pn_56 : plainName "com/example/scorebench/scorebench/grading/MutantVerdictCaughtPinLaw" = true := by first | (simp [plainName, overriddenIn]; done) | decide +kernel
theorem ef_pick (m : MethodId) (x0 : Int32) : entryFrame m #[(.int x0)] 1 = mkF m 0 #[.val (.int x0)] [] := by first | (simp [entryFrame, mkF, argsToLocals, Value.category]; done) | rfl
def pick_r (p0 : Int32) (w_s_ACCEPTED : Addr) (w_s_PRESENTATION_ERROR : Addr) (w_s_WRONG_ANSWER : Addr) (w_s_COMPILE_ERROR : Addr) (w_s_RUNTIME_ERROR : Addr) (w_s_TIME_LIMIT : Addr) (w_s_OUTPUT_LIMIT : Addr) (w_s_FILE_LIMIT : Addr) (w_s_MARKED : Addr) (w_s_SCRIPT_ERROR : Addr) (w_s_CAUGHT : Addr) (w_s_MISSED : Addr) : Addr := (if p0 = (0 : Int32) then w_s_ACCEPTED else (if p0 = (1 : Int32) then w_s_PRESENTATION_ERROR else (if p0 = (2 : Int32) then w_s_WRONG_ANSWER else (if p0 = (3 : Int32) then w_s_COMPILE_ERROR else (if p0 = (4 : Int32) then w_s_RUNTIME_ERROR else (if p0 = (5 : Int32) then w_s_TIME_LIMIT else (if p0 = (6 : Int32) then w_s_OUTPUT_LIMIT else (if p0 = (7 : Int32) then w_s_FILE_LIMIT else (if p0 = (8 : Int32) then w_s_MARKED else (if p0 = (9 : Int32) then w_s_SCRIPT_ERROR else (if p0 = (10 : Int32) then w_s_CAUGHT else w_s_MISSED)))))))))))
def Qpick (Z : State) (p0 : Int32) (w_s_ACCEPTED : Addr) (w_s_PRESENTATION_ERROR : Addr) (w_s_WRONG_ANSWER : Addr) (w_s_COMPILE_ERROR : Addr) (w_s_RUNTIME_ERROR : Addr) (w_s_TIME_LIMIT : Addr) (w_s_OUTPUT_LIMIT : Addr) (w_s_FILE_LIMIT : Addr) (w_s_MARKED : Addr) (w_s_SCRIPT_ERROR : Addr) (w_s_CAUGHT : Addr) (w_s_MISSED : Addr) (h0 : Heap) (n0 : Nat) (v : Option Value) (h : Heap) (L : List Loc) : Prop := v = some (.ref (pick_r p0 w_s_ACCEPTED w_s_PRESENTATION_ERROR w_s_WRONG_ANSWER w_s_COMPILE_ERROR w_s_RUNTIME_ERROR w_s_TIME_LIMIT w_s_OUTPUT_LIMIT w_s_FILE_LIMIT w_s_MARKED w_s_SCRIPT_ERROR w_s_CAUGHT w_s_MISSED)) ∧ Fr n0 L ∧ h = h0
set_option maxRecDepth 65536 in
set_option maxHeartbeats 40000000 in
theorem pick (l : Launch) (Z : State) (a0 : Array Value) (hw : ∀ d ∈ tables_1, d.before a0 Z = true) (ws : List Jvm.Cond) (p0 : Int32) (w_s_ACCEPTED : Addr) (w_s_PRESENTATION_ERROR : Addr) (w_s_WRONG_ANSWER : Addr) (w_s_COMPILE_ERROR : Addr) (w_s_RUNTIME_ERROR : Addr) (w_s_TIME_LIMIT : Addr) (w_s_OUTPUT_LIMIT : Addr) (w_s_FILE_LIMIT : Addr) (w_s_MARKED : Addr) (w_s_SCRIPT_ERROR : Addr) (w_s_CAUGHT : Addr) (w_s_MISSED : Addr) (h0 : Heap) (n0 : Nat) (Z0 : n0 ≤ h0.size) (S_ACCEPTED : Sta Z h0 "com/example/scorebench/scorebench/grading/Verdict" "ACCEPTED" "Lcom/example/scorebench/scorebench/grading/Verdict;" (.ref w_s_ACCEPTED)) (S_PRESENTATION_ERROR : Sta Z h0 "com/example/scorebench/scorebench/grading/Verdict" "PRESENTATION_ERROR" "Lcom/example/scorebench/scorebench/grading/Verdict;" (.ref w_s_PRESENTATION_ERROR)) (S_WRONG_ANSWER : Sta Z h0 "com/example/scorebench/scorebench/grading/Verdict" "WRONG_ANSWER" "Lcom/example/scorebench/scorebench/grading/Verdict;" (.ref w_s_WRONG_ANSWER)) (S_COMPILE_ERROR : Sta Z h0 "com/example/scorebench/scorebench/grading/Verdict" "COMPILE_ERROR" "Lcom/example/scorebench/scorebench/grading/Verdict;" (.ref w_s_COMPILE_ERROR)) (S_RUNTIME_ERROR : Sta Z h0 "com/example/scorebench/scorebench/grading/Verdict" "RUNTIME_ERROR" "Lcom/example/scorebench/scorebench/grading/Verdict;" (.ref w_s_RUNTIME_ERROR)) (S_TIME_LIMIT : Sta Z h0 "com/example/scorebench/scorebench/grading/Verdict" "TIME_LIMIT" "Lcom/example/scorebench/scorebench/grading/Verdict;" (.ref w_s_TIME_LIMIT)) (S_OUTPUT_LIMIT : Sta Z h0 "com/example/scorebench/scorebench/grading/Verdict" "OUTPUT_LIMIT" "Lcom/example/scorebench/scorebench/grading/Verdict;" (.ref w_s_OUTPUT_LIMIT)) (S_FILE_LIMIT : Sta Z h0 "com/example/scorebench/scorebench/grading/Verdict" "FILE_LIMIT" "Lcom/example/scorebench/scorebench/grading/Verdict;" (.ref w_s_FILE_LIMIT)) (S_MARKED : Sta Z h0 "com/example/scorebench/scorebench/grading/Verdict" "MARKED" "Lcom/example/scorebench/scorebench/grading/Verdict;" (.ref w_s_MARKED)) (S_SCRIPT_ERROR : Sta Z h0 "com/example/scorebench/scorebench/grading/Verdict" "SCRIPT_ERROR" "Lcom/example/scorebench/scorebench/grading/Verdict;" (.ref w_s_SCRIPT_ERROR)) (S_CAUGHT : Sta Z h0 "com/example/scorebench/scorebench/grading/Verdict" "CAUGHT" "Lcom/example/scorebench/scorebench/grading/Verdict;" (.ref w_s_CAUGHT)) (S_MISSED : Sta Z h0 "com/example/scorebench/scorebench/grading/Verdict" "MISSED" "Lcom/example/scorebench/scorebench/grading/Verdict;" (.ref w_s_MISSED)) :
    MetFree l (⟨"com/example/scorebench/scorebench/grading/MutantVerdictCaughtPinLaw", "pick", "(I)Lcom/example/scorebench/scorebench/grading/Verdict;"⟩ : MethodName) (head1 (Jvm.Cond.code (⟨"com/example/scorebench/scorebench/grading/MutantVerdictCaughtPinLaw", "pick", "(I)Lcom/example/scorebench/scorebench/grading/Verdict;"⟩ : MethodName) method_2_code 1 (some (.object "com/example/scorebench/scorebench/grading/Verdict")) :: ws) ({ frames := 0, cells := 0, slots := 0, locals := 0 } : Room)) (fun a U => a = #[(.int p0)] ∧ Z.Warmed39 U.vm ∧ U.heap = h0) (fun _ _ _ _ _ => True) (fun _ U o U' => ∃ v L, o = .returned v ∧ Qpick Z p0 w_s_ACCEPTED w_s_PRESENTATION_ERROR w_s_WRONG_ANSWER w_s_COMPILE_ERROR w_s_RUNTIME_ERROR w_s_TIME_LIMIT w_s_OUTPUT_LIMIT w_s_FILE_LIMIT w_s_MARKED w_s_SCRIPT_ERROR w_s_CAUGHT w_s_MISSED h0 n0 v U'.heap L ∧ FrameEnd U o U' L ({ frames := 0, cells := 0, slots := 0, locals := 0 } : Room).cells ({ frames := 0, cells := 0, slots := 0, locals := 0 } : Room).slots) := by
  refine MetFree.of_bodySF (plainFor_of_name pn_56) hisR ?_
  intro p e s m args below meth c s₁ Bd hml0 hP hK
  obtain ⟨rfl, hZ, hh⟩ := hP
  have hx := Bd.exec
  have hby := Bd.bytes
  have hml : c.maxLocals = 1 := hml0
  have hown : s.vm.findClass "com/example/scorebench/scorebench/grading/MutantVerdictCaughtPinLaw" = some m.cls := findClass_of_methodNamed Bd.named
  have hnm := (name_of_methodNamed Bd.named Bd.method).1
  have X0 : Stand p l e ({ frames := 0, cells := 0, slots := 0, locals := 0 } : Room) s m #[(.int p0)] below meth c s₁ [] 0 0 := Stand.of_body Bd
  have e0 : s₁.heap = h0 := by rw [← hh, Bd.state]; rfl
  have N0 := Fr.nil n0
  show own_Go p e below s (Qpick Z p0 w_s_ACCEPTED w_s_PRESENTATION_ERROR w_s_WRONG_ANSWER w_s_COMPILE_ERROR w_s_RUNTIME_ERROR w_s_TIME_LIMIT w_s_OUTPUT_LIMIT w_s_FILE_LIMIT w_s_MARKED w_s_SCRIPT_ERROR w_s_CAUGHT w_s_MISSED h0 n0) ({ frames := 0, cells := 0, slots := 0, locals := 0 } : Room).cells ({ frames := 0, cells := 0, slots := 0, locals := 0 } : Room).slots (s₁.setTop (entryFrame m #[(.int p0)] 1))
  rw [ef_pick m p0]
  have K0 : Keep h0 h0 [] := Keep.refl h0 []
  refine own_go (S' := s₁.setTop (mkF m 1 #[.val (.int p0)] [(.int p0)])) (fun t k => ?_) ?_
  · show Steps p.tables e below (s₁.setTop (mkF m 0 #[.val (.int p0)] [])) t
    refine XS.iloadN X0.here hx rfl (hb hby d1_0) rfl ?_
    exact k
  by_cases hc1 : p0 = (0 : Int32)
  · skip
    refine own_go (S' := s₁.setTop (mkF m 4 #[.val (.int p0)] [])) (fun t k => ?_) ?_
    · show Steps p.tables e below (s₁.setTop (mkF m 1 #[.val (.int p0)] [(.int p0)])) t
      refine XS.ifNo X0.here hx rfl (hb hby d1_1) rfl ((if0 _ _).trans (teq hc1).2) ?_
      exact k
    obtain ⟨T1, X1, e1, st1⟩ := getS2 X0 hx hZ hown (host := "") (Or.inl (hw _ (List.mem_of_getElem? (i := 5) rfl))) Via.refl e0 S_ACCEPTED (g := (mkF m 4 #[.val (.int p0)] [])) rfl (hb hby d1_4)
    refine own_go st1 ?_
    obtain ⟨fs, hr, hrun, hended, hW, hsame⟩ := X1.leave (v := some (.ref w_s_ACCEPTED)) (fun h => by rw [Bd.returns] at h; cases h)
    refine own_end (v := some (.ref w_s_ACCEPTED)) ?_ hrun hended ?_ hW (hsame.mono (by decide) (by decide))
    · show Steps p.tables e below (T1.setTop (mkF m 7 #[.val (.int p0)] [(.ref w_s_ACCEPTED)])) _
      jvm_step X1.here [X1.here.top, hx, (hb hby d1_7), X1.method', Bd.returns, Value.isRef, FieldType.isReference]
      first | (intro acts; rw [hr _ acts rfl rfl rfl]) | rw [hr _ _ rfl rfl rfl]
      exact Steps.refl _
    · show Qpick Z p0 w_s_ACCEPTED w_s_PRESENTATION_ERROR w_s_WRONG_ANSWER w_s_COMPILE_ERROR w_s_RUNTIME_ERROR w_s_TIME_LIMIT w_s_OUTPUT_LIMIT w_s_FILE_LIMIT w_s_MARKED w_s_SCRIPT_ERROR w_s_CAUGHT w_s_MISSED h0 n0 _ T1.heap _
      rw [e1]
      exact ⟨(by simp only [pick_r, if_pos hc1]), N0, rfl⟩
  · skip
    refine own_go (S' := s₁.setTop (mkF m 10 #[.val (.int p0)] [(.int (1 : Int32)), (.int p0)])) (fun t k => ?_) ?_
    · show Steps p.tables e below (s₁.setTop (mkF m 1 #[.val (.int p0)] [(.int p0)])) t
      refine XS.ifYes X0.here hx rfl (pc0 := 1) (pc' := 8) rfl (hb hby d1_1) rfl ((if0 _ _).trans (feq hc1).2) (by decide) (by decide) ?_
      show Steps p.tables e below (s₁.setTop (mkF m 8 #[.val (.int p0)] [])) t
      refine XS.iloadN X0.here hx rfl (hb hby d1_8) rfl ?_
      show Steps p.tables e below (s₁.setTop (mkF m 9 #[.val (.int p0)] [(.int p0)])) t
      refine XS.iconst X0.here hx rfl (hb hby d1_9) ?_
      exact k
    by_cases hc10 : p0 = (1 : Int32)
    · skip
      refine own_go (S' := s₁.setTop (mkF m 13 #[.val (.int p0)] [])) (fun t k => ?_) ?_
      · show Steps p.tables e below (s₁.setTop (mkF m 10 #[.val (.int p0)] [(.int (1 : Int32)), (.int p0)])) t
        refine XS.icmpNo X0.here hx rfl (hb hby d1_10) rfl (teq hc10).2 ?_
        exact k
      obtain ⟨T2, X2, e2, st2⟩ := getS2 X0 hx hZ hown (host := "") (Or.inl (hw _ (List.mem_of_getElem? (i := 79) rfl))) Via.refl e0 S_PRESENTATION_ERROR (g := (mkF m 13 #[.val (.int p0)] [])) rfl (hb hby d1_13)
      refine own_go st2 ?_
      obtain ⟨fs, hr, hrun, hended, hW, hsame⟩ := X2.leave (v := some (.ref w_s_PRESENTATION_ERROR)) (fun h => by rw [Bd.returns] at h; cases h)
      refine own_end (v := some (.ref w_s_PRESENTATION_ERROR)) ?_ hrun hended ?_ hW (hsame.mono (by decide) (by decide))
      · show Steps p.tables e below (T2.setTop (mkF m 16 #[.val (.int p0)] [(.ref w_s_PRESENTATION_ERROR)])) _
        jvm_step X2.here [X2.here.top, hx, (hb hby d1_16), X2.method', Bd.returns, Value.isRef, FieldType.isReference]
        first | (intro acts; rw [hr _ acts rfl rfl rfl]) | rw [hr _ _ rfl rfl rfl]
        exact Steps.refl _
      · show Qpick Z p0 w_s_ACCEPTED w_s_PRESENTATION_ERROR w_s_WRONG_ANSWER w_s_COMPILE_ERROR w_s_RUNTIME_ERROR w_s_TIME_LIMIT w_s_OUTPUT_LIMIT w_s_FILE_LIMIT w_s_MARKED w_s_SCRIPT_ERROR w_s_CAUGHT w_s_MISSED h0 n0 _ T2.heap _
        rw [e2]
        exact ⟨(by simp only [pick_r, if_neg hc1, if_pos hc10]), N0, rfl⟩
    · skip
      refine own_go (S' := s₁.setTop (mkF m 19 #[.val (.int p0)] [(.int (2 : Int32)), (.int p0)])) (fun t k => ?_) ?_
      · show Steps p.tables e below (s₁.setTop (mkF m 10 #[.val (.int p0)] [(.int (1 : Int32)), (.int p0)])) t
        refine XS.icmpYes X0.here hx rfl (pc0 := 10) (pc' := 17) rfl (hb hby d1_10) rfl (feq hc10).2 (by decide) (by decide) ?_
        show Steps p.tables e below (s₁.setTop (mkF m 17 #[.val (.int p0)] [])) t
        refine XS.iloadN X0.here hx rfl (hb hby d1_17) rfl ?_
        show Steps p.tables e below (s₁.setTop (mkF m 18 #[.val (.int p0)] [(.int p0)])) t
        refine XS.iconst X0.here hx rfl (hb hby d1_18) ?_
        exact k
      by_cases hc19 : p0 = (2 : Int32)
      · skip
        refine own_go (S' := s₁.setTop (mkF m 22 #[.val (.int p0)] [])) (fun t k => ?_) ?_
        · show Steps p.tables e below (s₁.setTop (mkF m 19 #[.val (.int p0)] [(.int (2 : Int32)), (.int p0)])) t
          refine XS.icmpNo X0.here hx rfl (hb hby d1_19) rfl (teq hc19).2 ?_
          exact k
        obtain ⟨T3, X3, e3, st3⟩ := getS2 X0 hx hZ hown (host := "") (Or.inl (hw _ (List.mem_of_getElem? (i := 81) rfl))) Via.refl e0 S_WRONG_ANSWER (g := (mkF m 22 #[.val (.int p0)] [])) rfl (hb hby d1_22)
        refine own_go st3 ?_
        obtain ⟨fs, hr, hrun, hended, hW, hsame⟩ := X3.leave (v := some (.ref w_s_WRONG_ANSWER)) (fun h => by rw [Bd.returns] at h; cases h)
        refine own_end (v := some (.ref w_s_WRONG_ANSWER)) ?_ hrun hended ?_ hW (hsame.mono (by decide) (by decide))
        · show Steps p.tables e below (T3.setTop (mkF m 25 #[.val (.int p0)] [(.ref w_s_WRONG_ANSWER)])) _
          jvm_step X3.here [X3.here.top, hx, (hb hby d1_25), X3.method', Bd.returns, Value.isRef, FieldType.isReference]
          first | (intro acts; rw [hr _ acts rfl rfl rfl]) | rw [hr _ _ rfl rfl rfl]
          exact Steps.refl _
        · show Qpick Z p0 w_s_ACCEPTED w_s_PRESENTATION_ERROR w_s_WRONG_ANSWER w_s_COMPILE_ERROR w_s_RUNTIME_ERROR w_s_TIME_LIMIT w_s_OUTPUT_LIMIT w_s_FILE_LIMIT w_s_MARKED w_s_SCRIPT_ERROR w_s_CAUGHT w_s_MISSED h0 n0 _ T3.heap _
          rw [e3]
          exact ⟨(by simp only [pick_r, if_neg hc1, if_neg hc10, if_pos hc19]), N0, rfl⟩
      · skip
        refine own_go (S' := s₁.setTop (mkF m 28 #[.val (.int p0)] [(.int (3 : Int32)), (.int p0)])) (fun t k => ?_) ?_
        · show Steps p.tables e below (s₁.setTop (mkF m 19 #[.val (.int p0)] [(.int (2 : Int32)), (.int p0)])) t
          refine XS.icmpYes X0.here hx rfl (pc0 := 19) (pc' := 26) rfl (hb hby d1_19) rfl (feq hc19).2 (by decide) (by decide) ?_
          show Steps p.tables e below (s₁.setTop (mkF m 26 #[.val (.int p0)] [])) t
          refine XS.iloadN X0.here hx rfl (hb hby d1_26) rfl ?_
          show Steps p.tables e below (s₁.setTop (mkF m 27 #[.val (.int p0)] [(.int p0)])) t
          refine XS.iconst X0.here hx rfl (hb hby d1_27) ?_
          exact k
        by_cases hc28 : p0 = (3 : Int32)
        · skip
          refine own_go (S' := s₁.setTop (mkF m 31 #[.val (.int p0)] [])) (fun t k => ?_) ?_
          · show Steps p.tables e below (s₁.setTop (mkF m 28 #[.val (.int p0)] [(.int (3 : Int32)), (.int p0)])) t
            refine XS.icmpNo X0.here hx rfl (hb hby d1_28) rfl (teq hc28).2 ?_
            exact k
          obtain ⟨T4, X4, e4, st4⟩ := getS2 X0 hx hZ hown (host := "") (Or.inl (hw _ (List.mem_of_getElem? (i := 83) rfl))) Via.refl e0 S_COMPILE_ERROR (g := (mkF m 31 #[.val (.int p0)] [])) rfl (hb hby d1_31)
          refine own_go st4 ?_
          obtain ⟨fs, hr, hrun, hended, hW, hsame⟩ := X4.leave (v := some (.ref w_s_COMPILE_ERROR)) (fun h => by rw [Bd.returns] at h; cases h)
          refine own_end (v := some (.ref w_s_COMPILE_ERROR)) ?_ hrun hended ?_ hW (hsame.mono (by decide) (by decide))
          · show Steps p.tables e below (T4.setTop (mkF m 34 #[.val (.int p0)] [(.ref w_s_COMPILE_ERROR)])) _
            jvm_step X4.here [X4.here.top, hx, (hb hby d1_34), X4.method', Bd.returns, Value.isRef, FieldType.isReference]
            first | (intro acts; rw [hr _ acts rfl rfl rfl]) | rw [hr _ _ rfl rfl rfl]
            exact Steps.refl _
          · show Qpick Z p0 w_s_ACCEPTED w_s_PRESENTATION_ERROR w_s_WRONG_ANSWER w_s_COMPILE_ERROR w_s_RUNTIME_ERROR w_s_TIME_LIMIT w_s_OUTPUT_LIMIT w_s_FILE_LIMIT w_s_MARKED w_s_SCRIPT_ERROR w_s_CAUGHT w_s_MISSED h0 n0 _ T4.heap _
            rw [e4]
            exact ⟨(by simp only [pick_r, if_neg hc1, if_neg hc10, if_neg hc19, if_pos hc28]), N0, rfl⟩
        · skip
          refine own_go (S' := s₁.setTop (mkF m 37 #[.val (.int p0)] [(.int (4 : Int32)), (.int p0)])) (fun t k => ?_) ?_
          · show Steps p.tables e below (s₁.setTop (mkF m 28 #[.val (.int p0)] [(.int (3 : Int32)), (.int p0)])) t
            refine XS.icmpYes X0.here hx rfl (pc0 := 28) (pc' := 35) rfl (hb hby d1_28) rfl (feq hc28).2 (by decide) (by decide) ?_
            show Steps p.tables e below (s₁.setTop (mkF m 35 #[.val (.int p0)] [])) t
            refine XS.iloadN X0.here hx rfl (hb hby d1_35) rfl ?_
            show Steps p.tables e below (s₁.setTop (mkF m 36 #[.val (.int p0)] [(.int p0)])) t
            refine XS.iconst X0.here hx rfl (hb hby d1_36) ?_
            exact k
          by_cases hc37 : p0 = (4 : Int32)
          · skip
            refine own_go (S' := s₁.setTop (mkF m 40 #[.val (.int p0)] [])) (fun t k => ?_) ?_
            · show Steps p.tables e below (s₁.setTop (mkF m 37 #[.val (.int p0)] [(.int (4 : Int32)), (.int p0)])) t
              refine XS.icmpNo X0.here hx rfl (hb hby d1_37) rfl (teq hc37).2 ?_
              exact k
            obtain ⟨T5, X5, e5, st5⟩ := getS2 X0 hx hZ hown (host := "") (Or.inl (hw _ (List.mem_of_getElem? (i := 77) rfl))) Via.refl e0 S_RUNTIME_ERROR (g := (mkF m 40 #[.val (.int p0)] [])) rfl (hb hby d1_40)
            refine own_go st5 ?_
            obtain ⟨fs, hr, hrun, hended, hW, hsame⟩ := X5.leave (v := some (.ref w_s_RUNTIME_ERROR)) (fun h => by rw [Bd.returns] at h; cases h)
            refine own_end (v := some (.ref w_s_RUNTIME_ERROR)) ?_ hrun hended ?_ hW (hsame.mono (by decide) (by decide))
            · show Steps p.tables e below (T5.setTop (mkF m 43 #[.val (.int p0)] [(.ref w_s_RUNTIME_ERROR)])) _
              jvm_step X5.here [X5.here.top, hx, (hb hby d1_43), X5.method', Bd.returns, Value.isRef, FieldType.isReference]
              first | (intro acts; rw [hr _ acts rfl rfl rfl]) | rw [hr _ _ rfl rfl rfl]
              exact Steps.refl _
            · show Qpick Z p0 w_s_ACCEPTED w_s_PRESENTATION_ERROR w_s_WRONG_ANSWER w_s_COMPILE_ERROR w_s_RUNTIME_ERROR w_s_TIME_LIMIT w_s_OUTPUT_LIMIT w_s_FILE_LIMIT w_s_MARKED w_s_SCRIPT_ERROR w_s_CAUGHT w_s_MISSED h0 n0 _ T5.heap _
              rw [e5]
              exact ⟨(by simp only [pick_r, if_neg hc1, if_neg hc10, if_neg hc19, if_neg hc28, if_pos hc37]), N0, rfl⟩
          · skip
            refine own_go (S' := s₁.setTop (mkF m 46 #[.val (.int p0)] [(.int (5 : Int32)), (.int p0)])) (fun t k => ?_) ?_
            · show Steps p.tables e below (s₁.setTop (mkF m 37 #[.val (.int p0)] [(.int (4 : Int32)), (.int p0)])) t
              refine XS.icmpYes X0.here hx rfl (pc0 := 37) (pc' := 44) rfl (hb hby d1_37) rfl (feq hc37).2 (by decide) (by decide) ?_
              show Steps p.tables e below (s₁.setTop (mkF m 44 #[.val (.int p0)] [])) t
              refine XS.iloadN X0.here hx rfl (hb hby d1_44) rfl ?_
              show Steps p.tables e below (s₁.setTop (mkF m 45 #[.val (.int p0)] [(.int p0)])) t
              refine XS.iconst X0.here hx rfl (hb hby d1_45) ?_
              exact k
            by_cases hc46 : p0 = (5 : Int32)
            · skip
              refine own_go (S' := s₁.setTop (mkF m 49 #[.val (.int p0)] [])) (fun t k => ?_) ?_
              · show Steps p.tables e below (s₁.setTop (mkF m 46 #[.val (.int p0)] [(.int (5 : Int32)), (.int p0)])) t
                refine XS.icmpNo X0.here hx rfl (hb hby d1_46) rfl (teq hc46).2 ?_
                exact k
              obtain ⟨T6, X6, e6, st6⟩ := getS2 X0 hx hZ hown (host := "") (Or.inl (hw _ (List.mem_of_getElem? (i := 87) rfl))) Via.refl e0 S_TIME_LIMIT (g := (mkF m 49 #[.val (.int p0)] [])) rfl (hb hby d1_49)
              refine own_go st6 ?_
              obtain ⟨fs, hr, hrun, hended, hW, hsame⟩ := X6.leave (v := some (.ref w_s_TIME_LIMIT)) (fun h => by rw [Bd.returns] at h; cases h)
              refine own_end (v := some (.ref w_s_TIME_LIMIT)) ?_ hrun hended ?_ hW (hsame.mono (by decide) (by decide))
              · show Steps p.tables e below (T6.setTop (mkF m 52 #[.val (.int p0)] [(.ref w_s_TIME_LIMIT)])) _
                jvm_step X6.here [X6.here.top, hx, (hb hby d1_52), X6.method', Bd.returns, Value.isRef, FieldType.isReference]
                first | (intro acts; rw [hr _ acts rfl rfl rfl]) | rw [hr _ _ rfl rfl rfl]
                exact Steps.refl _
              · show Qpick Z p0 w_s_ACCEPTED w_s_PRESENTATION_ERROR w_s_WRONG_ANSWER w_s_COMPILE_ERROR w_s_RUNTIME_ERROR w_s_TIME_LIMIT w_s_OUTPUT_LIMIT w_s_FILE_LIMIT w_s_MARKED w_s_SCRIPT_ERROR w_s_CAUGHT w_s_MISSED h0 n0 _ T6.heap _
                rw [e6]
                exact ⟨(by simp only [pick_r, if_neg hc1, if_neg hc10, if_neg hc19, if_neg hc28, if_neg hc37, if_pos hc46]), N0, rfl⟩
            · skip
              refine own_go (S' := s₁.setTop (mkF m 56 #[.val (.int p0)] [(.int (6 : Int32)), (.int p0)])) (fun t k => ?_) ?_
              · show Steps p.tables e below (s₁.setTop (mkF m 46 #[.val (.int p0)] [(.int (5 : Int32)), (.int p0)])) t
                refine XS.icmpYes X0.here hx rfl (pc0 := 46) (pc' := 53) rfl (hb hby d1_46) rfl (feq hc46).2 (by decide) (by decide) ?_
                show Steps p.tables e below (s₁.setTop (mkF m 53 #[.val (.int p0)] [])) t
                refine XS.iloadN X0.here hx rfl (hb hby d1_53) rfl ?_
                show Steps p.tables e below (s₁.setTop (mkF m 54 #[.val (.int p0)] [(.int p0)])) t
                refine XS.bipush X0.here hx rfl (hb hby d1_54) ?_
                exact k
              by_cases hc56 : p0 = (6 : Int32)
              · skip
                refine own_go (S' := s₁.setTop (mkF m 59 #[.val (.int p0)] [])) (fun t k => ?_) ?_
                · show Steps p.tables e below (s₁.setTop (mkF m 56 #[.val (.int p0)] [(.int (6 : Int32)), (.int p0)])) t
                  refine XS.icmpNo X0.here hx rfl (hb hby d1_56) rfl (teq hc56).2 ?_
                  exact k
                obtain ⟨T7, X7, e7, st7⟩ := getS2 X0 hx hZ hown (host := "") (Or.inl (hw _ (List.mem_of_getElem? (i := 89) rfl))) Via.refl e0 S_OUTPUT_LIMIT (g := (mkF m 59 #[.val (.int p0)] [])) rfl (hb hby d1_59)
                refine own_go st7 ?_
                obtain ⟨fs, hr, hrun, hended, hW, hsame⟩ := X7.leave (v := some (.ref w_s_OUTPUT_LIMIT)) (fun h => by rw [Bd.returns] at h; cases h)
                refine own_end (v := some (.ref w_s_OUTPUT_LIMIT)) ?_ hrun hended ?_ hW (hsame.mono (by decide) (by decide))
                · show Steps p.tables e below (T7.setTop (mkF m 62 #[.val (.int p0)] [(.ref w_s_OUTPUT_LIMIT)])) _
                  jvm_step X7.here [X7.here.top, hx, (hb hby d1_62), X7.method', Bd.returns, Value.isRef, FieldType.isReference]
                  first | (intro acts; rw [hr _ acts rfl rfl rfl]) | rw [hr _ _ rfl rfl rfl]
                  exact Steps.refl _
                · show Qpick Z p0 w_s_ACCEPTED w_s_PRESENTATION_ERROR w_s_WRONG_ANSWER w_s_COMPILE_ERROR w_s_RUNTIME_ERROR w_s_TIME_LIMIT w_s_OUTPUT_LIMIT w_s_FILE_LIMIT w_s_MARKED w_s_SCRIPT_ERROR w_s_CAUGHT w_s_MISSED h0 n0 _ T7.heap _
                  rw [e7]
                  exact ⟨(by simp only [pick_r, if_neg hc1, if_neg hc10, if_neg hc19, if_neg hc28, if_neg hc37, if_neg hc46, if_pos hc56]), N0, rfl⟩
              · skip
                refine own_go (S' := s₁.setTop (mkF m 66 #[.val (.int p0)] [(.int (7 : Int32)), (.int p0)])) (fun t k => ?_) ?_
                · show Steps p.tables e below (s₁.setTop (mkF m 56 #[.val (.int p0)] [(.int (6 : Int32)), (.int p0)])) t
                  refine XS.icmpYes X0.here hx rfl (pc0 := 56) (pc' := 63) rfl (hb hby d1_56) rfl (feq hc56).2 (by decide) (by decide) ?_
                  show Steps p.tables e below (s₁.setTop (mkF m 63 #[.val (.int p0)] [])) t
                  refine XS.iloadN X0.here hx rfl (hb hby d1_63) rfl ?_
                  show Steps p.tables e below (s₁.setTop (mkF m 64 #[.val (.int p0)] [(.int p0)])) t
                  refine XS.bipush X0.here hx rfl (hb hby d1_64) ?_
                  exact k
                by_cases hc66 : p0 = (7 : Int32)
                · skip
                  refine own_go (S' := s₁.setTop (mkF m 69 #[.val (.int p0)] [])) (fun t k => ?_) ?_
                  · show Steps p.tables e below (s₁.setTop (mkF m 66 #[.val (.int p0)] [(.int (7 : Int32)), (.int p0)])) t
                    refine XS.icmpNo X0.here hx rfl (hb hby d1_66) rfl (teq hc66).2 ?_
                    exact k
                  obtain ⟨T8, X8, e8, st8⟩ := getS2 X0 hx hZ hown (host := "") (Or.inl (hw _ (List.mem_of_getElem? (i := 70) rfl))) Via.refl e0 S_FILE_LIMIT (g := (mkF m 69 #[.val (.int p0)] [])) rfl (hb hby d1_69)
                  refine own_go st8 ?_
                  obtain ⟨fs, hr, hrun, hended, hW, hsame⟩ := X8.leave (v := some (.ref w_s_FILE_LIMIT)) (fun h => by rw [Bd.returns] at h; cases h)
                  refine own_end (v := some (.ref w_s_FILE_LIMIT)) ?_ hrun hended ?_ hW (hsame.mono (by decide) (by decide))
                  · show Steps p.tables e below (T8.setTop (mkF m 72 #[.val (.int p0)] [(.ref w_s_FILE_LIMIT)])) _
                    jvm_step X8.here [X8.here.top, hx, (hb hby d1_72), X8.method', Bd.returns, Value.isRef, FieldType.isReference]
                    first | (intro acts; rw [hr _ acts rfl rfl rfl]) | rw [hr _ _ rfl rfl rfl]
                    exact Steps.refl _
                  · show Qpick Z p0 w_s_ACCEPTED w_s_PRESENTATION_ERROR w_s_WRONG_ANSWER w_s_COMPILE_ERROR w_s_RUNTIME_ERROR w_s_TIME_LIMIT w_s_OUTPUT_LIMIT w_s_FILE_LIMIT w_s_MARKED w_s_SCRIPT_ERROR w_s_CAUGHT w_s_MISSED h0 n0 _ T8.heap _
                    rw [e8]
                    exact ⟨(by simp only [pick_r, if_neg hc1, if_neg hc10, if_neg hc19, if_neg hc28, if_neg hc37, if_neg hc46, if_neg hc56, if_pos hc66]), N0, rfl⟩
                · skip
                  refine own_go (S' := s₁.setTop (mkF m 76 #[.val (.int p0)] [(.int (8 : Int32)), (.int p0)])) (fun t k => ?_) ?_
                  · show Steps p.tables e below (s₁.setTop (mkF m 66 #[.val (.int p0)] [(.int (7 : Int32)), (.int p0)])) t
                    refine XS.icmpYes X0.here hx rfl (pc0 := 66) (pc' := 73) rfl (hb hby d1_66) rfl (feq hc66).2 (by decide) (by decide) ?_
                    show Steps p.tables e below (s₁.setTop (mkF m 73 #[.val (.int p0)] [])) t
                    refine XS.iloadN X0.here hx rfl (hb hby d1_73) rfl ?_
                    show Steps p.tables e below (s₁.setTop (mkF m 74 #[.val (.int p0)] [(.int p0)])) t
                    refine XS.bipush X0.here hx rfl (hb hby d1_74) ?_
                    exact k
                  by_cases hc76 : p0 = (8 : Int32)
                  · skip
                    refine own_go (S' := s₁.setTop (mkF m 79 #[.val (.int p0)] [])) (fun t k => ?_) ?_
                    · show Steps p.tables e below (s₁.setTop (mkF m 76 #[.val (.int p0)] [(.int (8 : Int32)), (.int p0)])) t
                      refine XS.icmpNo X0.here hx rfl (hb hby d1_76) rfl (teq hc76).2 ?_
                      exact k
                    obtain ⟨T9, X9, e9, st9⟩ := getS2 X0 hx hZ hown (host := "") (Or.inl (hw _ (List.mem_of_getElem? (i := 75) rfl))) Via.refl e0 S_MARKED (g := (mkF m 79 #[.val (.int p0)] [])) rfl (hb hby d1_79)
                    refine own_go st9 ?_
                    obtain ⟨fs, hr, hrun, hended, hW, hsame⟩ := X9.leave (v := some (.ref w_s_MARKED)) (fun h => by rw [Bd.returns] at h; cases h)
                    refine own_end (v := some (.ref w_s_MARKED)) ?_ hrun hended ?_ hW (hsame.mono (by decide) (by decide))
                    · show Steps p.tables e below (T9.setTop (mkF m 82 #[.val (.int p0)] [(.ref w_s_MARKED)])) _
                      jvm_step X9.here [X9.here.top, hx, (hb hby d1_82), X9.method', Bd.returns, Value.isRef, FieldType.isReference]
                      first | (intro acts; rw [hr _ acts rfl rfl rfl]) | rw [hr _ _ rfl rfl rfl]
                      exact Steps.refl _
                    · show Qpick Z p0 w_s_ACCEPTED w_s_PRESENTATION_ERROR w_s_WRONG_ANSWER w_s_COMPILE_ERROR w_s_RUNTIME_ERROR w_s_TIME_LIMIT w_s_OUTPUT_LIMIT w_s_FILE_LIMIT w_s_MARKED w_s_SCRIPT_ERROR w_s_CAUGHT w_s_MISSED h0 n0 _ T9.heap _
                      rw [e9]
                      exact ⟨(by simp only [pick_r, if_neg hc1, if_neg hc10, if_neg hc19, if_neg hc28, if_neg hc37, if_neg hc46, if_neg hc56, if_neg hc66, if_pos hc76]), N0, rfl⟩
                  · skip
                    refine own_go (S' := s₁.setTop (mkF m 86 #[.val (.int p0)] [(.int (9 : Int32)), (.int p0)])) (fun t k => ?_) ?_
                    · show Steps p.tables e below (s₁.setTop (mkF m 76 #[.val (.int p0)] [(.int (8 : Int32)), (.int p0)])) t
                      refine XS.icmpYes X0.here hx rfl (pc0 := 76) (pc' := 83) rfl (hb hby d1_76) rfl (feq hc76).2 (by decide) (by decide) ?_
                      show Steps p.tables e below (s₁.setTop (mkF m 83 #[.val (.int p0)] [])) t
                      refine XS.iloadN X0.here hx rfl (hb hby d1_83) rfl ?_
                      show Steps p.tables e below (s₁.setTop (mkF m 84 #[.val (.int p0)] [(.int p0)])) t
                      refine XS.bipush X0.here hx rfl (hb hby d1_84) ?_
                      exact k
                    by_cases hc86 : p0 = (9 : Int32)
                    · skip
                      refine own_go (S' := s₁.setTop (mkF m 89 #[.val (.int p0)] [])) (fun t k => ?_) ?_
                      · show Steps p.tables e below (s₁.setTop (mkF m 86 #[.val (.int p0)] [(.int (9 : Int32)), (.int p0)])) t
                        refine XS.icmpNo X0.here hx rfl (hb hby d1_86) rfl (teq hc86).2 ?_
                        exact k
                      obtain ⟨T10, X10, e10, st10⟩ := getS2 X0 hx hZ hown (host := "") (Or.inl (hw _ (List.mem_of_getElem? (i := 85) rfl))) Via.refl e0 S_SCRIPT_ERROR (g := (mkF m 89 #[.val (.int p0)] [])) rfl (hb hby d1_89)
                      refine own_go st10 ?_
                      obtain ⟨fs, hr, hrun, hended, hW, hsame⟩ := X10.leave (v := some (.ref w_s_SCRIPT_ERROR)) (fun h => by rw [Bd.returns] at h; cases h)
                      refine own_end (v := some (.ref w_s_SCRIPT_ERROR)) ?_ hrun hended ?_ hW (hsame.mono (by decide) (by decide))
                      · show Steps p.tables e below (T10.setTop (mkF m 92 #[.val (.int p0)] [(.ref w_s_SCRIPT_ERROR)])) _
                        jvm_step X10.here [X10.here.top, hx, (hb hby d1_92), X10.method', Bd.returns, Value.isRef, FieldType.isReference]
                        first | (intro acts; rw [hr _ acts rfl rfl rfl]) | rw [hr _ _ rfl rfl rfl]
                        exact Steps.refl _
                      · show Qpick Z p0 w_s_ACCEPTED w_s_PRESENTATION_ERROR w_s_WRONG_ANSWER w_s_COMPILE_ERROR w_s_RUNTIME_ERROR w_s_TIME_LIMIT w_s_OUTPUT_LIMIT w_s_FILE_LIMIT w_s_MARKED w_s_SCRIPT_ERROR w_s_CAUGHT w_s_MISSED h0 n0 _ T10.heap _
                        rw [e10]
                        exact ⟨(by simp only [pick_r, if_neg hc1, if_neg hc10, if_neg hc19, if_neg hc28, if_neg hc37, if_neg hc46, if_neg hc56, if_neg hc66, if_neg hc76, if_pos hc86]), N0, rfl⟩
                    · skip
                      refine own_go (S' := s₁.setTop (mkF m 96 #[.val (.int p0)] [(.int (10 : Int32)), (.int p0)])) (fun t k => ?_) ?_
                      · show Steps p.tables e below (s₁.setTop (mkF m 86 #[.val (.int p0)] [(.int (9 : Int32)), (.int p0)])) t
                        refine XS.icmpYes X0.here hx rfl (pc0 := 86) (pc' := 93) rfl (hb hby d1_86) rfl (feq hc86).2 (by decide) (by decide) ?_
                        show Steps p.tables e below (s₁.setTop (mkF m 93 #[.val (.int p0)] [])) t
                        refine XS.iloadN X0.here hx rfl (hb hby d1_93) rfl ?_
                        show Steps p.tables e below (s₁.setTop (mkF m 94 #[.val (.int p0)] [(.int p0)])) t
                        refine XS.bipush X0.here hx rfl (hb hby d1_94) ?_
                        exact k
                      by_cases hc96 : p0 = (10 : Int32)
                      · skip
                        refine own_go (S' := s₁.setTop (mkF m 99 #[.val (.int p0)] [])) (fun t k => ?_) ?_
                        · show Steps p.tables e below (s₁.setTop (mkF m 96 #[.val (.int p0)] [(.int (10 : Int32)), (.int p0)])) t
                          refine XS.icmpNo X0.here hx rfl (hb hby d1_96) rfl (teq hc96).2 ?_
                          exact k
                        obtain ⟨T11, X11, e11, st11⟩ := getS2 X0 hx hZ hown (host := "") (Or.inl (hw _ (List.mem_of_getElem? (i := 72) rfl))) Via.refl e0 S_CAUGHT (g := (mkF m 99 #[.val (.int p0)] [])) rfl (hb hby d1_99)
                        refine own_go st11 ?_
                        obtain ⟨fs, hr, hrun, hended, hW, hsame⟩ := X11.leave (v := some (.ref w_s_CAUGHT)) (fun h => by rw [Bd.returns] at h; cases h)
                        refine own_end (v := some (.ref w_s_CAUGHT)) ?_ hrun hended ?_ hW (hsame.mono (by decide) (by decide))
                        · show Steps p.tables e below (T11.setTop (mkF m 102 #[.val (.int p0)] [(.ref w_s_CAUGHT)])) _
                          jvm_step X11.here [X11.here.top, hx, (hb hby d1_102), X11.method', Bd.returns, Value.isRef, FieldType.isReference]
                          first | (intro acts; rw [hr _ acts rfl rfl rfl]) | rw [hr _ _ rfl rfl rfl]
                          exact Steps.refl _
                        · show Qpick Z p0 w_s_ACCEPTED w_s_PRESENTATION_ERROR w_s_WRONG_ANSWER w_s_COMPILE_ERROR w_s_RUNTIME_ERROR w_s_TIME_LIMIT w_s_OUTPUT_LIMIT w_s_FILE_LIMIT w_s_MARKED w_s_SCRIPT_ERROR w_s_CAUGHT w_s_MISSED h0 n0 _ T11.heap _
                          rw [e11]
                          exact ⟨(by simp only [pick_r, if_neg hc1, if_neg hc10, if_neg hc19, if_neg hc28, if_neg hc37, if_neg hc46, if_neg hc56, if_neg hc66, if_neg hc76, if_neg hc86, if_pos hc96]), N0, rfl⟩
                      · skip
                        refine own_go (S' := s₁.setTop (mkF m 103 #[.val (.int p0)] [])) (fun t k => ?_) ?_
                        · show Steps p.tables e below (s₁.setTop (mkF m 96 #[.val (.int p0)] [(.int (10 : Int32)), (.int p0)])) t
                          refine XS.icmpYes X0.here hx rfl (pc0 := 96) (pc' := 103) rfl (hb hby d1_96) rfl (feq hc96).2 (by decide) (by decide) ?_
                          exact k
                        obtain ⟨T12, X12, e12, st12⟩ := getS2 X0 hx hZ hown (host := "") (Or.inl (hw _ (List.mem_of_getElem? (i := 73) rfl))) Via.refl e0 S_MISSED (g := (mkF m 103 #[.val (.int p0)] [])) rfl (hb hby d1_103)
                        refine own_go st12 ?_
                        obtain ⟨fs, hr, hrun, hended, hW, hsame⟩ := X12.leave (v := some (.ref w_s_MISSED)) (fun h => by rw [Bd.returns] at h; cases h)
                        refine own_end (v := some (.ref w_s_MISSED)) ?_ hrun hended ?_ hW (hsame.mono (by decide) (by decide))
                        · show Steps p.tables e below (T12.setTop (mkF m 106 #[.val (.int p0)] [(.ref w_s_MISSED)])) _
                          jvm_step X12.here [X12.here.top, hx, (hb hby d1_106), X12.method', Bd.returns, Value.isRef, FieldType.isReference]
                          first | (intro acts; rw [hr _ acts rfl rfl rfl]) | rw [hr _ _ rfl rfl rfl]
                          exact Steps.refl _
                        · show Qpick Z p0 w_s_ACCEPTED w_s_PRESENTATION_ERROR w_s_WRONG_ANSWER w_s_COMPILE_ERROR w_s_RUNTIME_ERROR w_s_TIME_LIMIT w_s_OUTPUT_LIMIT w_s_FILE_LIMIT w_s_MARKED w_s_SCRIPT_ERROR w_s_CAUGHT w_s_MISSED h0 n0 _ T12.heap _
                          rw [e12]
                          exact ⟨(by simp only [pick_r, if_neg hc1, if_neg hc10, if_neg hc19, if_neg hc28, if_neg hc37, if_neg hc46, if_neg hc56, if_neg hc66, if_neg hc76, if_neg hc86, if_neg hc96]), N0, rfl⟩
theorem d3_0 : decode jdk_43_method_3_code 0 = .ok (.iload_n 0, 1) := by decide +kernel
theorem d3_1 : decode jdk_43_method_3_code 1 = .ok (.sipush 255, 3) := by decide +kernel
theorem d3_4 : decode jdk_43_method_3_code 4 = .ok (.if_icmp .gt 7, 3) := by decide +kernel
theorem d3_11 : decode jdk_43_method_3_code 11 = .ok (.iconst 0, 1) := by decide +kernel
theorem d3_12 : decode jdk_43_method_3_code 12 = .ok (.ireturn, 1) := by decide +kernel
theorem d3_7 : decode jdk_43_method_3_code 7 = .ok (.iconst 1, 1) := by decide +kernel
theorem d3_8 : decode jdk_43_method_3_code 8 = .ok (.goto 4, 3) := by decide +kernel
theorem pn_64 : plainName "java/lang/StringLatin1" = true := by first | (simp [plainName, overriddenIn]; done) | decide +kernel
theorem ef_canEnc (m : MethodId) (x0 : Int32) : entryFrame m #[(.int x0)] 1 = mkF m 0 #[.val (.int x0)] [] := by first | (simp [entryFrame, mkF, argsToLocals, Value.category]; done) | rfl
def canEnc_r (p0 : Int32) : Int32 := (if (255 : Int32) < p0 then (0 : Int32) else (1 : Int32))
def QcanEnc (Z : State) (p0 : Int32) (h0 : Heap) (n0 : Nat) (v : Option Value) (h : Heap) (L : List Loc) : Prop := v = some (.int (canEnc_r p0)) ∧ Fr n0 L ∧ h = h0
set_option maxRecDepth 65536 in
set_option maxHeartbeats 40000000 in
theorem canEnc (l : Launch) (Z : State) (a0 : Array Value) (hw : ∀ d ∈ tables_1, d.before a0 Z = true) (ws : List Jvm.Cond) (p0 : Int32) (h0 : Heap) (n0 : Nat) (Z0 : n0 ≤ h0.size) :
    MetFree l (⟨"java/lang/StringLatin1", "canEncode", "(C)Z"⟩ : MethodName) (head1 (Jvm.Cond.code (⟨"java/lang/StringLatin1", "canEncode", "(C)Z"⟩ : MethodName) jdk_43_method_3_code 1 (some .boolean) :: ws) ({ frames := 0, cells := 0, slots := 0, locals := 0 } : Room)) (fun a U => a = #[(.int p0)] ∧ Z.Warmed39 U.vm ∧ U.heap = h0) (fun _ _ _ _ _ => True) (fun _ U o U' => ∃ v L, o = .returned v ∧ QcanEnc Z p0 h0 n0 v U'.heap L ∧ FrameEnd U o U' L ({ frames := 0, cells := 0, slots := 0, locals := 0 } : Room).cells ({ frames := 0, cells := 0, slots := 0, locals := 0 } : Room).slots) := by
  refine MetFree.of_bodySF (plainFor_of_name pn_64) hisR ?_
  intro p e s m args below meth c s₁ Bd hml0 hP hK
  obtain ⟨rfl, hZ, hh⟩ := hP
  have hx := Bd.exec
  have hby := Bd.bytes
  have hml : c.maxLocals = 1 := hml0
  have hown : s.vm.findClass "java/lang/StringLatin1" = some m.cls := findClass_of_methodNamed Bd.named
  have hnm := (name_of_methodNamed Bd.named Bd.method).1
  have X0 : Stand p l e ({ frames := 0, cells := 0, slots := 0, locals := 0 } : Room) s m #[(.int p0)] below meth c s₁ [] 0 0 := Stand.of_body Bd
  have e0 : s₁.heap = h0 := by rw [← hh, Bd.state]; rfl
  have N0 := Fr.nil n0
  show own_Go p e below s (QcanEnc Z p0 h0 n0) ({ frames := 0, cells := 0, slots := 0, locals := 0 } : Room).cells ({ frames := 0, cells := 0, slots := 0, locals := 0 } : Room).slots (s₁.setTop (entryFrame m #[(.int p0)] 1))
  rw [ef_canEnc m p0]
  have K0 : Keep h0 h0 [] := Keep.refl h0 []
  refine own_go (S' := s₁.setTop (mkF m 4 #[.val (.int p0)] [(.int (255 : Int32)), (.int p0)])) (fun t k => ?_) ?_
  · show Steps p.tables e below (s₁.setTop (mkF m 0 #[.val (.int p0)] [])) t
    refine XS.iloadN X0.here hx rfl (hb hby d3_0) rfl ?_
    show Steps p.tables e below (s₁.setTop (mkF m 1 #[.val (.int p0)] [(.int p0)])) t
    refine XS.sipush X0.here hx rfl (hb hby d3_1) ?_
    exact k
  by_cases hc4 : (255 : Int32) < p0
  · skip
    refine own_go (S' := s₁.setTop (mkF m 12 #[.val (.int p0)] [(.int (0 : Int32))])) (fun t k => ?_) ?_
    · show Steps p.tables e below (s₁.setTop (mkF m 4 #[.val (.int p0)] [(.int (255 : Int32)), (.int p0)])) t
      refine XS.icmpYes X0.here hx rfl (pc0 := 4) (pc' := 11) rfl (hb hby d3_4) rfl (tlt hc4).2.2.1 (by decide) (by decide) ?_
      show Steps p.tables e below (s₁.setTop (mkF m 11 #[.val (.int p0)] [])) t
      refine XS.iconst X0.here hx rfl (hb hby d3_11) ?_
      exact k
    obtain ⟨fs, hr, hrun, hended, hW, hsame⟩ := X0.leave (v := some (.int (0 : Int32))) (fun h => by rw [Bd.returns] at h; cases h)
    refine own_end (v := some (.int (0 : Int32))) ?_ hrun hended ?_ hW (hsame.mono (by decide) (by decide))
    · show Steps p.tables e below (s₁.setTop (mkF m 12 #[.val (.int p0)] [(.int (0 : Int32))])) _
      exact retN X0 hx (t := .boolean) Bd.returns (by simp) (hb hby d3_12) hr
    · show QcanEnc Z p0 h0 n0 _ s₁.heap _
      rw [e0]
      exact ⟨(by simp only [canEnc_r, if_pos hc4]), N0, rfl⟩
  · skip
    refine own_go (S' := s₁.setTop (mkF m 12 #[.val (.int p0)] [(.int (1 : Int32))])) (fun t k => ?_) ?_
    · show Steps p.tables e below (s₁.setTop (mkF m 4 #[.val (.int p0)] [(.int (255 : Int32)), (.int p0)])) t
      refine XS.icmpNo X0.here hx rfl (hb hby d3_4) rfl (flt hc4).2.2.1 ?_
      show Steps p.tables e below (s₁.setTop (mkF m 7 #[.val (.int p0)] [])) t
      refine XS.iconst X0.here hx rfl (hb hby d3_7) ?_
      show Steps p.tables e below (s₁.setTop (mkF m 8 #[.val (.int p0)] [(.int (1 : Int32))])) t
      refine XS.goto X0.here hx rfl (pc0 := 8) (pc' := 12) rfl (hb hby d3_8) (by decide) (by decide) ?_
      exact k
    obtain ⟨fs, hr, hrun, hended, hW, hsame⟩ := X0.leave (v := some (.int (1 : Int32))) (fun h => by rw [Bd.returns] at h; cases h)
    refine own_end (v := some (.int (1 : Int32))) ?_ hrun hended ?_ hW (hsame.mono (by decide) (by decide))
    · show Steps p.tables e below (s₁.setTop (mkF m 12 #[.val (.int p0)] [(.int (1 : Int32))])) _
      exact retN X0 hx (t := .boolean) Bd.returns (by simp) (hb hby d3_12) hr
    · show QcanEnc Z p0 h0 n0 _ s₁.heap _
      rw [e0]
      exact ⟨(by simp only [canEnc_r, if_neg hc4]), N0, rfl⟩
theorem own_enc (x : Int32) : ¬ (canEnc_r ((x &&& (255 : Int32)).toUInt32.toUInt16.toUInt32.toInt32) = (0 : Int32)) := by
  have t : ∀ k : Fin 256, ¬ (canEnc_r ((Int32.ofNat k.val).toUInt32.toUInt16.toUInt32.toInt32) = (0 : Int32)) := by decide +kernel
  have h : (x &&& 255).toBitVec.toNat < 256 := by
    simp only [Int32.toBitVec_and, BitVec.toNat_and]
    exact Nat.lt_succ_of_le Nat.and_le_right
  have e : (x &&& 255) = Int32.ofNat (x &&& 255).toBitVec.toNat := by
    apply Int32.toBitVec_inj.mp
    show _ = BitVec.ofNat 32 _
    rw [BitVec.ofNat_toNat]; simp
  rw [e]
  exact t ⟨_, h⟩
theorem d4_0 : decode jdk_43_method_46_code 0 = .ok (.iconst 1, 1) := by decide +kernel
theorem d4_1 : decode jdk_43_method_46_code 1 = .ok (.newarray .byte, 2) := by decide +kernel
theorem d4_3 : decode jdk_43_method_46_code 3 = .ok (.dup, 1) := by decide +kernel
theorem d4_4 : decode jdk_43_method_46_code 4 = .ok (.iconst 0, 1) := by decide +kernel
theorem d4_5 : decode jdk_43_method_46_code 5 = .ok (.iload_n 0, 1) := by decide +kernel
theorem d4_6 : decode jdk_43_method_46_code 6 = .ok (.i2b, 1) := by decide +kernel
theorem d4_7 : decode jdk_43_method_46_code 7 = .ok (.bastore, 1) := by decide +kernel
theorem d4_8 : decode jdk_43_method_46_code 8 = .ok (.areturn, 1) := by decide +kernel
theorem ef_toBytes (m : MethodId) (x0 : Int32) : entryFrame m #[(.int x0)] 1 = mkF m 0 #[.val (.int x0)] [] := by first | (simp [entryFrame, mkF, argsToLocals, Value.category]; done) | rfl
def QtoBytes (Z : State) (p0 : Int32) (h0 : Heap) (n0 : Nat) (v : Option Value) (h : Heap) (L : List Loc) : Prop := ∃ x0_ : Addr, v = some (.ref x0_) ∧ Fr n0 L ∧ Keep h0 h [] ∧ h0.size ≤ x0_ ∧ own_Arv Z h x0_ .byte (1 : Int32) [(.int (nar .byte (p0.toInt8.toInt32)))] (.int (0 : Int32))
set_option maxRecDepth 65536 in
set_option maxHeartbeats 40000000 in
theorem toBytes (l : Launch) (Z : State) (a0 : Array Value) (hw : ∀ d ∈ tables_1, d.before a0 Z = true) (ws : List Jvm.Cond) (p0 : Int32) (h0 : Heap) (n0 : Nat) (Z0 : n0 ≤ h0.size) :
    MetFree l (⟨"java/lang/StringLatin1", "toBytes", "(C)[B"⟩ : MethodName) (head1 (Jvm.Cond.code (⟨"java/lang/StringLatin1", "toBytes", "(C)[B"⟩ : MethodName) jdk_43_method_46_code 1 (some (.array .byte)) :: ws) ({ frames := 0, cells := 1, slots := 1, locals := 0 } : Room)) (fun a U => a = #[(.int p0)] ∧ Z.Warmed39 U.vm ∧ U.heap = h0) (fun _ _ _ _ _ => True) (fun _ U o U' => ∃ v L, o = .returned v ∧ QtoBytes Z p0 h0 n0 v U'.heap L ∧ FrameEnd U o U' L ({ frames := 0, cells := 1, slots := 1, locals := 0 } : Room).cells ({ frames := 0, cells := 1, slots := 1, locals := 0 } : Room).slots) := by
  refine MetFree.of_bodySF (plainFor_of_name pn_64) hisR ?_
  intro p e s m args below meth c s₁ Bd hml0 hP hK
  obtain ⟨rfl, hZ, hh⟩ := hP
  have hx := Bd.exec
  have hby := Bd.bytes
  have hml : c.maxLocals = 1 := hml0
  have hown : s.vm.findClass "java/lang/StringLatin1" = some m.cls := findClass_of_methodNamed Bd.named
  have hnm := (name_of_methodNamed Bd.named Bd.method).1
  have X0 : Stand p l e ({ frames := 0, cells := 1, slots := 1, locals := 0 } : Room) s m #[(.int p0)] below meth c s₁ [] 0 0 := Stand.of_body Bd
  have e0 : s₁.heap = h0 := by rw [← hh, Bd.state]; rfl
  have N0 := Fr.nil n0
  show own_Go p e below s (QtoBytes Z p0 h0 n0) ({ frames := 0, cells := 1, slots := 1, locals := 0 } : Room).cells ({ frames := 0, cells := 1, slots := 1, locals := 0 } : Room).slots (s₁.setTop (entryFrame m #[(.int p0)] 1))
  rw [ef_toBytes m p0]
  have K0 : Keep h0 h0 [] := Keep.refl h0 []
  refine own_go (S' := s₁.setTop (mkF m 1 #[.val (.int p0)] [(.int (1 : Int32))])) (fun t k => ?_) ?_
  · show Steps p.tables e below (s₁.setTop (mkF m 0 #[.val (.int p0)] [])) t
    refine XS.iconst X0.here hx rfl (hb hby d4_0) ?_
    exact k
  obtain ⟨T13, h13, k13, X13, e13, E13, A13, st13⟩ := newP X0 hx hZ (hw _ (List.mem_of_getElem? (i := 22) rfl)) e0 (g := (mkF m 1 #[.val (.int p0)] [(.int (1 : Int32))])) rfl (hb hby d4_1) rfl (by decide) (cap := 1) (by decide) (by decide) (by decide) (by decide)
  obtain ⟨b13, g13⟩ : ∃ z, z = h0.size := ⟨_, rfl⟩
  rw [← g13] at A13 st13
  have g_b13 : n0 ≤ b13 := Nat.le_trans Z0 (Nat.le_of_eq g13.symm)
  have sz_b13 : h0.size ≤ b13 := Nat.le_trans K0.1 (Nat.le_of_eq g13.symm)
  have K14 : Keep h0 h13 [] := K0.ext E13
  have Z15 : n0 ≤ h13.size := Nat.le_trans Z0 E13.1
  have v16 : own_Arv Z h13 b13 .byte (1 : Int32) [(.int (0 : Int32))] (.int (0 : Int32)) := ⟨_, (Arv.new A13 (by decide)).pad (pad_rep [] (.int (0 : Int32)) 1)⟩
  refine own_go st13 ?_
  refine own_go (S' := T13.setTop (mkF m 7 #[.val (.int p0)] [(.int (p0.toInt8.toInt32)), (.int (0 : Int32)), (.ref b13), (.ref b13)])) (fun t k => ?_) ?_
  · show Steps p.tables e below (T13.setTop (mkF m 3 #[.val (.int p0)] [(.ref b13)])) t
    refine XS.dup X13.here hx rfl (hb hby d4_3) rfl rfl ?_
    show Steps p.tables e below (T13.setTop (mkF m 4 #[.val (.int p0)] [(.ref b13), (.ref b13)])) t
    refine XS.iconst X13.here hx rfl (hb hby d4_4) ?_
    show Steps p.tables e below (T13.setTop (mkF m 5 #[.val (.int p0)] [(.int (0 : Int32)), (.ref b13), (.ref b13)])) t
    refine XS.iloadN X13.here hx rfl (hb hby d4_5) rfl ?_
    show Steps p.tables e below (T13.setTop (mkF m 6 #[.val (.int p0)] [(.int p0), (.int (0 : Int32)), (.ref b13), (.ref b13)])) t
    refine XS.i2b X13.here hx rfl (hb hby d4_6) rfl ?_
    exact k
  obtain ⟨kq17, cl17, Ar17, q17, S17, Nn17, Hh17, G17⟩ := v16
  have hin17 : ¬ ((0 : Int32) < 0 ∨ cl17.slots.size ≤ ((0 : Int32)).toNatClampNeg) := inb_of S17 ⟨by decide, by decide⟩
  obtain ⟨T17, h17, X17, e17, W17, st17⟩ := stB X13 hx hZ e13 Ar17 (j := (0 : Int32)) hin17 (g := (mkF m 7 #[.val (.int p0)] [(.int (p0.toInt8.toInt32)), (.int (0 : Int32)), (.ref b13), (.ref b13)])) rfl rfl (hb hby d4_7)
  have v18 : own_Arv Z h17 b13 .byte (1 : Int32) [(.int (nar .byte (p0.toInt8.toInt32)))] (.int (0 : Int32)) := ⟨_, Arv.set Ar17 q17 S17 Nn17 Hh17 G17 (fits_nar_byte _) W17 0 rfl (Nat.le_of_ble_eq_true rfl)⟩
  have N19 := Fr.snoc X17 N0 g_b13
  have Z20 : n0 ≤ h17.size := Nat.le_trans Z15 (Keep.of_wr W17).1
  have K21 : Keep h0 h17 [] := K14.wr W17 (Or.inr sz_b13)
  refine own_go st17 ?_
  obtain ⟨fs, hr, hrun, hended, hW, hsame⟩ := X17.leave (v := some (.ref b13)) (fun h => by rw [Bd.returns] at h; cases h)
  refine own_end (v := some (.ref b13)) ?_ hrun hended ?_ hW (hsame.mono (by decide) (by decide))
  · show Steps p.tables e below (T17.setTop (mkF m 8 #[.val (.int p0)] [(.ref b13)])) _
    jvm_step X17.here [X17.here.top, hx, (hb hby d4_8), X17.method', Bd.returns, Value.isRef, FieldType.isReference]
    first | (intro acts; rw [hr _ acts rfl rfl rfl]) | rw [hr _ _ rfl rfl rfl]
    exact Steps.refl _
  · show QtoBytes Z p0 h0 n0 _ T17.heap _
    rw [e17]
    exact ⟨b13, rfl, N19, K21, sz_b13, v18⟩
theorem d5_0 : decode jdk_42_method_151_code 0 = .ok (.aload_n 0, 1) := by decide +kernel
theorem d5_1 : decode jdk_42_method_151_code 1 = .ok (.invokespecial 1, 3) := by decide +kernel
theorem d5_4 : decode jdk_42_method_151_code 4 = .ok (.aload_n 0, 1) := by decide +kernel
theorem d5_5 : decode jdk_42_method_151_code 5 = .ok (.aload_n 1, 1) := by decide +kernel
theorem d5_6 : decode jdk_42_method_151_code 6 = .ok (.putfield 9, 3) := by decide +kernel
theorem d5_9 : decode jdk_42_method_151_code 9 = .ok (.aload_n 0, 1) := by decide +kernel
theorem d5_10 : decode jdk_42_method_151_code 10 = .ok (.iload_n 2, 1) := by decide +kernel
theorem d5_11 : decode jdk_42_method_151_code 11 = .ok (.putfield 15, 3) := by decide +kernel
theorem d5_14 : decode jdk_42_method_151_code 14 = .ok (.return_, 1) := by decide +kernel
theorem pn_82 : plainName "java/lang/String" = true := by first | (simp [plainName, overriddenIn]; done) | decide +kernel
theorem ef_strInit (m : MethodId) (x0 : Addr) (x1 : Addr) (x2 : Int32) : entryFrame m #[(.ref x0), (.ref x1), (.int x2)] 3 = mkF m 0 #[.val (.ref x0), .val (.ref x1), .val (.int x2)] [] := by first | (simp [entryFrame, mkF, argsToLocals, Value.category]; done) | rfl
def QstrInit (Z : State) (o0 : Addr) (o1 : Addr) (p2 : Int32) (w_o0_value : Value) (w_o0_coder : Int32) (h0 : Heap) (n0 : Nat) (v : Option Value) (h : Heap) (L : List Loc) : Prop := v = none ∧ Fr n0 L ∧ Keep h0 h [o0] ∧ Exa Z h o0 "java/lang/String" ∧ Fld Z h o0 "java/lang/String" "value" "[B" (.ref o1) ∧ Fld Z h o0 "java/lang/String" "coder" "B" (.int (nar .byte p2))
set_option maxRecDepth 65536 in
set_option maxHeartbeats 40000000 in
theorem strInit (l : Launch) (Z : State) (a0 : Array Value) (hw : ∀ d ∈ tables_1, d.before a0 Z = true) (ws : List Jvm.Cond) (o0 : Addr) (o1 : Addr) (p2 : Int32) (w_o0_value : Value) (w_o0_coder : Int32) (h0 : Heap) (n0 : Nat) (Z0 : n0 ≤ h0.size) (E_o0 : Exa Z h0 o0 "java/lang/String") (F_o0_value : Fld Z h0 o0 "java/lang/String" "value" "[B" w_o0_value) (F_o0_coder : Fld Z h0 o0 "java/lang/String" "coder" "B" (.int w_o0_coder)) (g_o0 : n0 ≤ o0) :
    MetFree l (⟨"java/lang/String", "<init>", "([BB)V"⟩ : MethodName) (head1 (Jvm.Cond.code (⟨"java/lang/String", "<init>", "([BB)V"⟩ : MethodName) jdk_42_method_151_code 3 none :: ws) ({ frames := 1, cells := 0, slots := 0, locals := 12 } : Room)) (fun a U => a = #[(.ref o0), (.ref o1), (.int p2)] ∧ Z.Warmed39 U.vm ∧ U.heap = h0) (fun _ _ _ _ _ => True) (fun _ U o U' => ∃ v L, o = .returned v ∧ QstrInit Z o0 o1 p2 w_o0_value w_o0_coder h0 n0 v U'.heap L ∧ FrameEnd U o U' L ({ frames := 1, cells := 0, slots := 0, locals := 12 } : Room).cells ({ frames := 1, cells := 0, slots := 0, locals := 12 } : Room).slots) := by
  refine MetFree.of_bodySF (plainFor_of_name pn_82) hisR ?_
  intro p e s m args below meth c s₁ Bd hml0 hP hK
  obtain ⟨rfl, hZ, hh⟩ := hP
  have hx := Bd.exec
  have hby := Bd.bytes
  have hml : c.maxLocals = 3 := hml0
  have hown : s.vm.findClass "java/lang/String" = some m.cls := findClass_of_methodNamed Bd.named
  have hnm := (name_of_methodNamed Bd.named Bd.method).1
  have X0 : Stand p l e ({ frames := 1, cells := 0, slots := 0, locals := 12 } : Room) s m #[(.ref o0), (.ref o1), (.int p2)] below meth c s₁ [] 0 0 := Stand.of_body Bd
  have e0 : s₁.heap = h0 := by rw [← hh, Bd.state]; rfl
  have N0 := Fr.nil n0
  show own_Go p e below s (QstrInit Z o0 o1 p2 w_o0_value w_o0_coder h0 n0) ({ frames := 1, cells := 0, slots := 0, locals := 12 } : Room).cells ({ frames := 1, cells := 0, slots := 0, locals := 12 } : Room).slots (s₁.setTop (entryFrame m #[(.ref o0), (.ref o1), (.int p2)] 3))
  rw [ef_strInit m o0 o1 p2]
  have K0 : Keep h0 h0 [o0] := Keep.refl h0 [o0]
  refine own_go (S' := s₁.setTop (mkF m 1 #[.val (.ref o0), .val (.ref o1), .val (.int p2)] [(.ref o0)])) (fun t k => ?_) ?_
  · show Steps p.tables e below (s₁.setTop (mkF m 0 #[.val (.ref o0), .val (.ref o1), .val (.int p2)] [])) t
    refine XS.aloadN X0.here hx rfl (hb hby d5_0) rfl rfl ?_
    exact k
  obtain ⟨T22, X22, e22, st22⟩ := initO X0 hx hZ hown (hw _ (List.mem_of_getElem? (i := 27) rfl)) (hw _ (List.mem_of_getElem? (i := 28) rfl)) (hw _ (List.mem_of_getElem? (i := 29) rfl)) e0 (g := (mkF m 1 #[.val (.ref o0), .val (.ref o1), .val (.int p2)] [(.ref o0)])) rfl (by rw [hml]; rfl) rfl (hb hby d5_1) (by decide) (W := 0) (by show 2 * 0 + _ ≤ _; exact Nat.le_of_eq rfl) (by decide)
  refine own_go st22 ?_
  refine own_go (S' := T22.setTop (mkF m 6 #[.val (.ref o0), .val (.ref o1), .val (.int p2)] [(.ref o1), (.ref o0)])) (fun t k => ?_) ?_
  · show Steps p.tables e below (T22.setTop (mkF m 4 #[.val (.ref o0), .val (.ref o1), .val (.int p2)] [])) t
    refine XS.aloadN X22.here hx rfl (hb hby d5_4) rfl rfl ?_
    show Steps p.tables e below (T22.setTop (mkF m 5 #[.val (.ref o0), .val (.ref o1), .val (.int p2)] [(.ref o0)])) t
    refine XS.aloadN X22.here hx rfl (hb hby d5_5) rfl rfl ?_
    exact k
  obtain ⟨T23, h23, X23, e23, W23, st23⟩ := putF X22 hx hZ hown (host := "") (Or.inl (hw _ (List.mem_of_getElem? (i := 30) rfl))) Via.refl e22 F_o0_value E_o0 (Or.inr ⟨(hw _ (List.mem_of_getElem? (i := 31) rfl)), rfl, hnm⟩) (hw _ (List.mem_of_getElem? (i := 18) rfl)) (ty := (.array .byte)) (by decide) rfl rfl (g := (mkF m 6 #[.val (.ref o0), .val (.ref o1), .val (.int p2)] [(.ref o1), (.ref o0)])) rfl rfl (hb hby d5_6)
  have f24 : Exa Z h23 o0 "java/lang/String" := E_o0.wr W23
  have f25 : Fld Z h23 o0 "java/lang/String" "coder" "B" (.int w_o0_coder) := F_o0_coder.other W23 (Or.inr (slot_ne (Or.inr (hw _ (List.mem_of_getElem? (i := 33) rfl))) (Or.inr (hw _ (List.mem_of_getElem? (i := 31) rfl))) (by decide) (t := .byte) (t' := (.array .byte)) (by decide) (by decide)))
  have f26 : Fld Z h23 o0 "java/lang/String" "value" "[B" (.ref o1) := F_o0_value.same W23
  have N27 := Fr.snoc X23 N0 g_o0
  have Z28 : n0 ≤ h23.size := Nat.le_trans Z0 (Keep.of_wr W23).1
  have K29 : Keep h0 h23 [o0] := K0.wr W23 (Or.inl (List.mem_of_getElem? (i := 0) rfl))
  refine own_go st23 ?_
  refine own_go (S' := T23.setTop (mkF m 11 #[.val (.ref o0), .val (.ref o1), .val (.int p2)] [(.int p2), (.ref o0)])) (fun t k => ?_) ?_
  · show Steps p.tables e below (T23.setTop (mkF m 9 #[.val (.ref o0), .val (.ref o1), .val (.int p2)] [])) t
    refine XS.aloadN X23.here hx rfl (hb hby d5_9) rfl rfl ?_
    show Steps p.tables e below (T23.setTop (mkF m 10 #[.val (.ref o0), .val (.ref o1), .val (.int p2)] [(.ref o0)])) t
    refine XS.iloadN X23.here hx rfl (hb hby d5_10) rfl ?_
    exact k
  obtain ⟨T30, h30, X30, e30, W30, st30⟩ := putFN X23 hx hZ hown (hw _ (List.mem_of_getElem? (i := 32) rfl)) Via.refl e23 f25 f24 (Or.inr ⟨(hw _ (List.mem_of_getElem? (i := 33) rfl)), rfl, hnm⟩) (hw _ (List.mem_of_getElem? (i := 18) rfl)) (ty := .byte) (v' := (.int (nar .byte p2))) (by decide) rfl (fits_nar_byte _) (g := (mkF m 11 #[.val (.ref o0), .val (.ref o1), .val (.int p2)] [(.int p2), (.ref o0)])) rfl rfl (hb hby d5_11)
  have f31 : Exa Z h30 o0 "java/lang/String" := f24.wr W30
  have f32 : Fld Z h30 o0 "java/lang/String" "value" "[B" (.ref o1) := f26.other W30 (Or.inr (slot_ne (Or.inr (hw _ (List.mem_of_getElem? (i := 31) rfl))) (Or.inr (hw _ (List.mem_of_getElem? (i := 33) rfl))) (by decide) (t := (.array .byte)) (t' := .byte) (by decide) (by decide)))
  have f33 : Fld Z h30 o0 "java/lang/String" "coder" "B" (.int (nar .byte p2)) := f25.same W30
  have N34 := Fr.snoc X30 N27 g_o0
  have Z35 : n0 ≤ h30.size := Nat.le_trans Z28 (Keep.of_wr W30).1
  have K36 : Keep h0 h30 [o0] := K29.wr W30 (Or.inl (List.mem_of_getElem? (i := 0) rfl))
  refine own_go st30 ?_
  obtain ⟨fs, hr, hrun, hended, hW, hsame⟩ := X30.leave (v := none) (fun _ => rfl)
  refine own_end (v := none) ?_ hrun hended ?_ hW (hsame.mono (by decide) (by decide))
  · show Steps p.tables e below (T30.setTop (mkF m 14 #[.val (.ref o0), .val (.ref o1), .val (.int p2)] [])) _
    exact X30.returnOut hx Bd.returns (hb hby d5_14) hr
  · show QstrInit Z o0 o1 p2 w_o0_value w_o0_coder h0 n0 _ T30.heap _
    rw [e30]
    exact ⟨rfl, N34, K36, f31, f32, f33⟩
theorem d2_0 : decode jdk_42_method_139_code 0 = .ok (.getstatic 38, 3) := by decide +kernel
theorem d2_3 : decode jdk_42_method_139_code 3 = .ok (.ifCond .eq 23, 3) := by decide +kernel
theorem d2_6 : decode jdk_42_method_139_code 6 = .ok (.iload_n 0, 1) := by decide +kernel
theorem d2_7 : decode jdk_42_method_139_code 7 = .ok (.invokestatic 1015, 3) := by decide +kernel
theorem pd_87 : parseMethodDescriptor "(C)Z" = some ⟨[.char], some .boolean⟩ := by decide +kernel
theorem d2_10 : decode jdk_42_method_139_code 10 = .ok (.ifCond .eq 16, 3) := by decide +kernel
theorem d2_13 : decode jdk_42_method_139_code 13 = .ok (.new 10, 3) := by decide +kernel
theorem d2_16 : decode jdk_42_method_139_code 16 = .ok (.dup, 1) := by decide +kernel
theorem d2_17 : decode jdk_42_method_139_code 17 = .ok (.iload_n 0, 1) := by decide +kernel
theorem d2_18 : decode jdk_42_method_139_code 18 = .ok (.invokestatic 1018, 3) := by decide +kernel
theorem pd_93 : parseMethodDescriptor "(C)[B" = some ⟨[.char], some (.array .byte)⟩ := by decide +kernel
theorem d2_21 : decode jdk_42_method_139_code 21 = .ok (.iconst 0, 1) := by decide +kernel
theorem d2_22 : decode jdk_42_method_139_code 22 = .ok (.invokespecial 209, 3) := by decide +kernel
theorem pd_96 : parseMethodDescriptor "([BB)V" = some ⟨[(.array .byte), .byte], none⟩ := by decide +kernel
theorem d2_25 : decode jdk_42_method_139_code 25 = .ok (.areturn, 1) := by decide +kernel
theorem ef_valueOf (m : MethodId) (x0 : Int32) : entryFrame m #[(.int x0)] 1 = mkF m 0 #[.val (.int x0)] [] := by first | (simp [entryFrame, mkF, argsToLocals, Value.category]; done) | rfl
def QvalueOf (Z : State) (p0 : Int32) (w_s_COMPACT_STRINGS : Int32) (h0 : Heap) (n0 : Nat) (v : Option Value) (h : Heap) (L : List Loc) : Prop := ∃ x0_ : Addr, v = some (.ref x0_) ∧ Fr n0 L ∧ Keep h0 h [] ∧ h0.size ≤ x0_ ∧ Exa Z h x0_ "java/lang/String"
set_option maxRecDepth 65536 in
set_option maxHeartbeats 40000000 in
theorem valueOf (l : Launch) (Z : State) (a0 : Array Value) (hw : ∀ d ∈ tables_1, d.before a0 Z = true) (ws : List Jvm.Cond) (p0 : Int32) (w_s_COMPACT_STRINGS : Int32) (h0 : Heap) (n0 : Nat) (Z0 : n0 ≤ h0.size) (S_COMPACT_STRINGS : Sta Z h0 "java/lang/String" "COMPACT_STRINGS" "Z" (.int w_s_COMPACT_STRINGS)) (hc3 : ¬ (w_s_COMPACT_STRINGS = (0 : Int32))) (hc10 : ¬ ((canEnc_r p0) = (0 : Int32))) :
    MetFree l (⟨"java/lang/String", "valueOf", "(C)Ljava/lang/String;"⟩ : MethodName) (head1 (Jvm.Cond.code (⟨"java/lang/String", "valueOf", "(C)Ljava/lang/String;"⟩ : MethodName) jdk_42_method_139_code 1 (some (.object "java/lang/String")) :: ws) ({ frames := 2, cells := 2, slots := 5, locals := 27 } : Room)) (fun a U => a = #[(.int p0)] ∧ Z.Warmed39 U.vm ∧ U.heap = h0) (fun _ _ _ _ _ => True) (fun _ U o U' => ∃ v L, o = .returned v ∧ QvalueOf Z p0 w_s_COMPACT_STRINGS h0 n0 v U'.heap L ∧ FrameEnd U o U' L ({ frames := 2, cells := 2, slots := 5, locals := 27 } : Room).cells ({ frames := 2, cells := 2, slots := 5, locals := 27 } : Room).slots) := by
  refine MetFree.of_bodySF (plainFor_of_name pn_82) hisR ?_
  intro p e s m args below meth c s₁ Bd hml0 hP hK
  obtain ⟨rfl, hZ, hh⟩ := hP
  have hx := Bd.exec
  have hby := Bd.bytes
  have hml : c.maxLocals = 1 := hml0
  have hown : s.vm.findClass "java/lang/String" = some m.cls := findClass_of_methodNamed Bd.named
  have hnm := (name_of_methodNamed Bd.named Bd.method).1
  have X0 : Stand p l e ({ frames := 2, cells := 2, slots := 5, locals := 27 } : Room) s m #[(.int p0)] below meth c s₁ [] 0 0 := Stand.of_body Bd
  have e0 : s₁.heap = h0 := by rw [← hh, Bd.state]; rfl
  have N0 := Fr.nil n0
  show own_Go p e below s (QvalueOf Z p0 w_s_COMPACT_STRINGS h0 n0) ({ frames := 2, cells := 2, slots := 5, locals := 27 } : Room).cells ({ frames := 2, cells := 2, slots := 5, locals := 27 } : Room).slots (s₁.setTop (entryFrame m #[(.int p0)] 1))
  rw [ef_valueOf m p0]
  have K0 : Keep h0 h0 [] := Keep.refl h0 []
  obtain ⟨T37, X37, e37, st37⟩ := getS2 X0 hx hZ hown (host := "") (Or.inl (hw _ (List.mem_of_getElem? (i := 12) rfl))) Via.refl e0 S_COMPACT_STRINGS (g := (mkF m 0 #[.val (.int p0)] [])) rfl (hb hby d2_0)
  refine own_go st37 ?_
  refine own_go (S' := T37.setTop (mkF m 7 #[.val (.int p0)] [(.int p0)])) (fun t k => ?_) ?_
  · show Steps p.tables e below (T37.setTop (mkF m 3 #[.val (.int p0)] [(.int w_s_COMPACT_STRINGS)])) t
    refine XS.ifNo X37.here hx rfl (hb hby d2_3) rfl ((if0 _ _).trans (feq hc3).1) ?_
    show Steps p.tables e below (T37.setTop (mkF m 6 #[.val (.int p0)] [])) t
    refine XS.iloadN X37.here hx rfl (hb hby d2_6) rfl ?_
    exact k
  obtain ⟨_, _, ⟨T38, L38, kk38, nn38⟩, -, X38, ⟨Lc38, hQ38, l38, y38, z38⟩, st38⟩ := Jvm.LawKit.callS X37 hx (y := (⟨"java/lang/StringLatin1", "canEncode", "(C)Z"⟩ : MethodName)) hown (mvT hZ (hw _ (List.mem_of_getElem? (i := 13) rfl))) (mvT hZ (hw _ (List.mem_of_getElem? (i := 14) rfl))) (mvT hZ (hw _ (List.mem_of_getElem? (i := 15) rfl))) (mvT hZ (hw _ (List.mem_of_getElem? (i := 16) rfl))) (by decide) (backOf (W := 0) (canEnc l Z a0 hw [] p0 h0 n0 Z0 ) hZ (hw _ (List.mem_of_getElem? (i := 16) rfl)) (hw _ (List.mem_of_getElem? (i := 15) rfl)) (by decide) (by decide)) (g := (mkF m 7 #[.val (.int p0)] [(.int p0)])) rfl (by rw [hml]; rfl) (argsL := [(.int p0)]) (rest := []) (lenOf pd_87 rfl) rfl (by show 2 * 0 + _ ≤ _; exact Nat.le_of_eq rfl) (hb hby d2_7) (fun _ _ => ⟨rfl, e37, (by decide : 0 + 0 ≤ _), (by decide : 0 + 0 ≤ _)⟩)
  dsimp only [Pt.U, Pt.locs, Pt.cells, Pt.slots] at X38 l38 y38 z38 st38 hQ38
  subst l38 y38 z38
  obtain ⟨rfl, N39, e38⟩ := hQ38
  have N41 := Fr.app N0 N39
  refine own_go st38 ?_
  refine own_go (S' := T38.setTop (mkF m 13 #[.val (.int p0)] [])) (fun t k => ?_) ?_
  · show Steps p.tables e below (T38.setTop (mkF m 10 #[.val (.int p0)] [(.int (canEnc_r p0))])) t
    refine XS.ifNo X38.here hx rfl (hb hby d2_10) rfl ((if0 _ _).trans (feq hc10).1) ?_
    exact k
  obtain ⟨T42, h42, X42, e42, E42, A42, D42, -, st42⟩ := newO X38 hx hZ hown (hw _ (List.mem_of_getElem? (i := 17) rfl)) (hw _ (List.mem_of_getElem? (i := 18) rfl)) (hw _ (List.mem_of_getElem? (i := 10) rfl)) e38 (g := (mkF m 13 #[.val (.int p0)] [])) rfl (hb hby d2_13) (by decide) (by decide)
  obtain ⟨b42, g42⟩ : ∃ z, z = h0.size := ⟨_, rfl⟩
  rw [← g42] at A42 D42 st42
  have g_b42 : n0 ≤ b42 := Nat.le_trans Z0 (Nat.le_of_eq g42.symm)
  have sz_b42 : h0.size ≤ b42 := Nat.le_trans K0.1 (Nat.le_of_eq g42.symm)
  have K43 : Keep h0 h42 [] := K0.ext E42
  have Z44 : n0 ≤ h42.size := Nat.le_trans Z0 E42.1
  have f45 : Sta Z h42 "java/lang/String" "COMPACT_STRINGS" "Z" (.int w_s_COMPACT_STRINGS) := Sta.ext E42 S_COMPACT_STRINGS
  have f46 : Fld Z h42 b42 "java/lang/String" "value" "[B" .null := D42 (Or.inr (hw _ (List.mem_of_getElem? (i := 31) rfl))) (ty := (.array .byte)) (by decide)
  have f47 : Fld Z h42 b42 "java/lang/String" "coder" "B" (.int (0 : Int32)) := D42 (Or.inr (hw _ (List.mem_of_getElem? (i := 33) rfl))) (ty := .byte) (by decide)
  refine own_go st42 ?_
  refine own_go (S' := T42.setTop (mkF m 18 #[.val (.int p0)] [(.int p0), (.ref b42), (.ref b42)])) (fun t k => ?_) ?_
  · show Steps p.tables e below (T42.setTop (mkF m 16 #[.val (.int p0)] [(.ref b42)])) t
    refine XS.dup X42.here hx rfl (hb hby d2_16) rfl rfl ?_
    show Steps p.tables e below (T42.setTop (mkF m 17 #[.val (.int p0)] [(.ref b42), (.ref b42)])) t
    refine XS.iloadN X42.here hx rfl (hb hby d2_17) rfl ?_
    exact k
  obtain ⟨_, _, ⟨T48, L48, kk48, nn48⟩, -, X48, ⟨Lc48, hQ48, l48, y48, z48⟩, st48⟩ := Jvm.LawKit.callS X42 hx (y := (⟨"java/lang/StringLatin1", "toBytes", "(C)[B"⟩ : MethodName)) hown (mvT hZ (hw _ (List.mem_of_getElem? (i := 19) rfl))) (mvT hZ (hw _ (List.mem_of_getElem? (i := 20) rfl))) (mvT hZ (hw _ (List.mem_of_getElem? (i := 15) rfl))) (mvT hZ (hw _ (List.mem_of_getElem? (i := 21) rfl))) (by decide) (backOf (W := 2) (toBytes l Z a0 hw [] p0 h42 n0 Z44 ) hZ (hw _ (List.mem_of_getElem? (i := 21) rfl)) (hw _ (List.mem_of_getElem? (i := 15) rfl)) (by decide) (by decide)) (g := (mkF m 18 #[.val (.int p0)] [(.int p0), (.ref b42), (.ref b42)])) rfl (by rw [hml]; rfl) (argsL := [(.int p0)]) (rest := [(.ref b42), (.ref b42)]) (lenOf pd_93 rfl) rfl (by show 2 * 0 + _ ≤ _; exact Nat.le_of_eq rfl) (hb hby d2_18) (fun _ _ => ⟨rfl, e42, (by decide : 1 + 1 ≤ _), (by decide : 4 + 1 ≤ _)⟩)
  dsimp only [Pt.U, Pt.locs, Pt.cells, Pt.slots] at X48 l48 y48 z48 st48 hQ48
  subst l48 y48 z48
  obtain ⟨b49, rfl, N50, K51, p52, p53⟩ := hQ48
  have N54 := Fr.app N41 N50
  have ne55 : b42 ≠ b49 := Nat.ne_of_lt (Nat.lt_of_lt_of_le A42.lt p52)
  have g_b49 : n0 ≤ b49 := Nat.le_trans Z44 p52
  have sz_b49 : h0.size ≤ b49 := Nat.le_trans K43.1 p52
  have f56 : Sta Z T48.heap "java/lang/String" "COMPACT_STRINGS" "Z" (.int w_s_COMPACT_STRINGS) := own_sta_keep f45 K51 all0
  have f57 : Exa Z T48.heap b42 "java/lang/String" := A42.keep K51
  have f58 : Fld Z T48.heap b42 "java/lang/String" "value" "[B" .null := f46.keep K51 nin0
  have f59 : Fld Z T48.heap b42 "java/lang/String" "coder" "B" (.int (0 : Int32)) := f47.keep K51 nin0
  have Z60 : n0 ≤ T48.heap.size := Nat.le_trans Z44 K51.1
  have K61 : Keep h0 T48.heap [] := K43.trans K51 all0
  refine own_go st48 ?_
  refine own_go (S' := T48.setTop (mkF m 22 #[.val (.int p0)] [(.int (0 : Int32)), (.ref b49), (.ref b42), (.ref b42)])) (fun t k => ?_) ?_
  · show Steps p.tables e below (T48.setTop (mkF m 21 #[.val (.int p0)] [(.ref b49), (.ref b42), (.ref b42)])) t
    refine XS.iconst X48.here hx rfl (hb hby d2_21) ?_
    exact k
  obtain ⟨_, _, ⟨T62, L62, kk62, nn62⟩, -, X62, ⟨Lc62, hQ62, l62, y62, z62⟩, st62⟩ := X48.specialBack hx (y := (⟨"java/lang/String", "<init>", "([BB)V"⟩ : MethodName)) rfl hown (mvT hZ (hw _ (List.mem_of_getElem? (i := 23) rfl))) (mvT hZ (hw _ (List.mem_of_getElem? (i := 24) rfl))) (mvT hZ (hw _ (List.mem_of_getElem? (i := 26) rfl))) (by decide) (backOf (W := 1) (strInit l Z a0 hw [] b42 b49 (0 : Int32) (.null) (0 : Int32) T48.heap n0 Z60 f57 f58 f59 g_b42) hZ (hw _ (List.mem_of_getElem? (i := 26) rfl)) (hw _ (List.mem_of_getElem? (i := 10) rfl)) (by decide) (by decide)) (g := (mkF m 22 #[.val (.int p0)] [(.int (0 : Int32)), (.ref b49), (.ref b42), (.ref b42)])) rfl (by rw [hml]; rfl) (Steps.refl _) (a := b42) (argsL := [(.ref b49), (.int (0 : Int32))]) (rest := [(.ref b42)]) (lenOf pd_96 rfl) rfl (by show 2 * 0 + _ ≤ _; exact Nat.le_of_eq rfl) (hb hby d2_22) (fun _ _ => ⟨rfl, rfl, (by decide : 2 + 0 ≤ _), (by decide : 5 + 0 ≤ _)⟩)
  dsimp only [Pt.U, Pt.locs, Pt.cells, Pt.slots] at X62 l62 y62 z62 st62 hQ62
  subst l62 y62 z62
  obtain ⟨rfl, N63, K64, p65, p66, p67⟩ := hQ62
  have N68 := Fr.app N54 N63
  have f69 : Sta Z T62.heap "java/lang/String" "COMPACT_STRINGS" "Z" (.int w_s_COMPACT_STRINGS) := own_sta_keep f56 K64 (allS (own_plain f57) all0)
  have f70 : Exa Z T62.heap b42 "java/lang/String" := f57.keep K64
  have f71 : own_Arv Z T62.heap b49 .byte (1 : Int32) [(.int (nar .byte (p0.toInt8.toInt32)))] (.int (0 : Int32)) := p53.keep K64 (ninS (Ne.symm ne55) nin0)
  have Z72 : n0 ≤ T62.heap.size := Nat.le_trans Z60 K64.1
  have K73 : Keep h0 T62.heap [] := K61.trans K64 (allS (Or.inr sz_b42) all0)
  refine own_goT st62 ?_
  obtain ⟨fs, hr, hrun, hended, hW, hsame⟩ := X62.leave (v := some (.ref b42)) (fun h => by rw [Bd.returns] at h; cases h)
  refine own_end (v := some (.ref b42)) ?_ hrun hended ?_ hW (hsame.mono (by decide) (by decide))
  · show Steps p.tables e below (T62.setTop (mkF m 25 #[.val (.int p0)] [(.ref b42)])) _
    jvm_step X62.here [X62.here.top, hx, (hb hby d2_25), X62.method', Bd.returns, Value.isRef, FieldType.isReference]
    first | (intro acts; rw [hr _ acts rfl rfl rfl]) | rw [hr _ _ rfl rfl rfl]
    exact Steps.refl _
  · show QvalueOf Z p0 w_s_COMPACT_STRINGS h0 n0 _ T62.heap _
    exact ⟨b42, rfl, N68, K73, sz_b42, p65⟩
theorem d8_0 : decode jdk_30_method_1_code 0 = .ok (.aload_n 0, 1) := by decide +kernel
theorem d8_1 : decode jdk_30_method_1_code 1 = .ok (.invokespecial 1, 3) := by decide +kernel
theorem d8_4 : decode jdk_30_method_1_code 4 = .ok (.return_, 1) := by decide +kernel
theorem pn_101 : plainName "java/lang/Record" = true := by first | (simp [plainName, overriddenIn]; done) | decide +kernel
theorem ef_recInit (m : MethodId) (x0 : Addr) : entryFrame m #[(.ref x0)] 1 = mkF m 0 #[.val (.ref x0)] [] := by first | (simp [entryFrame, mkF, argsToLocals, Value.category]; done) | rfl
def QrecInit (Z : State) (o0 : Addr) (h0 : Heap) (n0 : Nat) (v : Option Value) (h : Heap) (L : List Loc) : Prop := v = none ∧ Fr n0 L ∧ h = h0
set_option maxRecDepth 65536 in
set_option maxHeartbeats 40000000 in
theorem recInit (l : Launch) (Z : State) (a0 : Array Value) (hw : ∀ d ∈ tables_1, d.before a0 Z = true) (ws : List Jvm.Cond) (o0 : Addr) (h0 : Heap) (n0 : Nat) (Z0 : n0 ≤ h0.size) :
    MetFree l (⟨"java/lang/Record", "<init>", "()V"⟩ : MethodName) (head1 (Jvm.Cond.code (⟨"java/lang/Record", "<init>", "()V"⟩ : MethodName) jdk_30_method_1_code 1 none :: ws) ({ frames := 1, cells := 0, slots := 0, locals := 12 } : Room)) (fun a U => a = #[(.ref o0)] ∧ Z.Warmed39 U.vm ∧ U.heap = h0) (fun _ _ _ _ _ => True) (fun _ U o U' => ∃ v L, o = .returned v ∧ QrecInit Z o0 h0 n0 v U'.heap L ∧ FrameEnd U o U' L ({ frames := 1, cells := 0, slots := 0, locals := 12 } : Room).cells ({ frames := 1, cells := 0, slots := 0, locals := 12 } : Room).slots) := by
  refine MetFree.of_bodySF (plainFor_of_name pn_101) hisR ?_
  intro p e s m args below meth c s₁ Bd hml0 hP hK
  obtain ⟨rfl, hZ, hh⟩ := hP
  have hx := Bd.exec
  have hby := Bd.bytes
  have hml : c.maxLocals = 1 := hml0
  have hown : s.vm.findClass "java/lang/Record" = some m.cls := findClass_of_methodNamed Bd.named
  have hnm := (name_of_methodNamed Bd.named Bd.method).1
  have X0 : Stand p l e ({ frames := 1, cells := 0, slots := 0, locals := 12 } : Room) s m #[(.ref o0)] below meth c s₁ [] 0 0 := Stand.of_body Bd
  have e0 : s₁.heap = h0 := by rw [← hh, Bd.state]; rfl
  have N0 := Fr.nil n0
  show own_Go p e below s (QrecInit Z o0 h0 n0) ({ frames := 1, cells := 0, slots := 0, locals := 12 } : Room).cells ({ frames := 1, cells := 0, slots := 0, locals := 12 } : Room).slots (s₁.setTop (entryFrame m #[(.ref o0)] 1))
  rw [ef_recInit m o0]
  have K0 : Keep h0 h0 [] := Keep.refl h0 []
  refine own_go (S' := s₁.setTop (mkF m 1 #[.val (.ref o0)] [(.ref o0)])) (fun t k => ?_) ?_
  · show Steps p.tables e below (s₁.setTop (mkF m 0 #[.val (.ref o0)] [])) t
    refine XS.aloadN X0.here hx rfl (hb hby d8_0) rfl rfl ?_
    exact k
  obtain ⟨T74, X74, e74, st74⟩ := initO X0 hx hZ hown (hw _ (List.mem_of_getElem? (i := 45) rfl)) (hw _ (List.mem_of_getElem? (i := 28) rfl)) (hw _ (List.mem_of_getElem? (i := 29) rfl)) e0 (g := (mkF m 1 #[.val (.ref o0)] [(.ref o0)])) rfl (by rw [hml]; rfl) rfl (hb hby d8_1) (by decide) (W := 0) (by show 2 * 0 + _ ≤ _; exact Nat.le_of_eq rfl) (by decide)
  refine own_go st74 ?_
  obtain ⟨fs, hr, hrun, hended, hW, hsame⟩ := X74.leave (v := none) (fun _ => rfl)
  refine own_end (v := none) ?_ hrun hended ?_ hW (hsame.mono (by decide) (by decide))
  · show Steps p.tables e below (T74.setTop (mkF m 4 #[.val (.ref o0)] [])) _
    exact X74.returnOut hx Bd.returns (hb hby d8_4) hr
  · show QrecInit Z o0 h0 n0 _ T74.heap _
    rw [e74]
    exact ⟨rfl, N0, rfl⟩
theorem d7_0 : decode prog_14_method_1_code 0 = .ok (.aload_n 0, 1) := by decide +kernel
theorem d7_1 : decode prog_14_method_1_code 1 = .ok (.invokespecial 1, 3) := by decide +kernel
theorem pd_104 : parseMethodDescriptor "()V" = some ⟨[], none⟩ := by decide +kernel
theorem d7_4 : decode prog_14_method_1_code 4 = .ok (.aload_n 0, 1) := by decide +kernel
theorem d7_5 : decode prog_14_method_1_code 5 = .ok (.aload_n 1, 1) := by decide +kernel
theorem d7_6 : decode prog_14_method_1_code 6 = .ok (.putfield 7, 3) := by decide +kernel
theorem d7_9 : decode prog_14_method_1_code 9 = .ok (.aload_n 0, 1) := by decide +kernel
theorem d7_10 : decode prog_14_method_1_code 10 = .ok (.lload_n 2, 1) := by decide +kernel
theorem d7_11 : decode prog_14_method_1_code 11 = .ok (.putfield 13, 3) := by decide +kernel
theorem d7_14 : decode prog_14_method_1_code 14 = .ok (.aload_n 0, 1) := by decide +kernel
theorem d7_15 : decode prog_14_method_1_code 15 = .ok (.aload 4, 2) := by decide +kernel
theorem d7_17 : decode prog_14_method_1_code 17 = .ok (.putfield 17, 3) := by decide +kernel
theorem d7_20 : decode prog_14_method_1_code 20 = .ok (.return_, 1) := by decide +kernel
theorem pn_115 : plainName "com/example/scorebench/scorebench/assignment/Mutant" = true := by first | (simp [plainName, overriddenIn]; done) | decide +kernel
theorem ef_mutInit (m : MethodId) (x0 : Addr) (x1 : Addr) (x2 : Int64) (x3 : Addr) : entryFrame m #[(.ref x0), (.ref x1), (.long x2), (.ref x3)] 5 = mkF m 0 #[.val (.ref x0), .val (.ref x1), .val (.long x2), .second, .val (.ref x3)] [] := by first | (simp [entryFrame, mkF, argsToLocals, Value.category]; done) | rfl
def QmutInit (Z : State) (o0 : Addr) (o1 : Addr) (q2 : Int64) (o3 : Addr) (w_o0_name : Value) (w_o0_weight : Int64) (w_o0_source : Value) (h0 : Heap) (n0 : Nat) (v : Option Value) (h : Heap) (L : List Loc) : Prop := v = none ∧ Fr n0 L ∧ Keep h0 h [o0] ∧ Exa Z h o0 "com/example/scorebench/scorebench/assignment/Mutant" ∧ Fld Z h o0 "com/example/scorebench/scorebench/assignment/Mutant" "name" "Ljava/lang/String;" (.ref o1) ∧ Fld Z h o0 "com/example/scorebench/scorebench/assignment/Mutant" "weight" "J" (.long q2) ∧ Fld Z h o0 "com/example/scorebench/scorebench/assignment/Mutant" "source" "Ljava/lang/String;" (.ref o3)
set_option maxRecDepth 65536 in
set_option maxHeartbeats 40000000 in
theorem mutInit (l : Launch) (Z : State) (a0 : Array Value) (hw : ∀ d ∈ tables_1, d.before a0 Z = true) (ws : List Jvm.Cond) (o0 : Addr) (o1 : Addr) (q2 : Int64) (o3 : Addr) (w_o0_name : Value) (w_o0_weight : Int64) (w_o0_source : Value) (h0 : Heap) (n0 : Nat) (Z0 : n0 ≤ h0.size) (E_o0 : Exa Z h0 o0 "com/example/scorebench/scorebench/assignment/Mutant") (F_o0_name : Fld Z h0 o0 "com/example/scorebench/scorebench/assignment/Mutant" "name" "Ljava/lang/String;" w_o0_name) (F_o0_weight : Fld Z h0 o0 "com/example/scorebench/scorebench/assignment/Mutant" "weight" "J" (.long w_o0_weight)) (F_o0_source : Fld Z h0 o0 "com/example/scorebench/scorebench/assignment/Mutant" "source" "Ljava/lang/String;" w_o0_source) (g_o0 : n0 ≤ o0) :
    MetFree l (⟨"com/example/scorebench/scorebench/assignment/Mutant", "<init>", "(Ljava/lang/String;JLjava/lang/String;)V"⟩ : MethodName) (head1 (Jvm.Cond.code (⟨"com/example/scorebench/scorebench/assignment/Mutant", "<init>", "(Ljava/lang/String;JLjava/lang/String;)V"⟩ : MethodName) prog_14_method_1_code 5 none :: ws) ({ frames := 2, cells := 0, slots := 0, locals := 24 } : Room)) (fun a U => a = #[(.ref o0), (.ref o1), (.long q2), (.ref o3)] ∧ Z.Warmed39 U.vm ∧ U.heap = h0) (fun _ _ _ _ _ => True) (fun _ U o U' => ∃ v L, o = .returned v ∧ QmutInit Z o0 o1 q2 o3 w_o0_name w_o0_weight w_o0_source h0 n0 v U'.heap L ∧ FrameEnd U o U' L ({ frames := 2, cells := 0, slots := 0, locals := 24 } : Room).cells ({ frames := 2, cells := 0, slots := 0, locals := 24 } : Room).slots) := by
  refine MetFree.of_bodySF (plainFor_of_name pn_115) hisR ?_
  intro p e s m args below meth c s₁ Bd hml0 hP hK
  obtain ⟨rfl, hZ, hh⟩ := hP
  have hx := Bd.exec
  have hby := Bd.bytes
  have hml : c.maxLocals = 5 := hml0
  have hown : s.vm.findClass "com/example/scorebench/scorebench/assignment/Mutant" = some m.cls := findClass_of_methodNamed Bd.named
  have hnm := (name_of_methodNamed Bd.named Bd.method).1
  have X0 : Stand p l e ({ frames := 2, cells := 0, slots := 0, locals := 24 } : Room) s m #[(.ref o0), (.ref o1), (.long q2), (.ref o3)] below meth c s₁ [] 0 0 := Stand.of_body Bd
  have e0 : s₁.heap = h0 := by rw [← hh, Bd.state]; rfl
  have N0 := Fr.nil n0
  show own_Go p e below s (QmutInit Z o0 o1 q2 o3 w_o0_name w_o0_weight w_o0_source h0 n0) ({ frames := 2, cells := 0, slots := 0, locals := 24 } : Room).cells ({ frames := 2, cells := 0, slots := 0, locals := 24 } : Room).slots (s₁.setTop (entryFrame m #[(.ref o0), (.ref o1), (.long q2), (.ref o3)] 5))
  rw [ef_mutInit m o0 o1 q2 o3]
  have K0 : Keep h0 h0 [o0] := Keep.refl h0 [o0]
  refine own_go (S' := s₁.setTop (mkF m 1 #[.val (.ref o0), .val (.ref o1), .val (.long q2), .second, .val (.ref o3)] [(.ref o0)])) (fun t k => ?_) ?_
  · show Steps p.tables e below (s₁.setTop (mkF m 0 #[.val (.ref o0), .val (.ref o1), .val (.long q2), .second, .val (.ref o3)] [])) t
    refine XS.aloadN X0.here hx rfl (hb hby d7_0) rfl rfl ?_
    exact k
  obtain ⟨_, _, ⟨T75, L75, kk75, nn75⟩, -, X75, ⟨Lc75, hQ75, l75, y75, z75⟩, st75⟩ := X0.specialBack hx (y := (⟨"java/lang/Record", "<init>", "()V"⟩ : MethodName)) rfl hown (mvT hZ (hw _ (List.mem_of_getElem? (i := 40) rfl))) (mvT hZ (hw _ (List.mem_of_getElem? (i := 41) rfl))) (mvT hZ (hw _ (List.mem_of_getElem? (i := 44) rfl))) (by decide) (backOf (W := 0) (recInit l Z a0 hw [] o0 h0 n0 Z0 ) hZ (hw _ (List.mem_of_getElem? (i := 44) rfl)) (hw _ (List.mem_of_getElem? (i := 43) rfl)) (by decide) (by decide)) (g := (mkF m 1 #[.val (.ref o0), .val (.ref o1), .val (.long q2), .second, .val (.ref o3)] [(.ref o0)])) rfl (by rw [hml]; rfl) (Steps.refl _) (a := o0) (argsL := []) (rest := []) (lenOf pd_104 rfl) rfl (by show 2 * 0 + _ ≤ _; exact Nat.le_of_eq rfl) (hb hby d7_1) (fun _ _ => ⟨rfl, e0, (by decide : 0 + 0 ≤ _), (by decide : 0 + 0 ≤ _)⟩)
  dsimp only [Pt.U, Pt.locs, Pt.cells, Pt.slots] at X75 l75 y75 z75 st75 hQ75
  subst l75 y75 z75
  obtain ⟨rfl, N76, e75⟩ := hQ75
  have N78 := Fr.app N0 N76
  refine own_goT st75 ?_
  refine own_go (S' := T75.setTop (mkF m 6 #[.val (.ref o0), .val (.ref o1), .val (.long q2), .second, .val (.ref o3)] [(.ref o1), (.ref o0)])) (fun t k => ?_) ?_
  · show Steps p.tables e below (T75.setTop (mkF m 4 #[.val (.ref o0), .val (.ref o1), .val (.long q2), .second, .val (.ref o3)] [])) t
    refine XS.aloadN X75.here hx rfl (hb hby d7_4) rfl rfl ?_
    show Steps p.tables e below (T75.setTop (mkF m 5 #[.val (.ref o0), .val (.ref o1), .val (.long q2), .second, .val (.ref o3)] [(.ref o0)])) t
    refine XS.aloadN X75.here hx rfl (hb hby d7_5) rfl rfl ?_
    exact k
  obtain ⟨T79, h79, X79, e79, W79, st79⟩ := putF X75 hx hZ hown (host := "") (Or.inl (hw _ (List.mem_of_getElem? (i := 46) rfl))) Via.refl e75 F_o0_name E_o0 (Or.inr ⟨(hw _ (List.mem_of_getElem? (i := 47) rfl)), rfl, hnm⟩) (hw _ (List.mem_of_getElem? (i := 35) rfl)) (ty := (.object "java/lang/String")) (by decide) rfl rfl (g := (mkF m 6 #[.val (.ref o0), .val (.ref o1), .val (.long q2), .second, .val (.ref o3)] [(.ref o1), (.ref o0)])) rfl rfl (hb hby d7_6)
  have f80 : Exa Z h79 o0 "com/example/scorebench/scorebench/assignment/Mutant" := E_o0.wr W79
  have f81 : Fld Z h79 o0 "com/example/scorebench/scorebench/assignment/Mutant" "weight" "J" (.long w_o0_weight) := F_o0_weight.other W79 (Or.inr (slot_ne (Or.inr (hw _ (List.mem_of_getElem? (i := 49) rfl))) (Or.inr (hw _ (List.mem_of_getElem? (i := 47) rfl))) (by decide) (t := .long) (t' := (.object "java/lang/String")) (by decide) (by decide)))
  have f82 : Fld Z h79 o0 "com/example/scorebench/scorebench/assignment/Mutant" "source" "Ljava/lang/String;" w_o0_source := F_o0_source.other W79 (Or.inr (slot_ne (Or.inr (hw _ (List.mem_of_getElem? (i := 51) rfl))) (Or.inr (hw _ (List.mem_of_getElem? (i := 47) rfl))) (by decide) (t := (.object "java/lang/String")) (t' := (.object "java/lang/String")) (by decide) (by decide)))
  have f83 : Fld Z h79 o0 "com/example/scorebench/scorebench/assignment/Mutant" "name" "Ljava/lang/String;" (.ref o1) := F_o0_name.same W79
  have N84 := Fr.snoc X79 N78 g_o0
  have Z85 : n0 ≤ h79.size := Nat.le_trans Z0 (Keep.of_wr W79).1
  have K86 : Keep h0 h79 [o0] := K0.wr W79 (Or.inl (List.mem_of_getElem? (i := 0) rfl))
  refine own_go st79 ?_
  refine own_go (S' := T79.setTop (mkF m 11 #[.val (.ref o0), .val (.ref o1), .val (.long q2), .second, .val (.ref o3)] [(.long q2), (.ref o0)])) (fun t k => ?_) ?_
  · show Steps p.tables e below (T79.setTop (mkF m 9 #[.val (.ref o0), .val (.ref o1), .val (.long q2), .second, .val (.ref o3)] [])) t
    refine XS.aloadN X79.here hx rfl (hb hby d7_9) rfl rfl ?_
    show Steps p.tables e below (T79.setTop (mkF m 10 #[.val (.ref o0), .val (.ref o1), .val (.long q2), .second, .val (.ref o3)] [(.ref o0)])) t
    refine XS.lloadN X79.here hx rfl (hb hby d7_10) rfl ?_
    exact k
  obtain ⟨T87, h87, X87, e87, W87, st87⟩ := putF X79 hx hZ hown (host := "") (Or.inl (hw _ (List.mem_of_getElem? (i := 48) rfl))) Via.refl e79 f81 f80 (Or.inr ⟨(hw _ (List.mem_of_getElem? (i := 49) rfl)), rfl, hnm⟩) (hw _ (List.mem_of_getElem? (i := 35) rfl)) (ty := .long) (by decide) rfl rfl (g := (mkF m 11 #[.val (.ref o0), .val (.ref o1), .val (.long q2), .second, .val (.ref o3)] [(.long q2), (.ref o0)])) rfl rfl (hb hby d7_11)
  have f88 : Exa Z h87 o0 "com/example/scorebench/scorebench/assignment/Mutant" := f80.wr W87
  have f89 : Fld Z h87 o0 "com/example/scorebench/scorebench/assignment/Mutant" "source" "Ljava/lang/String;" w_o0_source := f82.other W87 (Or.inr (slot_ne (Or.inr (hw _ (List.mem_of_getElem? (i := 51) rfl))) (Or.inr (hw _ (List.mem_of_getElem? (i := 49) rfl))) (by decide) (t := (.object "java/lang/String")) (t' := .long) (by decide) (by decide)))
  have f90 : Fld Z h87 o0 "com/example/scorebench/scorebench/assignment/Mutant" "name" "Ljava/lang/String;" (.ref o1) := f83.other W87 (Or.inr (slot_ne (Or.inr (hw _ (List.mem_of_getElem? (i := 47) rfl))) (Or.inr (hw _ (List.mem_of_getElem? (i := 49) rfl))) (by decide) (t := (.object "java/lang/String")) (t' := .long) (by decide) (by decide)))
  have f91 : Fld Z h87 o0 "com/example/scorebench/scorebench/assignment/Mutant" "weight" "J" (.long q2) := f81.same W87
  have N92 := Fr.snoc X87 N84 g_o0
  have Z93 : n0 ≤ h87.size := Nat.le_trans Z85 (Keep.of_wr W87).1
  have K94 : Keep h0 h87 [o0] := K86.wr W87 (Or.inl (List.mem_of_getElem? (i := 0) rfl))
  refine own_go st87 ?_
  refine own_go (S' := T87.setTop (mkF m 17 #[.val (.ref o0), .val (.ref o1), .val (.long q2), .second, .val (.ref o3)] [(.ref o3), (.ref o0)])) (fun t k => ?_) ?_
  · show Steps p.tables e below (T87.setTop (mkF m 14 #[.val (.ref o0), .val (.ref o1), .val (.long q2), .second, .val (.ref o3)] [])) t
    refine XS.aloadN X87.here hx rfl (hb hby d7_14) rfl rfl ?_
    show Steps p.tables e below (T87.setTop (mkF m 15 #[.val (.ref o0), .val (.ref o1), .val (.long q2), .second, .val (.ref o3)] [(.ref o0)])) t
    refine XS.aload X87.here hx rfl (hb hby d7_15) rfl rfl ?_
    exact k
  obtain ⟨T95, h95, X95, e95, W95, st95⟩ := putF X87 hx hZ hown (host := "") (Or.inl (hw _ (List.mem_of_getElem? (i := 50) rfl))) Via.refl e87 f89 f88 (Or.inr ⟨(hw _ (List.mem_of_getElem? (i := 51) rfl)), rfl, hnm⟩) (hw _ (List.mem_of_getElem? (i := 35) rfl)) (ty := (.object "java/lang/String")) (by decide) rfl rfl (g := (mkF m 17 #[.val (.ref o0), .val (.ref o1), .val (.long q2), .second, .val (.ref o3)] [(.ref o3), (.ref o0)])) rfl rfl (hb hby d7_17)
  have f96 : Exa Z h95 o0 "com/example/scorebench/scorebench/assignment/Mutant" := f88.wr W95
  have f97 : Fld Z h95 o0 "com/example/scorebench/scorebench/assignment/Mutant" "name" "Ljava/lang/String;" (.ref o1) := f90.other W95 (Or.inr (slot_ne (Or.inr (hw _ (List.mem_of_getElem? (i := 47) rfl))) (Or.inr (hw _ (List.mem_of_getElem? (i := 51) rfl))) (by decide) (t := (.object "java/lang/String")) (t' := (.object "java/lang/String")) (by decide) (by decide)))
  have f98 : Fld Z h95 o0 "com/example/scorebench/scorebench/assignment/Mutant" "weight" "J" (.long q2) := f91.other W95 (Or.inr (slot_ne (Or.inr (hw _ (List.mem_of_getElem? (i := 49) rfl))) (Or.inr (hw _ (List.mem_of_getElem? (i := 51) rfl))) (by decide) (t := .long) (t' := (.object "java/lang/String")) (by decide) (by decide)))
  have f99 : Fld Z h95 o0 "com/example/scorebench/scorebench/assignment/Mutant" "source" "Ljava/lang/String;" (.ref o3) := f89.same W95
  have N100 := Fr.snoc X95 N92 g_o0
  have Z101 : n0 ≤ h95.size := Nat.le_trans Z93 (Keep.of_wr W95).1
  have K102 : Keep h0 h95 [o0] := K94.wr W95 (Or.inl (List.mem_of_getElem? (i := 0) rfl))
  refine own_go st95 ?_
  obtain ⟨fs, hr, hrun, hended, hW, hsame⟩ := X95.leave (v := none) (fun _ => rfl)
  refine own_end (v := none) ?_ hrun hended ?_ hW (hsame.mono (by decide) (by decide))
  · show Steps p.tables e below (T95.setTop (mkF m 20 #[.val (.ref o0), .val (.ref o1), .val (.long q2), .second, .val (.ref o3)] [])) _
    exact X95.returnOut hx Bd.returns (hb hby d7_20) hr
  · show QmutInit Z o0 o1 q2 o3 w_o0_name w_o0_weight w_o0_source h0 n0 _ T95.heap _
    rw [e95]
    exact ⟨rfl, N100, K102, f96, f97, f98, f99⟩
theorem d9_0 : decode prog_37_method_1_code 0 = .ok (.aload_n 0, 1) := by decide +kernel
theorem d9_1 : decode prog_37_method_1_code 1 = .ok (.invokespecial 1, 3) := by decide +kernel
theorem d9_4 : decode prog_37_method_1_code 4 = .ok (.aload_n 0, 1) := by decide +kernel
theorem d9_5 : decode prog_37_method_1_code 5 = .ok (.aload_n 1, 1) := by decide +kernel
theorem d9_6 : decode prog_37_method_1_code 6 = .ok (.putfield 7, 3) := by decide +kernel
theorem d9_9 : decode prog_37_method_1_code 9 = .ok (.aload_n 0, 1) := by decide +kernel
theorem d9_10 : decode prog_37_method_1_code 10 = .ok (.aload_n 2, 1) := by decide +kernel
theorem d9_11 : decode prog_37_method_1_code 11 = .ok (.putfield 13, 3) := by decide +kernel
theorem d9_14 : decode prog_37_method_1_code 14 = .ok (.return_, 1) := by decide +kernel
theorem pn_125 : plainName "com/example/scorebench/scorebench/grading/Grade$MutantVerdict" = true := by first | (simp [plainName, overriddenIn]; done) | decide +kernel
theorem ef_mvInit (m : MethodId) (x0 : Addr) (x1 : Addr) (x2 : Addr) : entryFrame m #[(.ref x0), (.ref x1), (.ref x2)] 3 = mkF m 0 #[.val (.ref x0), .val (.ref x1), .val (.ref x2)] [] := by first | (simp [entryFrame, mkF, argsToLocals, Value.category]; done) | rfl
def QmvInit (Z : State) (o0 : Addr) (o1 : Addr) (o2 : Addr) (w_o0_mutant : Value) (w_o0_verdict : Value) (h0 : Heap) (n0 : Nat) (v : Option Value) (h : Heap) (L : List Loc) : Prop := v = none ∧ Fr n0 L ∧ Keep h0 h [o0] ∧ Exa Z h o0 "com/example/scorebench/scorebench/grading/Grade$MutantVerdict" ∧ Fld Z h o0 "com/example/scorebench/scorebench/grading/Grade$MutantVerdict" "mutant" "Lcom/example/scorebench/scorebench/assignment/Mutant;" (.ref o1) ∧ Fld Z h o0 "com/example/scorebench/scorebench/grading/Grade$MutantVerdict" "verdict" "Lcom/example/scorebench/scorebench/grading/Verdict;" (.ref o2)
set_option maxRecDepth 65536 in
set_option maxHeartbeats 40000000 in
theorem mvInit (l : Launch) (Z : State) (a0 : Array Value) (hw : ∀ d ∈ tables_1, d.before a0 Z = true) (ws : List Jvm.Cond) (o0 : Addr) (o1 : Addr) (o2 : Addr) (w_o0_mutant : Value) (w_o0_verdict : Value) (h0 : Heap) (n0 : Nat) (Z0 : n0 ≤ h0.size) (E_o0 : Exa Z h0 o0 "com/example/scorebench/scorebench/grading/Grade$MutantVerdict") (F_o0_mutant : Fld Z h0 o0 "com/example/scorebench/scorebench/grading/Grade$MutantVerdict" "mutant" "Lcom/example/scorebench/scorebench/assignment/Mutant;" w_o0_mutant) (F_o0_verdict : Fld Z h0 o0 "com/example/scorebench/scorebench/grading/Grade$MutantVerdict" "verdict" "Lcom/example/scorebench/scorebench/grading/Verdict;" w_o0_verdict) (g_o0 : n0 ≤ o0) :
    MetFree l (⟨"com/example/scorebench/scorebench/grading/Grade$MutantVerdict", "<init>", "(Lcom/example/scorebench/scorebench/assignment/Mutant;Lcom/example/scorebench/scorebench/grading/Verdict;)V"⟩ : MethodName) (head1 (Jvm.Cond.code (⟨"com/example/scorebench/scorebench/grading/Grade$MutantVerdict", "<init>", "(Lcom/example/scorebench/scorebench/assignment/Mutant;Lcom/example/scorebench/scorebench/grading/Verdict;)V"⟩ : MethodName) prog_37_method_1_code 3 none :: ws) ({ frames := 2, cells := 0, slots := 0, locals := 24 } : Room)) (fun a U => a = #[(.ref o0), (.ref o1), (.ref o2)] ∧ Z.Warmed39 U.vm ∧ U.heap = h0) (fun _ _ _ _ _ => True) (fun _ U o U' => ∃ v L, o = .returned v ∧ QmvInit Z o0 o1 o2 w_o0_mutant w_o0_verdict h0 n0 v U'.heap L ∧ FrameEnd U o U' L ({ frames := 2, cells := 0, slots := 0, locals := 24 } : Room).cells ({ frames := 2, cells := 0, slots := 0, locals := 24 } : Room).slots) := by
  refine MetFree.of_bodySF (plainFor_of_name pn_125) hisR ?_
  intro p e s m args below meth c s₁ Bd hml0 hP hK
  obtain ⟨rfl, hZ, hh⟩ := hP
  have hx := Bd.exec
  have hby := Bd.bytes
  have hml : c.maxLocals = 3 := hml0
  have hown : s.vm.findClass "com/example/scorebench/scorebench/grading/Grade$MutantVerdict" = some m.cls := findClass_of_methodNamed Bd.named
  have hnm := (name_of_methodNamed Bd.named Bd.method).1
  have X0 : Stand p l e ({ frames := 2, cells := 0, slots := 0, locals := 24 } : Room) s m #[(.ref o0), (.ref o1), (.ref o2)] below meth c s₁ [] 0 0 := Stand.of_body Bd
  have e0 : s₁.heap = h0 := by rw [← hh, Bd.state]; rfl
  have N0 := Fr.nil n0
  show own_Go p e below s (QmvInit Z o0 o1 o2 w_o0_mutant w_o0_verdict h0 n0) ({ frames := 2, cells := 0, slots := 0, locals := 24 } : Room).cells ({ frames := 2, cells := 0, slots := 0, locals := 24 } : Room).slots (s₁.setTop (entryFrame m #[(.ref o0), (.ref o1), (.ref o2)] 3))
  rw [ef_mvInit m o0 o1 o2]
  have K0 : Keep h0 h0 [o0] := Keep.refl h0 [o0]
  refine own_go (S' := s₁.setTop (mkF m 1 #[.val (.ref o0), .val (.ref o1), .val (.ref o2)] [(.ref o0)])) (fun t k => ?_) ?_
  · show Steps p.tables e below (s₁.setTop (mkF m 0 #[.val (.ref o0), .val (.ref o1), .val (.ref o2)] [])) t
    refine XS.aloadN X0.here hx rfl (hb hby d9_0) rfl rfl ?_
    exact k
  obtain ⟨_, _, ⟨T103, L103, kk103, nn103⟩, -, X103, ⟨Lc103, hQ103, l103, y103, z103⟩, st103⟩ := X0.specialBack hx (y := (⟨"java/lang/Record", "<init>", "()V"⟩ : MethodName)) rfl hown (mvT hZ (hw _ (List.mem_of_getElem? (i := 58) rfl))) (mvT hZ (hw _ (List.mem_of_getElem? (i := 41) rfl))) (mvT hZ (hw _ (List.mem_of_getElem? (i := 44) rfl))) (by decide) (backOf (W := 0) (recInit l Z a0 hw [] o0 h0 n0 Z0 ) hZ (hw _ (List.mem_of_getElem? (i := 44) rfl)) (hw _ (List.mem_of_getElem? (i := 43) rfl)) (by decide) (by decide)) (g := (mkF m 1 #[.val (.ref o0), .val (.ref o1), .val (.ref o2)] [(.ref o0)])) rfl (by rw [hml]; rfl) (Steps.refl _) (a := o0) (argsL := []) (rest := []) (lenOf pd_104 rfl) rfl (by show 2 * 0 + _ ≤ _; exact Nat.le_of_eq rfl) (hb hby d9_1) (fun _ _ => ⟨rfl, e0, (by decide : 0 + 0 ≤ _), (by decide : 0 + 0 ≤ _)⟩)
  dsimp only [Pt.U, Pt.locs, Pt.cells, Pt.slots] at X103 l103 y103 z103 st103 hQ103
  subst l103 y103 z103
  obtain ⟨rfl, N104, e103⟩ := hQ103
  have N106 := Fr.app N0 N104
  refine own_goT st103 ?_
  refine own_go (S' := T103.setTop (mkF m 6 #[.val (.ref o0), .val (.ref o1), .val (.ref o2)] [(.ref o1), (.ref o0)])) (fun t k => ?_) ?_
  · show Steps p.tables e below (T103.setTop (mkF m 4 #[.val (.ref o0), .val (.ref o1), .val (.ref o2)] [])) t
    refine XS.aloadN X103.here hx rfl (hb hby d9_4) rfl rfl ?_
    show Steps p.tables e below (T103.setTop (mkF m 5 #[.val (.ref o0), .val (.ref o1), .val (.ref o2)] [(.ref o0)])) t
    refine XS.aloadN X103.here hx rfl (hb hby d9_5) rfl rfl ?_
    exact k
  obtain ⟨T107, h107, X107, e107, W107, st107⟩ := putF X103 hx hZ hown (host := "") (Or.inl (hw _ (List.mem_of_getElem? (i := 59) rfl))) Via.refl e103 F_o0_mutant E_o0 (Or.inr ⟨(hw _ (List.mem_of_getElem? (i := 60) rfl)), rfl, hnm⟩) (hw _ (List.mem_of_getElem? (i := 53) rfl)) (ty := (.object "com/example/scorebench/scorebench/assignment/Mutant")) (by decide) rfl rfl (g := (mkF m 6 #[.val (.ref o0), .val (.ref o1), .val (.ref o2)] [(.ref o1), (.ref o0)])) rfl rfl (hb hby d9_6)
  have f108 : Exa Z h107 o0 "com/example/scorebench/scorebench/grading/Grade$MutantVerdict" := E_o0.wr W107
  have f109 : Fld Z h107 o0 "com/example/scorebench/scorebench/grading/Grade$MutantVerdict" "verdict" "Lcom/example/scorebench/scorebench/grading/Verdict;" w_o0_verdict := F_o0_verdict.other W107 (Or.inr (slot_ne (Or.inr (hw _ (List.mem_of_getElem? (i := 62) rfl))) (Or.inr (hw _ (List.mem_of_getElem? (i := 60) rfl))) (by decide) (t := (.object "com/example/scorebench/scorebench/grading/Verdict")) (t' := (.object "com/example/scorebench/scorebench/assignment/Mutant")) (by decide) (by decide)))
  have f110 : Fld Z h107 o0 "com/example/scorebench/scorebench/grading/Grade$MutantVerdict" "mutant" "Lcom/example/scorebench/scorebench/assignment/Mutant;" (.ref o1) := F_o0_mutant.same W107
  have N111 := Fr.snoc X107 N106 g_o0
  have Z112 : n0 ≤ h107.size := Nat.le_trans Z0 (Keep.of_wr W107).1
  have K113 : Keep h0 h107 [o0] := K0.wr W107 (Or.inl (List.mem_of_getElem? (i := 0) rfl))
  refine own_go st107 ?_
  refine own_go (S' := T107.setTop (mkF m 11 #[.val (.ref o0), .val (.ref o1), .val (.ref o2)] [(.ref o2), (.ref o0)])) (fun t k => ?_) ?_
  · show Steps p.tables e below (T107.setTop (mkF m 9 #[.val (.ref o0), .val (.ref o1), .val (.ref o2)] [])) t
    refine XS.aloadN X107.here hx rfl (hb hby d9_9) rfl rfl ?_
    show Steps p.tables e below (T107.setTop (mkF m 10 #[.val (.ref o0), .val (.ref o1), .val (.ref o2)] [(.ref o0)])) t
    refine XS.aloadN X107.here hx rfl (hb hby d9_10) rfl rfl ?_
    exact k
  obtain ⟨T114, h114, X114, e114, W114, st114⟩ := putF X107 hx hZ hown (host := "") (Or.inl (hw _ (List.mem_of_getElem? (i := 61) rfl))) Via.refl e107 f109 f108 (Or.inr ⟨(hw _ (List.mem_of_getElem? (i := 62) rfl)), rfl, hnm⟩) (hw _ (List.mem_of_getElem? (i := 53) rfl)) (ty := (.object "com/example/scorebench/scorebench/grading/Verdict")) (by decide) rfl rfl (g := (mkF m 11 #[.val (.ref o0), .val (.ref o1), .val (.ref o2)] [(.ref o2), (.ref o0)])) rfl rfl (hb hby d9_11)
  have f115 : Exa Z h114 o0 "com/example/scorebench/scorebench/grading/Grade$MutantVerdict" := f108.wr W114
  have f116 : Fld Z h114 o0 "com/example/scorebench/scorebench/grading/Grade$MutantVerdict" "mutant" "Lcom/example/scorebench/scorebench/assignment/Mutant;" (.ref o1) := f110.other W114 (Or.inr (slot_ne (Or.inr (hw _ (List.mem_of_getElem? (i := 60) rfl))) (Or.inr (hw _ (List.mem_of_getElem? (i := 62) rfl))) (by decide) (t := (.object "com/example/scorebench/scorebench/assignment/Mutant")) (t' := (.object "com/example/scorebench/scorebench/grading/Verdict")) (by decide) (by decide)))
  have f117 : Fld Z h114 o0 "com/example/scorebench/scorebench/grading/Grade$MutantVerdict" "verdict" "Lcom/example/scorebench/scorebench/grading/Verdict;" (.ref o2) := f109.same W114
  have N118 := Fr.snoc X114 N111 g_o0
  have Z119 : n0 ≤ h114.size := Nat.le_trans Z112 (Keep.of_wr W114).1
  have K120 : Keep h0 h114 [o0] := K113.wr W114 (Or.inl (List.mem_of_getElem? (i := 0) rfl))
  refine own_go st114 ?_
  obtain ⟨fs, hr, hrun, hended, hW, hsame⟩ := X114.leave (v := none) (fun _ => rfl)
  refine own_end (v := none) ?_ hrun hended ?_ hW (hsame.mono (by decide) (by decide))
  · show Steps p.tables e below (T114.setTop (mkF m 14 #[.val (.ref o0), .val (.ref o1), .val (.ref o2)] [])) _
    exact X114.returnOut hx Bd.returns (hb hby d9_14) hr
  · show QmvInit Z o0 o1 o2 w_o0_mutant w_o0_verdict h0 n0 _ T114.heap _
    rw [e114]
    exact ⟨rfl, N118, K120, f115, f116, f117⟩
theorem d10_0 : decode prog_37_method_2_code 0 = .ok (.aload_n 0, 1) := by decide +kernel
theorem d10_1 : decode prog_37_method_2_code 1 = .ok (.getfield 13, 3) := by decide +kernel
theorem d10_4 : decode prog_37_method_2_code 4 = .ok (.getstatic 17, 3) := by decide +kernel
theorem d10_7 : decode prog_37_method_2_code 7 = .ok (.if_acmp .ne 7, 3) := by decide +kernel
theorem d10_10 : decode prog_37_method_2_code 10 = .ok (.iconst 1, 1) := by decide +kernel
theorem d10_11 : decode prog_37_method_2_code 11 = .ok (.goto 4, 3) := by decide +kernel
theorem d10_15 : decode prog_37_method_2_code 15 = .ok (.ireturn, 1) := by decide +kernel
theorem d10_14 : decode prog_37_method_2_code 14 = .ok (.iconst 0, 1) := by decide +kernel
theorem ef_caught (m : MethodId) (x0 : Addr) : entryFrame m #[(.ref x0)] 1 = mkF m 0 #[.val (.ref x0)] [] := by first | (simp [entryFrame, mkF, argsToLocals, Value.category]; done) | rfl
def caught_r (w_o0_verdict : Addr) (w_s_CAUGHT : Addr) : Int32 := (if w_o0_verdict = w_s_CAUGHT then (1 : Int32) else (0 : Int32))
def Qcaught (Z : State) (o0 : Addr) (w_o0_verdict : Addr) (w_s_CAUGHT : Addr) (h0 : Heap) (n0 : Nat) (v : Option Value) (h : Heap) (L : List Loc) : Prop := v = some (.int (caught_r w_o0_verdict w_s_CAUGHT)) ∧ Fr n0 L ∧ h = h0
set_option maxRecDepth 65536 in
set_option maxHeartbeats 40000000 in
theorem caught (l : Launch) (Z : State) (a0 : Array Value) (hw : ∀ d ∈ tables_1, d.before a0 Z = true) (ws : List Jvm.Cond) (o0 : Addr) (w_o0_verdict : Addr) (w_s_CAUGHT : Addr) (h0 : Heap) (n0 : Nat) (Z0 : n0 ≤ h0.size) (F_o0_verdict : Fld Z h0 o0 "com/example/scorebench/scorebench/grading/Grade$MutantVerdict" "verdict" "Lcom/example/scorebench/scorebench/grading/Verdict;" (.ref w_o0_verdict)) (S_CAUGHT : Sta Z h0 "com/example/scorebench/scorebench/grading/Verdict" "CAUGHT" "Lcom/example/scorebench/scorebench/grading/Verdict;" (.ref w_s_CAUGHT)) :
    MetFree l (⟨"com/example/scorebench/scorebench/grading/Grade$MutantVerdict", "caught", "()Z"⟩ : MethodName) (head1 (Jvm.Cond.code (⟨"com/example/scorebench/scorebench/grading/Grade$MutantVerdict", "caught", "()Z"⟩ : MethodName) prog_37_method_2_code 1 (some .boolean) :: ws) ({ frames := 0, cells := 0, slots := 0, locals := 0 } : Room)) (fun a U => a = #[(.ref o0)] ∧ Z.Warmed39 U.vm ∧ U.heap = h0) (fun _ _ _ _ _ => True) (fun _ U o U' => ∃ v L, o = .returned v ∧ Qcaught Z o0 w_o0_verdict w_s_CAUGHT h0 n0 v U'.heap L ∧ FrameEnd U o U' L ({ frames := 0, cells := 0, slots := 0, locals := 0 } : Room).cells ({ frames := 0, cells := 0, slots := 0, locals := 0 } : Room).slots) := by
  refine MetFree.of_bodySF (plainFor_of_name pn_125) hisR ?_
  intro p e s m args below meth c s₁ Bd hml0 hP hK
  obtain ⟨rfl, hZ, hh⟩ := hP
  have hx := Bd.exec
  have hby := Bd.bytes
  have hml : c.maxLocals = 1 := hml0
  have hown : s.vm.findClass "com/example/scorebench/scorebench/grading/Grade$MutantVerdict" = some m.cls := findClass_of_methodNamed Bd.named
  have hnm := (name_of_methodNamed Bd.named Bd.method).1
  have X0 : Stand p l e ({ frames := 0, cells := 0, slots := 0, locals := 0 } : Room) s m #[(.ref o0)] below meth c s₁ [] 0 0 := Stand.of_body Bd
  have e0 : s₁.heap = h0 := by rw [← hh, Bd.state]; rfl
  have N0 := Fr.nil n0
  show own_Go p e below s (Qcaught Z o0 w_o0_verdict w_s_CAUGHT h0 n0) ({ frames := 0, cells := 0, slots := 0, locals := 0 } : Room).cells ({ frames := 0, cells := 0, slots := 0, locals := 0 } : Room).slots (s₁.setTop (entryFrame m #[(.ref o0)] 1))
  rw [ef_caught m o0]
  have K0 : Keep h0 h0 [] := Keep.refl h0 []
  refine own_go (S' := s₁.setTop (mkF m 1 #[.val (.ref o0)] [(.ref o0)])) (fun t k => ?_) ?_
  · show Steps p.tables e below (s₁.setTop (mkF m 0 #[.val (.ref o0)] [])) t
    refine XS.aloadN X0.here hx rfl (hb hby d10_0) rfl rfl ?_
    exact k
  obtain ⟨T121, X121, e121, st121⟩ := getF X0 hx hZ hown (host := "") (Or.inl (hw _ (List.mem_of_getElem? (i := 61) rfl))) Via.refl e0 F_o0_verdict (g := (mkF m 1 #[.val (.ref o0)] [(.ref o0)])) rfl rfl (hb hby d10_1)
  refine own_go st121 ?_
  obtain ⟨T122, X122, e122, st122⟩ := getS2 X121 hx hZ hown (host := "") (Or.inl (hw _ (List.mem_of_getElem? (i := 68) rfl))) Via.refl e121 S_CAUGHT (g := (mkF m 4 #[.val (.ref o0)] [(.ref w_o0_verdict)])) rfl (hb hby d10_4)
  refine own_go st122 ?_
  by_cases hc7 : w_o0_verdict = w_s_CAUGHT
  · skip
    refine own_go (S' := T122.setTop (mkF m 15 #[.val (.ref o0)] [(.int (1 : Int32))])) (fun t k => ?_) ?_
    · show Steps p.tables e below (T122.setTop (mkF m 7 #[.val (.ref o0)] [(.ref w_s_CAUGHT), (.ref w_o0_verdict)])) t
      refine Jvm.RoadKit.acmp (g := (mkF m 7 #[.val (.ref o0)] [(.ref w_s_CAUGHT), (.ref w_o0_verdict)])) X122 hx rfl rfl rfl (pc0 := 7) (pc' := 10) (same := true) rfl (hb hby d10_7) rfl (decide_eq_true (congrArg Value.ref hc7)) (by decide) (by decide) ?_
      show Steps p.tables e below (T122.setTop (mkF m 10 #[.val (.ref o0)] [])) t
      refine XS.iconst X122.here hx rfl (hb hby d10_10) ?_
      show Steps p.tables e below (T122.setTop (mkF m 11 #[.val (.ref o0)] [(.int (1 : Int32))])) t
      refine XS.goto X122.here hx rfl (pc0 := 11) (pc' := 15) rfl (hb hby d10_11) (by decide) (by decide) ?_
      exact k
    obtain ⟨fs, hr, hrun, hended, hW, hsame⟩ := X122.leave (v := some (.int (1 : Int32))) (fun h => by rw [Bd.returns] at h; cases h)
    refine own_end (v := some (.int (1 : Int32))) ?_ hrun hended ?_ hW (hsame.mono (by decide) (by decide))
    · show Steps p.tables e below (T122.setTop (mkF m 15 #[.val (.ref o0)] [(.int (1 : Int32))])) _
      exact retN X122 hx (t := .boolean) Bd.returns (by simp) (hb hby d10_15) hr
    · show Qcaught Z o0 w_o0_verdict w_s_CAUGHT h0 n0 _ T122.heap _
      rw [e122]
      exact ⟨(by simp only [caught_r, if_pos hc7]), N0, rfl⟩
  · skip
    refine own_go (S' := T122.setTop (mkF m 15 #[.val (.ref o0)] [(.int (0 : Int32))])) (fun t k => ?_) ?_
    · show Steps p.tables e below (T122.setTop (mkF m 7 #[.val (.ref o0)] [(.ref w_s_CAUGHT), (.ref w_o0_verdict)])) t
      refine Jvm.RoadKit.acmp (g := (mkF m 7 #[.val (.ref o0)] [(.ref w_s_CAUGHT), (.ref w_o0_verdict)])) X122 hx rfl rfl rfl (pc0 := 7) (pc' := 14) (same := false) rfl (hb hby d10_7) rfl (decide_eq_false fun q => hc7 (Value.ref.inj q)) (by decide) (by decide) ?_
      show Steps p.tables e below (T122.setTop (mkF m 14 #[.val (.ref o0)] [])) t
      refine XS.iconst X122.here hx rfl (hb hby d10_14) ?_
      exact k
    obtain ⟨fs, hr, hrun, hended, hW, hsame⟩ := X122.leave (v := some (.int (0 : Int32))) (fun h => by rw [Bd.returns] at h; cases h)
    refine own_end (v := some (.int (0 : Int32))) ?_ hrun hended ?_ hW (hsame.mono (by decide) (by decide))
    · show Steps p.tables e below (T122.setTop (mkF m 15 #[.val (.ref o0)] [(.int (0 : Int32))])) _
      exact retN X122 hx (t := .boolean) Bd.returns (by simp) (hb hby d10_15) hr
    · show Qcaught Z o0 w_o0_verdict w_s_CAUGHT h0 n0 _ T122.heap _
      rw [e122]
      exact ⟨(by simp only [caught_r, if_neg hc7]), N0, rfl⟩
theorem own_fin (k : Int32) (w_s_ACCEPTED w_s_PRESENTATION_ERROR w_s_WRONG_ANSWER w_s_COMPILE_ERROR w_s_RUNTIME_ERROR w_s_TIME_LIMIT w_s_OUTPUT_LIMIT w_s_FILE_LIMIT w_s_MARKED w_s_SCRIPT_ERROR w_s_CAUGHT w_s_MISSED : Addr) (ne_ACCEPTED : w_s_ACCEPTED ≠ w_s_CAUGHT) (ne_PRESENTATION_ERROR : w_s_PRESENTATION_ERROR ≠ w_s_CAUGHT) (ne_WRONG_ANSWER : w_s_WRONG_ANSWER ≠ w_s_CAUGHT) (ne_COMPILE_ERROR : w_s_COMPILE_ERROR ≠ w_s_CAUGHT) (ne_RUNTIME_ERROR : w_s_RUNTIME_ERROR ≠ w_s_CAUGHT) (ne_TIME_LIMIT : w_s_TIME_LIMIT ≠ w_s_CAUGHT) (ne_OUTPUT_LIMIT : w_s_OUTPUT_LIMIT ≠ w_s_CAUGHT) (ne_FILE_LIMIT : w_s_FILE_LIMIT ≠ w_s_CAUGHT) (ne_MARKED : w_s_MARKED ≠ w_s_CAUGHT) (ne_SCRIPT_ERROR : w_s_SCRIPT_ERROR ≠ w_s_CAUGHT) (ne_MISSED : w_s_MISSED ≠ w_s_CAUGHT) : (if (caught_r (pick_r k w_s_ACCEPTED w_s_PRESENTATION_ERROR w_s_WRONG_ANSWER w_s_COMPILE_ERROR w_s_RUNTIME_ERROR w_s_TIME_LIMIT w_s_OUTPUT_LIMIT w_s_FILE_LIMIT w_s_MARKED w_s_SCRIPT_ERROR w_s_CAUGHT w_s_MISSED) w_s_CAUGHT) = (if k = (10 : Int32) then (1 : Int32) else (0 : Int32)) then (1 : Int32) else (0 : Int32)) = (1 : Int32) := by
  unfold pick_r caught_r
  by_cases c0 : k = 0
  · subst c0; simp [ne_ACCEPTED]
  by_cases c1 : k = 1
  · subst c1; simp [ne_PRESENTATION_ERROR]
  by_cases c2 : k = 2
  · subst c2; simp [ne_WRONG_ANSWER]
  by_cases c3 : k = 3
  · subst c3; simp [ne_COMPILE_ERROR]
  by_cases c4 : k = 4
  · subst c4; simp [ne_RUNTIME_ERROR]
  by_cases c5 : k = 5
  · subst c5; simp [ne_TIME_LIMIT]
  by_cases c6 : k = 6
  · subst c6; simp [ne_OUTPUT_LIMIT]
  by_cases c7 : k = 7
  · subst c7; simp [ne_FILE_LIMIT]
  by_cases c8 : k = 8
  · subst c8; simp [ne_MARKED]
  by_cases c9 : k = 9
  · subst c9; simp [ne_SCRIPT_ERROR]
  by_cases c10 : k = 10
  · subst c10; simp
  · simp [c0, c1, c2, c3, c4, c5, c6, c7, c8, c9, c10, ne_MISSED]
theorem pd_134 : parseMethodDescriptor "(I)Lcom/example/scorebench/scorebench/grading/Verdict;" = some ⟨[.int], some (.object "com/example/scorebench/scorebench/grading/Verdict")⟩ := by decide +kernel
theorem pd_135 : parseMethodDescriptor "(C)Ljava/lang/String;" = some ⟨[.char], some (.object "java/lang/String")⟩ := by decide +kernel
theorem pd_136 : parseMethodDescriptor "(Ljava/lang/String;JLjava/lang/String;)V" = some ⟨[(.object "java/lang/String"), .long, (.object "java/lang/String")], none⟩ := by decide +kernel
theorem pd_137 : parseMethodDescriptor "(Lcom/example/scorebench/scorebench/assignment/Mutant;Lcom/example/scorebench/scorebench/grading/Verdict;)V" = some ⟨[(.object "com/example/scorebench/scorebench/assignment/Mutant"), (.object "com/example/scorebench/scorebench/grading/Verdict")], none⟩ := by decide +kernel
theorem pd_138 : parseMethodDescriptor "()Z" = some ⟨[], some .boolean⟩ := by decide +kernel
theorem ef_rm0 (m : MethodId) (x0 : Int32) (x1 : Int32) (x2 : Int64) : entryFrame m #[(.int x0), (.int x1), (.long x2)] maxLocals = mkF m 0 #[.val (.int x0), .val (.int x1), .val (.long x2), .second, .unset, .unset, .unset, .unset, .unset, .unset, .unset] [] := by first | (simp [entryFrame, mkF, argsToLocals, Value.category, maxLocals]; done) | rfl
def Qrm0 (Z : State) (p0 : Int32) (p1 : Int32) (q2 : Int64) (w_s_ACCEPTED : Addr) (w_s_PRESENTATION_ERROR : Addr) (w_s_WRONG_ANSWER : Addr) (w_s_COMPILE_ERROR : Addr) (w_s_RUNTIME_ERROR : Addr) (w_s_TIME_LIMIT : Addr) (w_s_OUTPUT_LIMIT : Addr) (w_s_FILE_LIMIT : Addr) (w_s_MARKED : Addr) (w_s_SCRIPT_ERROR : Addr) (w_s_CAUGHT : Addr) (w_s_MISSED : Addr) (w_s_COMPACT_STRINGS : Int32) (h0 : Heap) (n0 : Nat) (v : Option Value) (h : Heap) (L : List Loc) : Prop := v = some (.int 1) ∧ Fr n0 L
set_option maxRecDepth 65536 in
set_option maxHeartbeats 40000000 in
theorem rm0 (l : Launch) (Z : State) (a0 : Array Value) (hw : ∀ d ∈ tables_1, d.before a0 Z = true) (ws : List Jvm.Cond) (p0 : Int32) (p1 : Int32) (q2 : Int64) (w_s_ACCEPTED : Addr) (w_s_PRESENTATION_ERROR : Addr) (w_s_WRONG_ANSWER : Addr) (w_s_COMPILE_ERROR : Addr) (w_s_RUNTIME_ERROR : Addr) (w_s_TIME_LIMIT : Addr) (w_s_OUTPUT_LIMIT : Addr) (w_s_FILE_LIMIT : Addr) (w_s_MARKED : Addr) (w_s_SCRIPT_ERROR : Addr) (w_s_CAUGHT : Addr) (w_s_MISSED : Addr) (w_s_COMPACT_STRINGS : Int32) (h0 : Heap) (n0 : Nat) (Z0 : n0 ≤ h0.size) (ne_ACCEPTED : w_s_ACCEPTED ≠ w_s_CAUGHT) (ne_PRESENTATION_ERROR : w_s_PRESENTATION_ERROR ≠ w_s_CAUGHT) (ne_WRONG_ANSWER : w_s_WRONG_ANSWER ≠ w_s_CAUGHT) (ne_COMPILE_ERROR : w_s_COMPILE_ERROR ≠ w_s_CAUGHT) (ne_RUNTIME_ERROR : w_s_RUNTIME_ERROR ≠ w_s_CAUGHT) (ne_TIME_LIMIT : w_s_TIME_LIMIT ≠ w_s_CAUGHT) (ne_OUTPUT_LIMIT : w_s_OUTPUT_LIMIT ≠ w_s_CAUGHT) (ne_FILE_LIMIT : w_s_FILE_LIMIT ≠ w_s_CAUGHT) (ne_MARKED : w_s_MARKED ≠ w_s_CAUGHT) (ne_SCRIPT_ERROR : w_s_SCRIPT_ERROR ≠ w_s_CAUGHT) (ne_MISSED : w_s_MISSED ≠ w_s_CAUGHT) (hcs : ¬ (w_s_COMPACT_STRINGS = (0 : Int32))) (S_ACCEPTED : Sta Z h0 "com/example/scorebench/scorebench/grading/Verdict" "ACCEPTED" "Lcom/example/scorebench/scorebench/grading/Verdict;" (.ref w_s_ACCEPTED)) (S_PRESENTATION_ERROR : Sta Z h0 "com/example/scorebench/scorebench/grading/Verdict" "PRESENTATION_ERROR" "Lcom/example/scorebench/scorebench/grading/Verdict;" (.ref w_s_PRESENTATION_ERROR)) (S_WRONG_ANSWER : Sta Z h0 "com/example/scorebench/scorebench/grading/Verdict" "WRONG_ANSWER" "Lcom/example/scorebench/scorebench/grading/Verdict;" (.ref w_s_WRONG_ANSWER)) (S_COMPILE_ERROR : Sta Z h0 "com/example/scorebench/scorebench/grading/Verdict" "COMPILE_ERROR" "Lcom/example/scorebench/scorebench/grading/Verdict;" (.ref w_s_COMPILE_ERROR)) (S_RUNTIME_ERROR : Sta Z h0 "com/example/scorebench/scorebench/grading/Verdict" "RUNTIME_ERROR" "Lcom/example/scorebench/scorebench/grading/Verdict;" (.ref w_s_RUNTIME_ERROR)) (S_TIME_LIMIT : Sta Z h0 "com/example/scorebench/scorebench/grading/Verdict" "TIME_LIMIT" "Lcom/example/scorebench/scorebench/grading/Verdict;" (.ref w_s_TIME_LIMIT)) (S_OUTPUT_LIMIT : Sta Z h0 "com/example/scorebench/scorebench/grading/Verdict" "OUTPUT_LIMIT" "Lcom/example/scorebench/scorebench/grading/Verdict;" (.ref w_s_OUTPUT_LIMIT)) (S_FILE_LIMIT : Sta Z h0 "com/example/scorebench/scorebench/grading/Verdict" "FILE_LIMIT" "Lcom/example/scorebench/scorebench/grading/Verdict;" (.ref w_s_FILE_LIMIT)) (S_MARKED : Sta Z h0 "com/example/scorebench/scorebench/grading/Verdict" "MARKED" "Lcom/example/scorebench/scorebench/grading/Verdict;" (.ref w_s_MARKED)) (S_SCRIPT_ERROR : Sta Z h0 "com/example/scorebench/scorebench/grading/Verdict" "SCRIPT_ERROR" "Lcom/example/scorebench/scorebench/grading/Verdict;" (.ref w_s_SCRIPT_ERROR)) (S_CAUGHT : Sta Z h0 "com/example/scorebench/scorebench/grading/Verdict" "CAUGHT" "Lcom/example/scorebench/scorebench/grading/Verdict;" (.ref w_s_CAUGHT)) (S_MISSED : Sta Z h0 "com/example/scorebench/scorebench/grading/Verdict" "MISSED" "Lcom/example/scorebench/scorebench/grading/Verdict;" (.ref w_s_MISSED)) (S_COMPACT_STRINGS : Sta Z h0 "java/lang/String" "COMPACT_STRINGS" "Z" (.int w_s_COMPACT_STRINGS)) :
    MetFree l x (head1 (Jvm.Cond.code x code maxLocals ret :: ws) room_1) (fun a U => a = #[(.int p0), (.int p1), (.long q2)] ∧ Z.Warmed39 U.vm ∧ U.heap = h0) (fun _ _ _ _ _ => True) (fun _ U o U' => ∃ v L, o = .returned v ∧ Qrm0 Z p0 p1 q2 w_s_ACCEPTED w_s_PRESENTATION_ERROR w_s_WRONG_ANSWER w_s_COMPILE_ERROR w_s_RUNTIME_ERROR w_s_TIME_LIMIT w_s_OUTPUT_LIMIT w_s_FILE_LIMIT w_s_MARKED w_s_SCRIPT_ERROR w_s_CAUGHT w_s_MISSED w_s_COMPACT_STRINGS h0 n0 v U'.heap L ∧ FrameEnd U o U' L room_1.cells room_1.slots) := by
  refine MetFree.of_bodySF (plainFor_of_name pn_56) hisR ?_
  intro p e s m args below meth c s₁ Bd hml0 hP hK
  obtain ⟨rfl, hZ, hh⟩ := hP
  have hx := Bd.exec
  have hby := Bd.bytes
  have hml : c.maxLocals = 11 := hml0
  have hown : s.vm.findClass "com/example/scorebench/scorebench/grading/MutantVerdictCaughtPinLaw" = some m.cls := findClass_of_methodNamed Bd.named
  have hnm := (name_of_methodNamed Bd.named Bd.method).1
  have X0 : Stand p l e room_1 s m #[(.int p0), (.int p1), (.long q2)] below meth c s₁ [] 0 0 := Stand.of_body Bd
  have e0 : s₁.heap = h0 := by rw [← hh, Bd.state]; rfl
  have N0 := Fr.nil n0
  show own_Go p e below s (Qrm0 Z p0 p1 q2 w_s_ACCEPTED w_s_PRESENTATION_ERROR w_s_WRONG_ANSWER w_s_COMPILE_ERROR w_s_RUNTIME_ERROR w_s_TIME_LIMIT w_s_OUTPUT_LIMIT w_s_FILE_LIMIT w_s_MARKED w_s_SCRIPT_ERROR w_s_CAUGHT w_s_MISSED w_s_COMPACT_STRINGS h0 n0) room_1.cells room_1.slots (s₁.setTop (entryFrame m #[(.int p0), (.int p1), (.long q2)] maxLocals))
  rw [ef_rm0 m p0 p1 q2]
  refine own_go (S' := s₁.setTop (mkF m 11 #[.val (.int p0), .val (.int p1), .val (.long q2), .second, .val (.int ((p0 &&& (2147483647 : Int32)) % (12 : Int32))), .unset, .unset, .unset, .unset, .unset, .unset] [(.int ((p0 &&& (2147483647 : Int32)) % (12 : Int32)))])) (fun t k => ?_) ?_
  · show Steps p.tables e below (s₁.setTop (mkF m 0 #[.val (.int p0), .val (.int p1), .val (.long q2), .second, .unset, .unset, .unset, .unset, .unset, .unset, .unset] [])) t
    refine XS.iloadN X0.here hx rfl (hb hby at_0) rfl ?_
    show Steps p.tables e below (s₁.setTop (mkF m 1 #[.val (.int p0), .val (.int p1), .val (.long q2), .second, .unset, .unset, .unset, .unset, .unset, .unset, .unset] [(.int p0)])) t
    refine X0.ldcInt hx hown (mvT hZ (hw _ (List.mem_of_getElem? (i := 0) rfl))) (g := (mkF m 1 #[.val (.int p0), .val (.int p1), .val (.long q2), .second, .unset, .unset, .unset, .unset, .unset, .unset, .unset] [(.int p0)])) rfl (hb hby at_1) _ ?_
    show Steps p.tables e below (s₁.setTop (mkF m 3 #[.val (.int p0), .val (.int p1), .val (.long q2), .second, .unset, .unset, .unset, .unset, .unset, .unset, .unset] [(.int (2147483647 : Int32)), (.int p0)])) t
    refine XS.iand X0.here hx rfl (hb hby at_3) rfl ?_
    show Steps p.tables e below (s₁.setTop (mkF m 4 #[.val (.int p0), .val (.int p1), .val (.long q2), .second, .unset, .unset, .unset, .unset, .unset, .unset, .unset] [(.int (p0 &&& (2147483647 : Int32)))])) t
    refine XS.bipush X0.here hx rfl (hb hby at_4) ?_
    show Steps p.tables e below (s₁.setTop (mkF m 6 #[.val (.int p0), .val (.int p1), .val (.long q2), .second, .unset, .unset, .unset, .unset, .unset, .unset, .unset] [(.int (12 : Int32)), (.int (p0 &&& (2147483647 : Int32)))])) t
    refine iremM X0 hx rfl (hb hby at_6) rfl (by decide) ?_
    show Steps p.tables e below (s₁.setTop (mkF m 7 #[.val (.int p0), .val (.int p1), .val (.long q2), .second, .unset, .unset, .unset, .unset, .unset, .unset, .unset] [(.int ((p0 &&& (2147483647 : Int32)) % (12 : Int32)))])) t
    refine XS.istore X0.here hx rfl (hb hby at_7) rfl (l' := #[.val (.int p0), .val (.int p1), .val (.long q2), .second, .val (.int ((p0 &&& (2147483647 : Int32)) % (12 : Int32))), .unset, .unset, .unset, .unset, .unset, .unset]) rfl ?_
    show Steps p.tables e below (s₁.setTop (mkF m 9 #[.val (.int p0), .val (.int p1), .val (.long q2), .second, .val (.int ((p0 &&& (2147483647 : Int32)) % (12 : Int32))), .unset, .unset, .unset, .unset, .unset, .unset] [])) t
    refine XS.iload X0.here hx rfl (hb hby at_9) rfl ?_
    exact k
  obtain ⟨_, _, ⟨T123, L123, kk123, nn123⟩, -, X123, ⟨Lc123, hQ123, l123, y123, z123⟩, st123⟩ := Jvm.LawKit.callS X0 hx (y := (⟨"com/example/scorebench/scorebench/grading/MutantVerdictCaughtPinLaw", "pick", "(I)Lcom/example/scorebench/scorebench/grading/Verdict;"⟩ : MethodName)) hown (mvT hZ (hw _ (List.mem_of_getElem? (i := 1) rfl))) (mvT hZ (hw _ (List.mem_of_getElem? (i := 2) rfl))) (mvT hZ (hw _ (List.mem_of_getElem? (i := 3) rfl))) (mvT hZ (hw _ (List.mem_of_getElem? (i := 4) rfl))) (by decide) (backOf (W := 0) (pick l Z a0 hw [] ((p0 &&& (2147483647 : Int32)) % (12 : Int32)) w_s_ACCEPTED w_s_PRESENTATION_ERROR w_s_WRONG_ANSWER w_s_COMPILE_ERROR w_s_RUNTIME_ERROR w_s_TIME_LIMIT w_s_OUTPUT_LIMIT w_s_FILE_LIMIT w_s_MARKED w_s_SCRIPT_ERROR w_s_CAUGHT w_s_MISSED h0 n0 Z0 S_ACCEPTED S_PRESENTATION_ERROR S_WRONG_ANSWER S_COMPILE_ERROR S_RUNTIME_ERROR S_TIME_LIMIT S_OUTPUT_LIMIT S_FILE_LIMIT S_MARKED S_SCRIPT_ERROR S_CAUGHT S_MISSED) hZ (hw _ (List.mem_of_getElem? (i := 4) rfl)) (hw _ (List.mem_of_getElem? (i := 3) rfl)) (by decide) (by decide)) (g := (mkF m 11 #[.val (.int p0), .val (.int p1), .val (.long q2), .second, .val (.int ((p0 &&& (2147483647 : Int32)) % (12 : Int32))), .unset, .unset, .unset, .unset, .unset, .unset] [(.int ((p0 &&& (2147483647 : Int32)) % (12 : Int32)))])) rfl (by rw [hml]; rfl) (argsL := [(.int ((p0 &&& (2147483647 : Int32)) % (12 : Int32)))]) (rest := []) (lenOf pd_134 rfl) rfl (by show 2 * 0 + _ ≤ _; exact Nat.le_of_eq rfl) (hb hby at_11) (fun _ _ => ⟨rfl, e0, (by decide : 0 + 0 ≤ _), (by decide : 0 + 0 ≤ _)⟩)
  dsimp only [Pt.U, Pt.locs, Pt.cells, Pt.slots] at X123 l123 y123 z123 st123 hQ123
  subst l123 y123 z123
  obtain ⟨rfl, N124, e123⟩ := hQ123
  have N126 := Fr.app N0 N124
  refine own_go st123 ?_
  refine own_go (S' := T123.setTop (mkF m 22 #[.val (.int p0), .val (.int p1), .val (.long q2), .second, .val (.int ((p0 &&& (2147483647 : Int32)) % (12 : Int32))), .val (.ref (pick_r ((p0 &&& (2147483647 : Int32)) % (12 : Int32)) w_s_ACCEPTED w_s_PRESENTATION_ERROR w_s_WRONG_ANSWER w_s_COMPILE_ERROR w_s_RUNTIME_ERROR w_s_TIME_LIMIT w_s_OUTPUT_LIMIT w_s_FILE_LIMIT w_s_MARKED w_s_SCRIPT_ERROR w_s_CAUGHT w_s_MISSED)), .unset, .unset, .unset, .unset, .unset] [(.int ((p1 &&& (255 : Int32)).toUInt32.toUInt16.toUInt32.toInt32))])) (fun t k => ?_) ?_
  · show Steps p.tables e below (T123.setTop (mkF m 14 #[.val (.int p0), .val (.int p1), .val (.long q2), .second, .val (.int ((p0 &&& (2147483647 : Int32)) % (12 : Int32))), .unset, .unset, .unset, .unset, .unset, .unset] [(.ref (pick_r ((p0 &&& (2147483647 : Int32)) % (12 : Int32)) w_s_ACCEPTED w_s_PRESENTATION_ERROR w_s_WRONG_ANSWER w_s_COMPILE_ERROR w_s_RUNTIME_ERROR w_s_TIME_LIMIT w_s_OUTPUT_LIMIT w_s_FILE_LIMIT w_s_MARKED w_s_SCRIPT_ERROR w_s_CAUGHT w_s_MISSED))])) t
    refine XS.astore X123.here hx rfl (hb hby at_14) rfl rfl (l' := #[.val (.int p0), .val (.int p1), .val (.long q2), .second, .val (.int ((p0 &&& (2147483647 : Int32)) % (12 : Int32))), .val (.ref (pick_r ((p0 &&& (2147483647 : Int32)) % (12 : Int32)) w_s_ACCEPTED w_s_PRESENTATION_ERROR w_s_WRONG_ANSWER w_s_COMPILE_ERROR w_s_RUNTIME_ERROR w_s_TIME_LIMIT w_s_OUTPUT_LIMIT w_s_FILE_LIMIT w_s_MARKED w_s_SCRIPT_ERROR w_s_CAUGHT w_s_MISSED)), .unset, .unset, .unset, .unset, .unset]) rfl ?_
    show Steps p.tables e below (T123.setTop (mkF m 16 #[.val (.int p0), .val (.int p1), .val (.long q2), .second, .val (.int ((p0 &&& (2147483647 : Int32)) % (12 : Int32))), .val (.ref (pick_r ((p0 &&& (2147483647 : Int32)) % (12 : Int32)) w_s_ACCEPTED w_s_PRESENTATION_ERROR w_s_WRONG_ANSWER w_s_COMPILE_ERROR w_s_RUNTIME_ERROR w_s_TIME_LIMIT w_s_OUTPUT_LIMIT w_s_FILE_LIMIT w_s_MARKED w_s_SCRIPT_ERROR w_s_CAUGHT w_s_MISSED)), .unset, .unset, .unset, .unset, .unset] [])) t
    refine XS.iloadN X123.here hx rfl (hb hby at_16) rfl ?_
    show Steps p.tables e below (T123.setTop (mkF m 17 #[.val (.int p0), .val (.int p1), .val (.long q2), .second, .val (.int ((p0 &&& (2147483647 : Int32)) % (12 : Int32))), .val (.ref (pick_r ((p0 &&& (2147483647 : Int32)) % (12 : Int32)) w_s_ACCEPTED w_s_PRESENTATION_ERROR w_s_WRONG_ANSWER w_s_COMPILE_ERROR w_s_RUNTIME_ERROR w_s_TIME_LIMIT w_s_OUTPUT_LIMIT w_s_FILE_LIMIT w_s_MARKED w_s_SCRIPT_ERROR w_s_CAUGHT w_s_MISSED)), .unset, .unset, .unset, .unset, .unset] [(.int p1)])) t
    refine XS.sipush X123.here hx rfl (hb hby at_17) ?_
    show Steps p.tables e below (T123.setTop (mkF m 20 #[.val (.int p0), .val (.int p1), .val (.long q2), .second, .val (.int ((p0 &&& (2147483647 : Int32)) % (12 : Int32))), .val (.ref (pick_r ((p0 &&& (2147483647 : Int32)) % (12 : Int32)) w_s_ACCEPTED w_s_PRESENTATION_ERROR w_s_WRONG_ANSWER w_s_COMPILE_ERROR w_s_RUNTIME_ERROR w_s_TIME_LIMIT w_s_OUTPUT_LIMIT w_s_FILE_LIMIT w_s_MARKED w_s_SCRIPT_ERROR w_s_CAUGHT w_s_MISSED)), .unset, .unset, .unset, .unset, .unset] [(.int (255 : Int32)), (.int p1)])) t
    refine XS.iand X123.here hx rfl (hb hby at_20) rfl ?_
    show Steps p.tables e below (T123.setTop (mkF m 21 #[.val (.int p0), .val (.int p1), .val (.long q2), .second, .val (.int ((p0 &&& (2147483647 : Int32)) % (12 : Int32))), .val (.ref (pick_r ((p0 &&& (2147483647 : Int32)) % (12 : Int32)) w_s_ACCEPTED w_s_PRESENTATION_ERROR w_s_WRONG_ANSWER w_s_COMPILE_ERROR w_s_RUNTIME_ERROR w_s_TIME_LIMIT w_s_OUTPUT_LIMIT w_s_FILE_LIMIT w_s_MARKED w_s_SCRIPT_ERROR w_s_CAUGHT w_s_MISSED)), .unset, .unset, .unset, .unset, .unset] [(.int (p1 &&& (255 : Int32)))])) t
    refine XS.i2c X123.here hx rfl (hb hby at_21) rfl ?_
    exact k
  obtain ⟨_, _, ⟨T127, L127, kk127, nn127⟩, -, X127, ⟨Lc127, hQ127, l127, y127, z127⟩, st127⟩ := Jvm.LawKit.callS X123 hx (y := (⟨"java/lang/String", "valueOf", "(C)Ljava/lang/String;"⟩ : MethodName)) hown (mvT hZ (hw _ (List.mem_of_getElem? (i := 8) rfl))) (mvT hZ (hw _ (List.mem_of_getElem? (i := 9) rfl))) (mvT hZ (hw _ (List.mem_of_getElem? (i := 10) rfl))) (mvT hZ (hw _ (List.mem_of_getElem? (i := 11) rfl))) (by decide) (backOf (W := 0) (valueOf l Z a0 hw [] ((p1 &&& (255 : Int32)).toUInt32.toUInt16.toUInt32.toInt32) w_s_COMPACT_STRINGS h0 n0 Z0 S_COMPACT_STRINGS (hcs : ¬ (w_s_COMPACT_STRINGS = (0 : Int32))) (own_enc _ : ¬ ((canEnc_r ((p1 &&& (255 : Int32)).toUInt32.toUInt16.toUInt32.toInt32)) = (0 : Int32)))) hZ (hw _ (List.mem_of_getElem? (i := 11) rfl)) (hw _ (List.mem_of_getElem? (i := 10) rfl)) (by decide) (by decide)) (g := (mkF m 22 #[.val (.int p0), .val (.int p1), .val (.long q2), .second, .val (.int ((p0 &&& (2147483647 : Int32)) % (12 : Int32))), .val (.ref (pick_r ((p0 &&& (2147483647 : Int32)) % (12 : Int32)) w_s_ACCEPTED w_s_PRESENTATION_ERROR w_s_WRONG_ANSWER w_s_COMPILE_ERROR w_s_RUNTIME_ERROR w_s_TIME_LIMIT w_s_OUTPUT_LIMIT w_s_FILE_LIMIT w_s_MARKED w_s_SCRIPT_ERROR w_s_CAUGHT w_s_MISSED)), .unset, .unset, .unset, .unset, .unset] [(.int ((p1 &&& (255 : Int32)).toUInt32.toUInt16.toUInt32.toInt32))])) rfl (by rw [hml]; rfl) (argsL := [(.int ((p1 &&& (255 : Int32)).toUInt32.toUInt16.toUInt32.toInt32))]) (rest := []) (lenOf pd_135 rfl) rfl (by show 2 * 0 + _ ≤ _; exact Nat.le_of_eq rfl) (hb hby at_22) (fun _ _ => ⟨rfl, e123, (by decide : 0 + 2 ≤ _), (by decide : 0 + 5 ≤ _)⟩)
  dsimp only [Pt.U, Pt.locs, Pt.cells, Pt.slots] at X127 l127 y127 z127 st127 hQ127
  subst l127 y127 z127
  obtain ⟨b128, rfl, N129, K130, p131, p132⟩ := hQ127
  have N133 := Fr.app N126 N129
  have g_b128 : n0 ≤ b128 := Nat.le_trans Z0 p131
  have f134 : Sta Z T127.heap "com/example/scorebench/scorebench/grading/Verdict" "ACCEPTED" "Lcom/example/scorebench/scorebench/grading/Verdict;" (.ref w_s_ACCEPTED) := own_sta_keep S_ACCEPTED K130 all0
  have f135 : Sta Z T127.heap "com/example/scorebench/scorebench/grading/Verdict" "PRESENTATION_ERROR" "Lcom/example/scorebench/scorebench/grading/Verdict;" (.ref w_s_PRESENTATION_ERROR) := own_sta_keep S_PRESENTATION_ERROR K130 all0
  have f136 : Sta Z T127.heap "com/example/scorebench/scorebench/grading/Verdict" "WRONG_ANSWER" "Lcom/example/scorebench/scorebench/grading/Verdict;" (.ref w_s_WRONG_ANSWER) := own_sta_keep S_WRONG_ANSWER K130 all0
  have f137 : Sta Z T127.heap "com/example/scorebench/scorebench/grading/Verdict" "COMPILE_ERROR" "Lcom/example/scorebench/scorebench/grading/Verdict;" (.ref w_s_COMPILE_ERROR) := own_sta_keep S_COMPILE_ERROR K130 all0
  have f138 : Sta Z T127.heap "com/example/scorebench/scorebench/grading/Verdict" "RUNTIME_ERROR" "Lcom/example/scorebench/scorebench/grading/Verdict;" (.ref w_s_RUNTIME_ERROR) := own_sta_keep S_RUNTIME_ERROR K130 all0
  have f139 : Sta Z T127.heap "com/example/scorebench/scorebench/grading/Verdict" "TIME_LIMIT" "Lcom/example/scorebench/scorebench/grading/Verdict;" (.ref w_s_TIME_LIMIT) := own_sta_keep S_TIME_LIMIT K130 all0
  have f140 : Sta Z T127.heap "com/example/scorebench/scorebench/grading/Verdict" "OUTPUT_LIMIT" "Lcom/example/scorebench/scorebench/grading/Verdict;" (.ref w_s_OUTPUT_LIMIT) := own_sta_keep S_OUTPUT_LIMIT K130 all0
  have f141 : Sta Z T127.heap "com/example/scorebench/scorebench/grading/Verdict" "FILE_LIMIT" "Lcom/example/scorebench/scorebench/grading/Verdict;" (.ref w_s_FILE_LIMIT) := own_sta_keep S_FILE_LIMIT K130 all0
  have f142 : Sta Z T127.heap "com/example/scorebench/scorebench/grading/Verdict" "MARKED" "Lcom/example/scorebench/scorebench/grading/Verdict;" (.ref w_s_MARKED) := own_sta_keep S_MARKED K130 all0
  have f143 : Sta Z T127.heap "com/example/scorebench/scorebench/grading/Verdict" "SCRIPT_ERROR" "Lcom/example/scorebench/scorebench/grading/Verdict;" (.ref w_s_SCRIPT_ERROR) := own_sta_keep S_SCRIPT_ERROR K130 all0
  have f144 : Sta Z T127.heap "com/example/scorebench/scorebench/grading/Verdict" "CAUGHT" "Lcom/example/scorebench/scorebench/grading/Verdict;" (.ref w_s_CAUGHT) := own_sta_keep S_CAUGHT K130 all0
  have f145 : Sta Z T127.heap "com/example/scorebench/scorebench/grading/Verdict" "MISSED" "Lcom/example/scorebench/scorebench/grading/Verdict;" (.ref w_s_MISSED) := own_sta_keep S_MISSED K130 all0
  have f146 : Sta Z T127.heap "java/lang/String" "COMPACT_STRINGS" "Z" (.int w_s_COMPACT_STRINGS) := own_sta_keep S_COMPACT_STRINGS K130 all0
  have Z147 : n0 ≤ T127.heap.size := Nat.le_trans Z0 K130.1
  refine own_go st127 ?_
  refine own_go (S' := T127.setTop (mkF m 36 #[.val (.int p0), .val (.int p1), .val (.long q2), .second, .val (.int ((p0 &&& (2147483647 : Int32)) % (12 : Int32))), .val (.ref (pick_r ((p0 &&& (2147483647 : Int32)) % (12 : Int32)) w_s_ACCEPTED w_s_PRESENTATION_ERROR w_s_WRONG_ANSWER w_s_COMPILE_ERROR w_s_RUNTIME_ERROR w_s_TIME_LIMIT w_s_OUTPUT_LIMIT w_s_FILE_LIMIT w_s_MARKED w_s_SCRIPT_ERROR w_s_CAUGHT w_s_MISSED)), .val (.ref b128), .unset, .unset, .unset, .unset] [(.int (((Jvm.Free.XT.ushr p1 (8 : Int32)) &&& (255 : Int32)).toUInt32.toUInt16.toUInt32.toInt32))])) (fun t k => ?_) ?_
  · show Steps p.tables e below (T127.setTop (mkF m 25 #[.val (.int p0), .val (.int p1), .val (.long q2), .second, .val (.int ((p0 &&& (2147483647 : Int32)) % (12 : Int32))), .val (.ref (pick_r ((p0 &&& (2147483647 : Int32)) % (12 : Int32)) w_s_ACCEPTED w_s_PRESENTATION_ERROR w_s_WRONG_ANSWER w_s_COMPILE_ERROR w_s_RUNTIME_ERROR w_s_TIME_LIMIT w_s_OUTPUT_LIMIT w_s_FILE_LIMIT w_s_MARKED w_s_SCRIPT_ERROR w_s_CAUGHT w_s_MISSED)), .unset, .unset, .unset, .unset, .unset] [(.ref b128)])) t
    refine XS.astore X127.here hx rfl (hb hby at_25) rfl rfl (l' := #[.val (.int p0), .val (.int p1), .val (.long q2), .second, .val (.int ((p0 &&& (2147483647 : Int32)) % (12 : Int32))), .val (.ref (pick_r ((p0 &&& (2147483647 : Int32)) % (12 : Int32)) w_s_ACCEPTED w_s_PRESENTATION_ERROR w_s_WRONG_ANSWER w_s_COMPILE_ERROR w_s_RUNTIME_ERROR w_s_TIME_LIMIT w_s_OUTPUT_LIMIT w_s_FILE_LIMIT w_s_MARKED w_s_SCRIPT_ERROR w_s_CAUGHT w_s_MISSED)), .val (.ref b128), .unset, .unset, .unset, .unset]) rfl ?_
    show Steps p.tables e below (T127.setTop (mkF m 27 #[.val (.int p0), .val (.int p1), .val (.long q2), .second, .val (.int ((p0 &&& (2147483647 : Int32)) % (12 : Int32))), .val (.ref (pick_r ((p0 &&& (2147483647 : Int32)) % (12 : Int32)) w_s_ACCEPTED w_s_PRESENTATION_ERROR w_s_WRONG_ANSWER w_s_COMPILE_ERROR w_s_RUNTIME_ERROR w_s_TIME_LIMIT w_s_OUTPUT_LIMIT w_s_FILE_LIMIT w_s_MARKED w_s_SCRIPT_ERROR w_s_CAUGHT w_s_MISSED)), .val (.ref b128), .unset, .unset, .unset, .unset] [])) t
    refine XS.iloadN X127.here hx rfl (hb hby at_27) rfl ?_
    show Steps p.tables e below (T127.setTop (mkF m 28 #[.val (.int p0), .val (.int p1), .val (.long q2), .second, .val (.int ((p0 &&& (2147483647 : Int32)) % (12 : Int32))), .val (.ref (pick_r ((p0 &&& (2147483647 : Int32)) % (12 : Int32)) w_s_ACCEPTED w_s_PRESENTATION_ERROR w_s_WRONG_ANSWER w_s_COMPILE_ERROR w_s_RUNTIME_ERROR w_s_TIME_LIMIT w_s_OUTPUT_LIMIT w_s_FILE_LIMIT w_s_MARKED w_s_SCRIPT_ERROR w_s_CAUGHT w_s_MISSED)), .val (.ref b128), .unset, .unset, .unset, .unset] [(.int p1)])) t
    refine XS.bipush X127.here hx rfl (hb hby at_28) ?_
    show Steps p.tables e below (T127.setTop (mkF m 30 #[.val (.int p0), .val (.int p1), .val (.long q2), .second, .val (.int ((p0 &&& (2147483647 : Int32)) % (12 : Int32))), .val (.ref (pick_r ((p0 &&& (2147483647 : Int32)) % (12 : Int32)) w_s_ACCEPTED w_s_PRESENTATION_ERROR w_s_WRONG_ANSWER w_s_COMPILE_ERROR w_s_RUNTIME_ERROR w_s_TIME_LIMIT w_s_OUTPUT_LIMIT w_s_FILE_LIMIT w_s_MARKED w_s_SCRIPT_ERROR w_s_CAUGHT w_s_MISSED)), .val (.ref b128), .unset, .unset, .unset, .unset] [(.int (8 : Int32)), (.int p1)])) t
    refine XS.iushr X127.here hx rfl (hb hby at_30) rfl ?_
    show Steps p.tables e below (T127.setTop (mkF m 31 #[.val (.int p0), .val (.int p1), .val (.long q2), .second, .val (.int ((p0 &&& (2147483647 : Int32)) % (12 : Int32))), .val (.ref (pick_r ((p0 &&& (2147483647 : Int32)) % (12 : Int32)) w_s_ACCEPTED w_s_PRESENTATION_ERROR w_s_WRONG_ANSWER w_s_COMPILE_ERROR w_s_RUNTIME_ERROR w_s_TIME_LIMIT w_s_OUTPUT_LIMIT w_s_FILE_LIMIT w_s_MARKED w_s_SCRIPT_ERROR w_s_CAUGHT w_s_MISSED)), .val (.ref b128), .unset, .unset, .unset, .unset] [(.int (Jvm.Free.XT.ushr p1 (8 : Int32)))])) t
    refine XS.sipush X127.here hx rfl (hb hby at_31) ?_
    show Steps p.tables e below (T127.setTop (mkF m 34 #[.val (.int p0), .val (.int p1), .val (.long q2), .second, .val (.int ((p0 &&& (2147483647 : Int32)) % (12 : Int32))), .val (.ref (pick_r ((p0 &&& (2147483647 : Int32)) % (12 : Int32)) w_s_ACCEPTED w_s_PRESENTATION_ERROR w_s_WRONG_ANSWER w_s_COMPILE_ERROR w_s_RUNTIME_ERROR w_s_TIME_LIMIT w_s_OUTPUT_LIMIT w_s_FILE_LIMIT w_s_MARKED w_s_SCRIPT_ERROR w_s_CAUGHT w_s_MISSED)), .val (.ref b128), .unset, .unset, .unset, .unset] [(.int (255 : Int32)), (.int (Jvm.Free.XT.ushr p1 (8 : Int32)))])) t
    refine XS.iand X127.here hx rfl (hb hby at_34) rfl ?_
    show Steps p.tables e below (T127.setTop (mkF m 35 #[.val (.int p0), .val (.int p1), .val (.long q2), .second, .val (.int ((p0 &&& (2147483647 : Int32)) % (12 : Int32))), .val (.ref (pick_r ((p0 &&& (2147483647 : Int32)) % (12 : Int32)) w_s_ACCEPTED w_s_PRESENTATION_ERROR w_s_WRONG_ANSWER w_s_COMPILE_ERROR w_s_RUNTIME_ERROR w_s_TIME_LIMIT w_s_OUTPUT_LIMIT w_s_FILE_LIMIT w_s_MARKED w_s_SCRIPT_ERROR w_s_CAUGHT w_s_MISSED)), .val (.ref b128), .unset, .unset, .unset, .unset] [(.int ((Jvm.Free.XT.ushr p1 (8 : Int32)) &&& (255 : Int32)))])) t
    refine XS.i2c X127.here hx rfl (hb hby at_35) rfl ?_
    exact k
  obtain ⟨_, _, ⟨T148, L148, kk148, nn148⟩, -, X148, ⟨Lc148, hQ148, l148, y148, z148⟩, st148⟩ := Jvm.LawKit.callS X127 hx (y := (⟨"java/lang/String", "valueOf", "(C)Ljava/lang/String;"⟩ : MethodName)) hown (mvT hZ (hw _ (List.mem_of_getElem? (i := 8) rfl))) (mvT hZ (hw _ (List.mem_of_getElem? (i := 9) rfl))) (mvT hZ (hw _ (List.mem_of_getElem? (i := 10) rfl))) (mvT hZ (hw _ (List.mem_of_getElem? (i := 11) rfl))) (by decide) (backOf (W := 0) (valueOf l Z a0 hw [] (((Jvm.Free.XT.ushr p1 (8 : Int32)) &&& (255 : Int32)).toUInt32.toUInt16.toUInt32.toInt32) w_s_COMPACT_STRINGS T127.heap n0 Z147 f146 (hcs : ¬ (w_s_COMPACT_STRINGS = (0 : Int32))) (own_enc _ : ¬ ((canEnc_r (((Jvm.Free.XT.ushr p1 (8 : Int32)) &&& (255 : Int32)).toUInt32.toUInt16.toUInt32.toInt32)) = (0 : Int32)))) hZ (hw _ (List.mem_of_getElem? (i := 11) rfl)) (hw _ (List.mem_of_getElem? (i := 10) rfl)) (by decide) (by decide)) (g := (mkF m 36 #[.val (.int p0), .val (.int p1), .val (.long q2), .second, .val (.int ((p0 &&& (2147483647 : Int32)) % (12 : Int32))), .val (.ref (pick_r ((p0 &&& (2147483647 : Int32)) % (12 : Int32)) w_s_ACCEPTED w_s_PRESENTATION_ERROR w_s_WRONG_ANSWER w_s_COMPILE_ERROR w_s_RUNTIME_ERROR w_s_TIME_LIMIT w_s_OUTPUT_LIMIT w_s_FILE_LIMIT w_s_MARKED w_s_SCRIPT_ERROR w_s_CAUGHT w_s_MISSED)), .val (.ref b128), .unset, .unset, .unset, .unset] [(.int (((Jvm.Free.XT.ushr p1 (8 : Int32)) &&& (255 : Int32)).toUInt32.toUInt16.toUInt32.toInt32))])) rfl (by rw [hml]; rfl) (argsL := [(.int (((Jvm.Free.XT.ushr p1 (8 : Int32)) &&& (255 : Int32)).toUInt32.toUInt16.toUInt32.toInt32))]) (rest := []) (lenOf pd_135 rfl) rfl (by show 2 * 0 + _ ≤ _; exact Nat.le_of_eq rfl) (hb hby at_36) (fun _ _ => ⟨rfl, rfl, (by decide : 2 + 2 ≤ _), (by decide : 5 + 5 ≤ _)⟩)
  dsimp only [Pt.U, Pt.locs, Pt.cells, Pt.slots] at X148 l148 y148 z148 st148 hQ148
  subst l148 y148 z148
  obtain ⟨b149, rfl, N150, K151, p152, p153⟩ := hQ148
  have N154 := Fr.app N133 N150
  have ne155 : b128 ≠ b149 := Nat.ne_of_lt (Nat.lt_of_lt_of_le p132.lt p152)
  have g_b149 : n0 ≤ b149 := Nat.le_trans Z147 p152
  have f156 : Sta Z T148.heap "com/example/scorebench/scorebench/grading/Verdict" "ACCEPTED" "Lcom/example/scorebench/scorebench/grading/Verdict;" (.ref w_s_ACCEPTED) := own_sta_keep f134 K151 all0
  have f157 : Sta Z T148.heap "com/example/scorebench/scorebench/grading/Verdict" "PRESENTATION_ERROR" "Lcom/example/scorebench/scorebench/grading/Verdict;" (.ref w_s_PRESENTATION_ERROR) := own_sta_keep f135 K151 all0
  have f158 : Sta Z T148.heap "com/example/scorebench/scorebench/grading/Verdict" "WRONG_ANSWER" "Lcom/example/scorebench/scorebench/grading/Verdict;" (.ref w_s_WRONG_ANSWER) := own_sta_keep f136 K151 all0
  have f159 : Sta Z T148.heap "com/example/scorebench/scorebench/grading/Verdict" "COMPILE_ERROR" "Lcom/example/scorebench/scorebench/grading/Verdict;" (.ref w_s_COMPILE_ERROR) := own_sta_keep f137 K151 all0
  have f160 : Sta Z T148.heap "com/example/scorebench/scorebench/grading/Verdict" "RUNTIME_ERROR" "Lcom/example/scorebench/scorebench/grading/Verdict;" (.ref w_s_RUNTIME_ERROR) := own_sta_keep f138 K151 all0
  have f161 : Sta Z T148.heap "com/example/scorebench/scorebench/grading/Verdict" "TIME_LIMIT" "Lcom/example/scorebench/scorebench/grading/Verdict;" (.ref w_s_TIME_LIMIT) := own_sta_keep f139 K151 all0
  have f162 : Sta Z T148.heap "com/example/scorebench/scorebench/grading/Verdict" "OUTPUT_LIMIT" "Lcom/example/scorebench/scorebench/grading/Verdict;" (.ref w_s_OUTPUT_LIMIT) := own_sta_keep f140 K151 all0
  have f163 : Sta Z T148.heap "com/example/scorebench/scorebench/grading/Verdict" "FILE_LIMIT" "Lcom/example/scorebench/scorebench/grading/Verdict;" (.ref w_s_FILE_LIMIT) := own_sta_keep f141 K151 all0
  have f164 : Sta Z T148.heap "com/example/scorebench/scorebench/grading/Verdict" "MARKED" "Lcom/example/scorebench/scorebench/grading/Verdict;" (.ref w_s_MARKED) := own_sta_keep f142 K151 all0
  have f165 : Sta Z T148.heap "com/example/scorebench/scorebench/grading/Verdict" "SCRIPT_ERROR" "Lcom/example/scorebench/scorebench/grading/Verdict;" (.ref w_s_SCRIPT_ERROR) := own_sta_keep f143 K151 all0
  have f166 : Sta Z T148.heap "com/example/scorebench/scorebench/grading/Verdict" "CAUGHT" "Lcom/example/scorebench/scorebench/grading/Verdict;" (.ref w_s_CAUGHT) := own_sta_keep f144 K151 all0
  have f167 : Sta Z T148.heap "com/example/scorebench/scorebench/grading/Verdict" "MISSED" "Lcom/example/scorebench/scorebench/grading/Verdict;" (.ref w_s_MISSED) := own_sta_keep f145 K151 all0
  have f168 : Sta Z T148.heap "java/lang/String" "COMPACT_STRINGS" "Z" (.int w_s_COMPACT_STRINGS) := own_sta_keep f146 K151 all0
  have f169 : Exa Z T148.heap b128 "java/lang/String" := p132.keep K151
  have Z170 : n0 ≤ T148.heap.size := Nat.le_trans Z147 K151.1
  refine own_go st148 ?_
  refine own_go (S' := T148.setTop (mkF m 41 #[.val (.int p0), .val (.int p1), .val (.long q2), .second, .val (.int ((p0 &&& (2147483647 : Int32)) % (12 : Int32))), .val (.ref (pick_r ((p0 &&& (2147483647 : Int32)) % (12 : Int32)) w_s_ACCEPTED w_s_PRESENTATION_ERROR w_s_WRONG_ANSWER w_s_COMPILE_ERROR w_s_RUNTIME_ERROR w_s_TIME_LIMIT w_s_OUTPUT_LIMIT w_s_FILE_LIMIT w_s_MARKED w_s_SCRIPT_ERROR w_s_CAUGHT w_s_MISSED)), .val (.ref b128), .val (.ref b149), .unset, .unset, .unset] [])) (fun t k => ?_) ?_
  · show Steps p.tables e below (T148.setTop (mkF m 39 #[.val (.int p0), .val (.int p1), .val (.long q2), .second, .val (.int ((p0 &&& (2147483647 : Int32)) % (12 : Int32))), .val (.ref (pick_r ((p0 &&& (2147483647 : Int32)) % (12 : Int32)) w_s_ACCEPTED w_s_PRESENTATION_ERROR w_s_WRONG_ANSWER w_s_COMPILE_ERROR w_s_RUNTIME_ERROR w_s_TIME_LIMIT w_s_OUTPUT_LIMIT w_s_FILE_LIMIT w_s_MARKED w_s_SCRIPT_ERROR w_s_CAUGHT w_s_MISSED)), .val (.ref b128), .unset, .unset, .unset, .unset] [(.ref b149)])) t
    refine XS.astore X148.here hx rfl (hb hby at_39) rfl rfl (l' := #[.val (.int p0), .val (.int p1), .val (.long q2), .second, .val (.int ((p0 &&& (2147483647 : Int32)) % (12 : Int32))), .val (.ref (pick_r ((p0 &&& (2147483647 : Int32)) % (12 : Int32)) w_s_ACCEPTED w_s_PRESENTATION_ERROR w_s_WRONG_ANSWER w_s_COMPILE_ERROR w_s_RUNTIME_ERROR w_s_TIME_LIMIT w_s_OUTPUT_LIMIT w_s_FILE_LIMIT w_s_MARKED w_s_SCRIPT_ERROR w_s_CAUGHT w_s_MISSED)), .val (.ref b128), .val (.ref b149), .unset, .unset, .unset]) rfl ?_
    exact k
  obtain ⟨T171, h171, X171, e171, E171, A171, D171, -, st171⟩ := newO X148 hx hZ hown (hw _ (List.mem_of_getElem? (i := 34) rfl)) (hw _ (List.mem_of_getElem? (i := 35) rfl)) (hw _ (List.mem_of_getElem? (i := 36) rfl)) rfl (g := (mkF m 41 #[.val (.int p0), .val (.int p1), .val (.long q2), .second, .val (.int ((p0 &&& (2147483647 : Int32)) % (12 : Int32))), .val (.ref (pick_r ((p0 &&& (2147483647 : Int32)) % (12 : Int32)) w_s_ACCEPTED w_s_PRESENTATION_ERROR w_s_WRONG_ANSWER w_s_COMPILE_ERROR w_s_RUNTIME_ERROR w_s_TIME_LIMIT w_s_OUTPUT_LIMIT w_s_FILE_LIMIT w_s_MARKED w_s_SCRIPT_ERROR w_s_CAUGHT w_s_MISSED)), .val (.ref b128), .val (.ref b149), .unset, .unset, .unset] [])) rfl (hb hby at_41) (by decide) (by decide)
  obtain ⟨b171, g171⟩ : ∃ z, z = T148.heap.size := ⟨_, rfl⟩
  rw [← g171] at A171 D171 st171
  have ne172 : b128 ≠ b171 := Nat.ne_of_lt (Nat.lt_of_lt_of_le f169.lt (Nat.le_of_eq g171.symm))
  have ne173 : b149 ≠ b171 := Nat.ne_of_lt (Nat.lt_of_lt_of_le p153.lt (Nat.le_of_eq g171.symm))
  have g_b171 : n0 ≤ b171 := Nat.le_trans Z170 (Nat.le_of_eq g171.symm)
  have Z174 : n0 ≤ h171.size := Nat.le_trans Z170 E171.1
  have f175 : Sta Z h171 "com/example/scorebench/scorebench/grading/Verdict" "ACCEPTED" "Lcom/example/scorebench/scorebench/grading/Verdict;" (.ref w_s_ACCEPTED) := Sta.ext E171 f156
  have f176 : Sta Z h171 "com/example/scorebench/scorebench/grading/Verdict" "PRESENTATION_ERROR" "Lcom/example/scorebench/scorebench/grading/Verdict;" (.ref w_s_PRESENTATION_ERROR) := Sta.ext E171 f157
  have f177 : Sta Z h171 "com/example/scorebench/scorebench/grading/Verdict" "WRONG_ANSWER" "Lcom/example/scorebench/scorebench/grading/Verdict;" (.ref w_s_WRONG_ANSWER) := Sta.ext E171 f158
  have f178 : Sta Z h171 "com/example/scorebench/scorebench/grading/Verdict" "COMPILE_ERROR" "Lcom/example/scorebench/scorebench/grading/Verdict;" (.ref w_s_COMPILE_ERROR) := Sta.ext E171 f159
  have f179 : Sta Z h171 "com/example/scorebench/scorebench/grading/Verdict" "RUNTIME_ERROR" "Lcom/example/scorebench/scorebench/grading/Verdict;" (.ref w_s_RUNTIME_ERROR) := Sta.ext E171 f160
  have f180 : Sta Z h171 "com/example/scorebench/scorebench/grading/Verdict" "TIME_LIMIT" "Lcom/example/scorebench/scorebench/grading/Verdict;" (.ref w_s_TIME_LIMIT) := Sta.ext E171 f161
  have f181 : Sta Z h171 "com/example/scorebench/scorebench/grading/Verdict" "OUTPUT_LIMIT" "Lcom/example/scorebench/scorebench/grading/Verdict;" (.ref w_s_OUTPUT_LIMIT) := Sta.ext E171 f162
  have f182 : Sta Z h171 "com/example/scorebench/scorebench/grading/Verdict" "FILE_LIMIT" "Lcom/example/scorebench/scorebench/grading/Verdict;" (.ref w_s_FILE_LIMIT) := Sta.ext E171 f163
  have f183 : Sta Z h171 "com/example/scorebench/scorebench/grading/Verdict" "MARKED" "Lcom/example/scorebench/scorebench/grading/Verdict;" (.ref w_s_MARKED) := Sta.ext E171 f164
  have f184 : Sta Z h171 "com/example/scorebench/scorebench/grading/Verdict" "SCRIPT_ERROR" "Lcom/example/scorebench/scorebench/grading/Verdict;" (.ref w_s_SCRIPT_ERROR) := Sta.ext E171 f165
  have f185 : Sta Z h171 "com/example/scorebench/scorebench/grading/Verdict" "CAUGHT" "Lcom/example/scorebench/scorebench/grading/Verdict;" (.ref w_s_CAUGHT) := Sta.ext E171 f166
  have f186 : Sta Z h171 "com/example/scorebench/scorebench/grading/Verdict" "MISSED" "Lcom/example/scorebench/scorebench/grading/Verdict;" (.ref w_s_MISSED) := Sta.ext E171 f167
  have f187 : Sta Z h171 "java/lang/String" "COMPACT_STRINGS" "Z" (.int w_s_COMPACT_STRINGS) := Sta.ext E171 f168
  have f188 : Exa Z h171 b128 "java/lang/String" := Exa.ext E171 f169
  have f189 : Exa Z h171 b149 "java/lang/String" := Exa.ext E171 p153
  have f190 : Fld Z h171 b171 "com/example/scorebench/scorebench/assignment/Mutant" "name" "Ljava/lang/String;" .null := D171 (Or.inr (hw _ (List.mem_of_getElem? (i := 47) rfl))) (ty := (.object "java/lang/String")) (by decide)
  have f191 : Fld Z h171 b171 "com/example/scorebench/scorebench/assignment/Mutant" "weight" "J" (.long (0 : Int64)) := D171 (Or.inr (hw _ (List.mem_of_getElem? (i := 49) rfl))) (ty := .long) (by decide)
  have f192 : Fld Z h171 b171 "com/example/scorebench/scorebench/assignment/Mutant" "source" "Ljava/lang/String;" .null := D171 (Or.inr (hw _ (List.mem_of_getElem? (i := 51) rfl))) (ty := (.object "java/lang/String")) (by decide)
  refine own_go st171 ?_
  refine own_go (S' := T171.setTop (mkF m 50 #[.val (.int p0), .val (.int p1), .val (.long q2), .second, .val (.int ((p0 &&& (2147483647 : Int32)) % (12 : Int32))), .val (.ref (pick_r ((p0 &&& (2147483647 : Int32)) % (12 : Int32)) w_s_ACCEPTED w_s_PRESENTATION_ERROR w_s_WRONG_ANSWER w_s_COMPILE_ERROR w_s_RUNTIME_ERROR w_s_TIME_LIMIT w_s_OUTPUT_LIMIT w_s_FILE_LIMIT w_s_MARKED w_s_SCRIPT_ERROR w_s_CAUGHT w_s_MISSED)), .val (.ref b128), .val (.ref b149), .unset, .unset, .unset] [(.ref b149), (.long q2), (.ref b128), (.ref b171), (.ref b171)])) (fun t k => ?_) ?_
  · show Steps p.tables e below (T171.setTop (mkF m 44 #[.val (.int p0), .val (.int p1), .val (.long q2), .second, .val (.int ((p0 &&& (2147483647 : Int32)) % (12 : Int32))), .val (.ref (pick_r ((p0 &&& (2147483647 : Int32)) % (12 : Int32)) w_s_ACCEPTED w_s_PRESENTATION_ERROR w_s_WRONG_ANSWER w_s_COMPILE_ERROR w_s_RUNTIME_ERROR w_s_TIME_LIMIT w_s_OUTPUT_LIMIT w_s_FILE_LIMIT w_s_MARKED w_s_SCRIPT_ERROR w_s_CAUGHT w_s_MISSED)), .val (.ref b128), .val (.ref b149), .unset, .unset, .unset] [(.ref b171)])) t
    refine XS.dup X171.here hx rfl (hb hby at_44) rfl rfl ?_
    show Steps p.tables e below (T171.setTop (mkF m 45 #[.val (.int p0), .val (.int p1), .val (.long q2), .second, .val (.int ((p0 &&& (2147483647 : Int32)) % (12 : Int32))), .val (.ref (pick_r ((p0 &&& (2147483647 : Int32)) % (12 : Int32)) w_s_ACCEPTED w_s_PRESENTATION_ERROR w_s_WRONG_ANSWER w_s_COMPILE_ERROR w_s_RUNTIME_ERROR w_s_TIME_LIMIT w_s_OUTPUT_LIMIT w_s_FILE_LIMIT w_s_MARKED w_s_SCRIPT_ERROR w_s_CAUGHT w_s_MISSED)), .val (.ref b128), .val (.ref b149), .unset, .unset, .unset] [(.ref b171), (.ref b171)])) t
    refine XS.aload X171.here hx rfl (hb hby at_45) rfl rfl ?_
    show Steps p.tables e below (T171.setTop (mkF m 47 #[.val (.int p0), .val (.int p1), .val (.long q2), .second, .val (.int ((p0 &&& (2147483647 : Int32)) % (12 : Int32))), .val (.ref (pick_r ((p0 &&& (2147483647 : Int32)) % (12 : Int32)) w_s_ACCEPTED w_s_PRESENTATION_ERROR w_s_WRONG_ANSWER w_s_COMPILE_ERROR w_s_RUNTIME_ERROR w_s_TIME_LIMIT w_s_OUTPUT_LIMIT w_s_FILE_LIMIT w_s_MARKED w_s_SCRIPT_ERROR w_s_CAUGHT w_s_MISSED)), .val (.ref b128), .val (.ref b149), .unset, .unset, .unset] [(.ref b128), (.ref b171), (.ref b171)])) t
    refine XS.lloadN X171.here hx rfl (hb hby at_47) rfl ?_
    show Steps p.tables e below (T171.setTop (mkF m 48 #[.val (.int p0), .val (.int p1), .val (.long q2), .second, .val (.int ((p0 &&& (2147483647 : Int32)) % (12 : Int32))), .val (.ref (pick_r ((p0 &&& (2147483647 : Int32)) % (12 : Int32)) w_s_ACCEPTED w_s_PRESENTATION_ERROR w_s_WRONG_ANSWER w_s_COMPILE_ERROR w_s_RUNTIME_ERROR w_s_TIME_LIMIT w_s_OUTPUT_LIMIT w_s_FILE_LIMIT w_s_MARKED w_s_SCRIPT_ERROR w_s_CAUGHT w_s_MISSED)), .val (.ref b128), .val (.ref b149), .unset, .unset, .unset] [(.long q2), (.ref b128), (.ref b171), (.ref b171)])) t
    refine XS.aload X171.here hx rfl (hb hby at_48) rfl rfl ?_
    exact k
  obtain ⟨_, _, ⟨T193, L193, kk193, nn193⟩, -, X193, ⟨Lc193, hQ193, l193, y193, z193⟩, st193⟩ := X171.specialBack hx (y := (⟨"com/example/scorebench/scorebench/assignment/Mutant", "<init>", "(Ljava/lang/String;JLjava/lang/String;)V"⟩ : MethodName)) rfl hown (mvT hZ (hw _ (List.mem_of_getElem? (i := 37) rfl))) (mvT hZ (hw _ (List.mem_of_getElem? (i := 38) rfl))) (mvT hZ (hw _ (List.mem_of_getElem? (i := 39) rfl))) (by decide) (backOf (W := 1) (mutInit l Z a0 hw [] b171 b128 q2 b149 (.null) (0 : Int64) (.null) h171 n0 Z174 A171 f190 f191 f192 g_b171) hZ (hw _ (List.mem_of_getElem? (i := 39) rfl)) (hw _ (List.mem_of_getElem? (i := 36) rfl)) (by decide) (by decide)) (g := (mkF m 50 #[.val (.int p0), .val (.int p1), .val (.long q2), .second, .val (.int ((p0 &&& (2147483647 : Int32)) % (12 : Int32))), .val (.ref (pick_r ((p0 &&& (2147483647 : Int32)) % (12 : Int32)) w_s_ACCEPTED w_s_PRESENTATION_ERROR w_s_WRONG_ANSWER w_s_COMPILE_ERROR w_s_RUNTIME_ERROR w_s_TIME_LIMIT w_s_OUTPUT_LIMIT w_s_FILE_LIMIT w_s_MARKED w_s_SCRIPT_ERROR w_s_CAUGHT w_s_MISSED)), .val (.ref b128), .val (.ref b149), .unset, .unset, .unset] [(.ref b149), (.long q2), (.ref b128), (.ref b171), (.ref b171)])) rfl (by rw [hml]; rfl) (Steps.refl _) (a := b171) (argsL := [(.ref b128), (.long q2), (.ref b149)]) (rest := [(.ref b171)]) (lenOf pd_136 rfl) rfl (by show 2 * 0 + _ ≤ _; exact Nat.le_of_eq rfl) (hb hby at_50) (fun _ _ => ⟨rfl, e171, (by decide : 5 + 0 ≤ _), (by decide : 13 + 0 ≤ _)⟩)
  dsimp only [Pt.U, Pt.locs, Pt.cells, Pt.slots] at X193 l193 y193 z193 st193 hQ193
  subst l193 y193 z193
  obtain ⟨rfl, N194, K195, p196, p197, p198, p199⟩ := hQ193
  have N200 := Fr.app N154 N194
  have f201 : Sta Z T193.heap "com/example/scorebench/scorebench/grading/Verdict" "ACCEPTED" "Lcom/example/scorebench/scorebench/grading/Verdict;" (.ref w_s_ACCEPTED) := own_sta_keep f175 K195 (allS (own_plain A171) all0)
  have f202 : Sta Z T193.heap "com/example/scorebench/scorebench/grading/Verdict" "PRESENTATION_ERROR" "Lcom/example/scorebench/scorebench/grading/Verdict;" (.ref w_s_PRESENTATION_ERROR) := own_sta_keep f176 K195 (allS (own_plain A171) all0)
  have f203 : Sta Z T193.heap "com/example/scorebench/scorebench/grading/Verdict" "WRONG_ANSWER" "Lcom/example/scorebench/scorebench/grading/Verdict;" (.ref w_s_WRONG_ANSWER) := own_sta_keep f177 K195 (allS (own_plain A171) all0)
  have f204 : Sta Z T193.heap "com/example/scorebench/scorebench/grading/Verdict" "COMPILE_ERROR" "Lcom/example/scorebench/scorebench/grading/Verdict;" (.ref w_s_COMPILE_ERROR) := own_sta_keep f178 K195 (allS (own_plain A171) all0)
  have f205 : Sta Z T193.heap "com/example/scorebench/scorebench/grading/Verdict" "RUNTIME_ERROR" "Lcom/example/scorebench/scorebench/grading/Verdict;" (.ref w_s_RUNTIME_ERROR) := own_sta_keep f179 K195 (allS (own_plain A171) all0)
  have f206 : Sta Z T193.heap "com/example/scorebench/scorebench/grading/Verdict" "TIME_LIMIT" "Lcom/example/scorebench/scorebench/grading/Verdict;" (.ref w_s_TIME_LIMIT) := own_sta_keep f180 K195 (allS (own_plain A171) all0)
  have f207 : Sta Z T193.heap "com/example/scorebench/scorebench/grading/Verdict" "OUTPUT_LIMIT" "Lcom/example/scorebench/scorebench/grading/Verdict;" (.ref w_s_OUTPUT_LIMIT) := own_sta_keep f181 K195 (allS (own_plain A171) all0)
  have f208 : Sta Z T193.heap "com/example/scorebench/scorebench/grading/Verdict" "FILE_LIMIT" "Lcom/example/scorebench/scorebench/grading/Verdict;" (.ref w_s_FILE_LIMIT) := own_sta_keep f182 K195 (allS (own_plain A171) all0)
  have f209 : Sta Z T193.heap "com/example/scorebench/scorebench/grading/Verdict" "MARKED" "Lcom/example/scorebench/scorebench/grading/Verdict;" (.ref w_s_MARKED) := own_sta_keep f183 K195 (allS (own_plain A171) all0)
  have f210 : Sta Z T193.heap "com/example/scorebench/scorebench/grading/Verdict" "SCRIPT_ERROR" "Lcom/example/scorebench/scorebench/grading/Verdict;" (.ref w_s_SCRIPT_ERROR) := own_sta_keep f184 K195 (allS (own_plain A171) all0)
  have f211 : Sta Z T193.heap "com/example/scorebench/scorebench/grading/Verdict" "CAUGHT" "Lcom/example/scorebench/scorebench/grading/Verdict;" (.ref w_s_CAUGHT) := own_sta_keep f185 K195 (allS (own_plain A171) all0)
  have f212 : Sta Z T193.heap "com/example/scorebench/scorebench/grading/Verdict" "MISSED" "Lcom/example/scorebench/scorebench/grading/Verdict;" (.ref w_s_MISSED) := own_sta_keep f186 K195 (allS (own_plain A171) all0)
  have f213 : Sta Z T193.heap "java/lang/String" "COMPACT_STRINGS" "Z" (.int w_s_COMPACT_STRINGS) := own_sta_keep f187 K195 (allS (own_plain A171) all0)
  have f214 : Exa Z T193.heap b128 "java/lang/String" := f188.keep K195
  have f215 : Exa Z T193.heap b149 "java/lang/String" := f189.keep K195
  have f216 : Exa Z T193.heap b171 "com/example/scorebench/scorebench/assignment/Mutant" := A171.keep K195
  have Z217 : n0 ≤ T193.heap.size := Nat.le_trans Z174 K195.1
  refine own_goT st193 ?_
  refine own_go (S' := T193.setTop (mkF m 55 #[.val (.int p0), .val (.int p1), .val (.long q2), .second, .val (.int ((p0 &&& (2147483647 : Int32)) % (12 : Int32))), .val (.ref (pick_r ((p0 &&& (2147483647 : Int32)) % (12 : Int32)) w_s_ACCEPTED w_s_PRESENTATION_ERROR w_s_WRONG_ANSWER w_s_COMPILE_ERROR w_s_RUNTIME_ERROR w_s_TIME_LIMIT w_s_OUTPUT_LIMIT w_s_FILE_LIMIT w_s_MARKED w_s_SCRIPT_ERROR w_s_CAUGHT w_s_MISSED)), .val (.ref b128), .val (.ref b149), .val (.ref b171), .unset, .unset] [])) (fun t k => ?_) ?_
  · show Steps p.tables e below (T193.setTop (mkF m 53 #[.val (.int p0), .val (.int p1), .val (.long q2), .second, .val (.int ((p0 &&& (2147483647 : Int32)) % (12 : Int32))), .val (.ref (pick_r ((p0 &&& (2147483647 : Int32)) % (12 : Int32)) w_s_ACCEPTED w_s_PRESENTATION_ERROR w_s_WRONG_ANSWER w_s_COMPILE_ERROR w_s_RUNTIME_ERROR w_s_TIME_LIMIT w_s_OUTPUT_LIMIT w_s_FILE_LIMIT w_s_MARKED w_s_SCRIPT_ERROR w_s_CAUGHT w_s_MISSED)), .val (.ref b128), .val (.ref b149), .unset, .unset, .unset] [(.ref b171)])) t
    refine XS.astore X193.here hx rfl (hb hby at_53) rfl rfl (l' := #[.val (.int p0), .val (.int p1), .val (.long q2), .second, .val (.int ((p0 &&& (2147483647 : Int32)) % (12 : Int32))), .val (.ref (pick_r ((p0 &&& (2147483647 : Int32)) % (12 : Int32)) w_s_ACCEPTED w_s_PRESENTATION_ERROR w_s_WRONG_ANSWER w_s_COMPILE_ERROR w_s_RUNTIME_ERROR w_s_TIME_LIMIT w_s_OUTPUT_LIMIT w_s_FILE_LIMIT w_s_MARKED w_s_SCRIPT_ERROR w_s_CAUGHT w_s_MISSED)), .val (.ref b128), .val (.ref b149), .val (.ref b171), .unset, .unset]) rfl ?_
    exact k
  obtain ⟨T218, h218, X218, e218, E218, A218, D218, -, st218⟩ := newO X193 hx hZ hown (hw _ (List.mem_of_getElem? (i := 52) rfl)) (hw _ (List.mem_of_getElem? (i := 53) rfl)) (hw _ (List.mem_of_getElem? (i := 54) rfl)) rfl (g := (mkF m 55 #[.val (.int p0), .val (.int p1), .val (.long q2), .second, .val (.int ((p0 &&& (2147483647 : Int32)) % (12 : Int32))), .val (.ref (pick_r ((p0 &&& (2147483647 : Int32)) % (12 : Int32)) w_s_ACCEPTED w_s_PRESENTATION_ERROR w_s_WRONG_ANSWER w_s_COMPILE_ERROR w_s_RUNTIME_ERROR w_s_TIME_LIMIT w_s_OUTPUT_LIMIT w_s_FILE_LIMIT w_s_MARKED w_s_SCRIPT_ERROR w_s_CAUGHT w_s_MISSED)), .val (.ref b128), .val (.ref b149), .val (.ref b171), .unset, .unset] [])) rfl (hb hby at_55) (by decide) (by decide)
  obtain ⟨b218, g218⟩ : ∃ z, z = T193.heap.size := ⟨_, rfl⟩
  rw [← g218] at A218 D218 st218
  have ne219 : b128 ≠ b218 := Nat.ne_of_lt (Nat.lt_of_lt_of_le f214.lt (Nat.le_of_eq g218.symm))
  have ne220 : b149 ≠ b218 := Nat.ne_of_lt (Nat.lt_of_lt_of_le f215.lt (Nat.le_of_eq g218.symm))
  have ne221 : b171 ≠ b218 := Nat.ne_of_lt (Nat.lt_of_lt_of_le p196.lt (Nat.le_of_eq g218.symm))
  have g_b218 : n0 ≤ b218 := Nat.le_trans Z217 (Nat.le_of_eq g218.symm)
  have Z222 : n0 ≤ h218.size := Nat.le_trans Z217 E218.1
  have f223 : Sta Z h218 "com/example/scorebench/scorebench/grading/Verdict" "ACCEPTED" "Lcom/example/scorebench/scorebench/grading/Verdict;" (.ref w_s_ACCEPTED) := Sta.ext E218 f201
  have f224 : Sta Z h218 "com/example/scorebench/scorebench/grading/Verdict" "PRESENTATION_ERROR" "Lcom/example/scorebench/scorebench/grading/Verdict;" (.ref w_s_PRESENTATION_ERROR) := Sta.ext E218 f202
  have f225 : Sta Z h218 "com/example/scorebench/scorebench/grading/Verdict" "WRONG_ANSWER" "Lcom/example/scorebench/scorebench/grading/Verdict;" (.ref w_s_WRONG_ANSWER) := Sta.ext E218 f203
  have f226 : Sta Z h218 "com/example/scorebench/scorebench/grading/Verdict" "COMPILE_ERROR" "Lcom/example/scorebench/scorebench/grading/Verdict;" (.ref w_s_COMPILE_ERROR) := Sta.ext E218 f204
  have f227 : Sta Z h218 "com/example/scorebench/scorebench/grading/Verdict" "RUNTIME_ERROR" "Lcom/example/scorebench/scorebench/grading/Verdict;" (.ref w_s_RUNTIME_ERROR) := Sta.ext E218 f205
  have f228 : Sta Z h218 "com/example/scorebench/scorebench/grading/Verdict" "TIME_LIMIT" "Lcom/example/scorebench/scorebench/grading/Verdict;" (.ref w_s_TIME_LIMIT) := Sta.ext E218 f206
  have f229 : Sta Z h218 "com/example/scorebench/scorebench/grading/Verdict" "OUTPUT_LIMIT" "Lcom/example/scorebench/scorebench/grading/Verdict;" (.ref w_s_OUTPUT_LIMIT) := Sta.ext E218 f207
  have f230 : Sta Z h218 "com/example/scorebench/scorebench/grading/Verdict" "FILE_LIMIT" "Lcom/example/scorebench/scorebench/grading/Verdict;" (.ref w_s_FILE_LIMIT) := Sta.ext E218 f208
  have f231 : Sta Z h218 "com/example/scorebench/scorebench/grading/Verdict" "MARKED" "Lcom/example/scorebench/scorebench/grading/Verdict;" (.ref w_s_MARKED) := Sta.ext E218 f209
  have f232 : Sta Z h218 "com/example/scorebench/scorebench/grading/Verdict" "SCRIPT_ERROR" "Lcom/example/scorebench/scorebench/grading/Verdict;" (.ref w_s_SCRIPT_ERROR) := Sta.ext E218 f210
  have f233 : Sta Z h218 "com/example/scorebench/scorebench/grading/Verdict" "CAUGHT" "Lcom/example/scorebench/scorebench/grading/Verdict;" (.ref w_s_CAUGHT) := Sta.ext E218 f211
  have f234 : Sta Z h218 "com/example/scorebench/scorebench/grading/Verdict" "MISSED" "Lcom/example/scorebench/scorebench/grading/Verdict;" (.ref w_s_MISSED) := Sta.ext E218 f212
  have f235 : Sta Z h218 "java/lang/String" "COMPACT_STRINGS" "Z" (.int w_s_COMPACT_STRINGS) := Sta.ext E218 f213
  have f236 : Exa Z h218 b128 "java/lang/String" := Exa.ext E218 f214
  have f237 : Exa Z h218 b149 "java/lang/String" := Exa.ext E218 f215
  have f238 : Exa Z h218 b171 "com/example/scorebench/scorebench/assignment/Mutant" := Exa.ext E218 p196
  have f239 : Fld Z h218 b171 "com/example/scorebench/scorebench/assignment/Mutant" "name" "Ljava/lang/String;" (.ref b128) := Fld.ext E218 p197
  have f240 : Fld Z h218 b171 "com/example/scorebench/scorebench/assignment/Mutant" "weight" "J" (.long q2) := Fld.ext E218 p198
  have f241 : Fld Z h218 b171 "com/example/scorebench/scorebench/assignment/Mutant" "source" "Ljava/lang/String;" (.ref b149) := Fld.ext E218 p199
  have f242 : Fld Z h218 b218 "com/example/scorebench/scorebench/grading/Grade$MutantVerdict" "mutant" "Lcom/example/scorebench/scorebench/assignment/Mutant;" .null := D218 (Or.inr (hw _ (List.mem_of_getElem? (i := 60) rfl))) (ty := (.object "com/example/scorebench/scorebench/assignment/Mutant")) (by decide)
  have f243 : Fld Z h218 b218 "com/example/scorebench/scorebench/grading/Grade$MutantVerdict" "verdict" "Lcom/example/scorebench/scorebench/grading/Verdict;" .null := D218 (Or.inr (hw _ (List.mem_of_getElem? (i := 62) rfl))) (ty := (.object "com/example/scorebench/scorebench/grading/Verdict")) (by decide)
  refine own_go st218 ?_
  refine own_go (S' := T218.setTop (mkF m 63 #[.val (.int p0), .val (.int p1), .val (.long q2), .second, .val (.int ((p0 &&& (2147483647 : Int32)) % (12 : Int32))), .val (.ref (pick_r ((p0 &&& (2147483647 : Int32)) % (12 : Int32)) w_s_ACCEPTED w_s_PRESENTATION_ERROR w_s_WRONG_ANSWER w_s_COMPILE_ERROR w_s_RUNTIME_ERROR w_s_TIME_LIMIT w_s_OUTPUT_LIMIT w_s_FILE_LIMIT w_s_MARKED w_s_SCRIPT_ERROR w_s_CAUGHT w_s_MISSED)), .val (.ref b128), .val (.ref b149), .val (.ref b171), .unset, .unset] [(.ref (pick_r ((p0 &&& (2147483647 : Int32)) % (12 : Int32)) w_s_ACCEPTED w_s_PRESENTATION_ERROR w_s_WRONG_ANSWER w_s_COMPILE_ERROR w_s_RUNTIME_ERROR w_s_TIME_LIMIT w_s_OUTPUT_LIMIT w_s_FILE_LIMIT w_s_MARKED w_s_SCRIPT_ERROR w_s_CAUGHT w_s_MISSED)), (.ref b171), (.ref b218), (.ref b218)])) (fun t k => ?_) ?_
  · show Steps p.tables e below (T218.setTop (mkF m 58 #[.val (.int p0), .val (.int p1), .val (.long q2), .second, .val (.int ((p0 &&& (2147483647 : Int32)) % (12 : Int32))), .val (.ref (pick_r ((p0 &&& (2147483647 : Int32)) % (12 : Int32)) w_s_ACCEPTED w_s_PRESENTATION_ERROR w_s_WRONG_ANSWER w_s_COMPILE_ERROR w_s_RUNTIME_ERROR w_s_TIME_LIMIT w_s_OUTPUT_LIMIT w_s_FILE_LIMIT w_s_MARKED w_s_SCRIPT_ERROR w_s_CAUGHT w_s_MISSED)), .val (.ref b128), .val (.ref b149), .val (.ref b171), .unset, .unset] [(.ref b218)])) t
    refine XS.dup X218.here hx rfl (hb hby at_58) rfl rfl ?_
    show Steps p.tables e below (T218.setTop (mkF m 59 #[.val (.int p0), .val (.int p1), .val (.long q2), .second, .val (.int ((p0 &&& (2147483647 : Int32)) % (12 : Int32))), .val (.ref (pick_r ((p0 &&& (2147483647 : Int32)) % (12 : Int32)) w_s_ACCEPTED w_s_PRESENTATION_ERROR w_s_WRONG_ANSWER w_s_COMPILE_ERROR w_s_RUNTIME_ERROR w_s_TIME_LIMIT w_s_OUTPUT_LIMIT w_s_FILE_LIMIT w_s_MARKED w_s_SCRIPT_ERROR w_s_CAUGHT w_s_MISSED)), .val (.ref b128), .val (.ref b149), .val (.ref b171), .unset, .unset] [(.ref b218), (.ref b218)])) t
    refine XS.aload X218.here hx rfl (hb hby at_59) rfl rfl ?_
    show Steps p.tables e below (T218.setTop (mkF m 61 #[.val (.int p0), .val (.int p1), .val (.long q2), .second, .val (.int ((p0 &&& (2147483647 : Int32)) % (12 : Int32))), .val (.ref (pick_r ((p0 &&& (2147483647 : Int32)) % (12 : Int32)) w_s_ACCEPTED w_s_PRESENTATION_ERROR w_s_WRONG_ANSWER w_s_COMPILE_ERROR w_s_RUNTIME_ERROR w_s_TIME_LIMIT w_s_OUTPUT_LIMIT w_s_FILE_LIMIT w_s_MARKED w_s_SCRIPT_ERROR w_s_CAUGHT w_s_MISSED)), .val (.ref b128), .val (.ref b149), .val (.ref b171), .unset, .unset] [(.ref b171), (.ref b218), (.ref b218)])) t
    refine XS.aload X218.here hx rfl (hb hby at_61) rfl rfl ?_
    exact k
  obtain ⟨_, _, ⟨T244, L244, kk244, nn244⟩, -, X244, ⟨Lc244, hQ244, l244, y244, z244⟩, st244⟩ := X218.specialBack hx (y := (⟨"com/example/scorebench/scorebench/grading/Grade$MutantVerdict", "<init>", "(Lcom/example/scorebench/scorebench/assignment/Mutant;Lcom/example/scorebench/scorebench/grading/Verdict;)V"⟩ : MethodName)) rfl hown (mvT hZ (hw _ (List.mem_of_getElem? (i := 55) rfl))) (mvT hZ (hw _ (List.mem_of_getElem? (i := 56) rfl))) (mvT hZ (hw _ (List.mem_of_getElem? (i := 57) rfl))) (by decide) (backOf (W := 1) (mvInit l Z a0 hw [] b218 b171 (pick_r ((p0 &&& (2147483647 : Int32)) % (12 : Int32)) w_s_ACCEPTED w_s_PRESENTATION_ERROR w_s_WRONG_ANSWER w_s_COMPILE_ERROR w_s_RUNTIME_ERROR w_s_TIME_LIMIT w_s_OUTPUT_LIMIT w_s_FILE_LIMIT w_s_MARKED w_s_SCRIPT_ERROR w_s_CAUGHT w_s_MISSED) (.null) (.null) h218 n0 Z222 A218 f242 f243 g_b218) hZ (hw _ (List.mem_of_getElem? (i := 57) rfl)) (hw _ (List.mem_of_getElem? (i := 54) rfl)) (by decide) (by decide)) (g := (mkF m 63 #[.val (.int p0), .val (.int p1), .val (.long q2), .second, .val (.int ((p0 &&& (2147483647 : Int32)) % (12 : Int32))), .val (.ref (pick_r ((p0 &&& (2147483647 : Int32)) % (12 : Int32)) w_s_ACCEPTED w_s_PRESENTATION_ERROR w_s_WRONG_ANSWER w_s_COMPILE_ERROR w_s_RUNTIME_ERROR w_s_TIME_LIMIT w_s_OUTPUT_LIMIT w_s_FILE_LIMIT w_s_MARKED w_s_SCRIPT_ERROR w_s_CAUGHT w_s_MISSED)), .val (.ref b128), .val (.ref b149), .val (.ref b171), .unset, .unset] [(.ref (pick_r ((p0 &&& (2147483647 : Int32)) % (12 : Int32)) w_s_ACCEPTED w_s_PRESENTATION_ERROR w_s_WRONG_ANSWER w_s_COMPILE_ERROR w_s_RUNTIME_ERROR w_s_TIME_LIMIT w_s_OUTPUT_LIMIT w_s_FILE_LIMIT w_s_MARKED w_s_SCRIPT_ERROR w_s_CAUGHT w_s_MISSED)), (.ref b171), (.ref b218), (.ref b218)])) rfl (by rw [hml]; rfl) (Steps.refl _) (a := b218) (argsL := [(.ref b171), (.ref (pick_r ((p0 &&& (2147483647 : Int32)) % (12 : Int32)) w_s_ACCEPTED w_s_PRESENTATION_ERROR w_s_WRONG_ANSWER w_s_COMPILE_ERROR w_s_RUNTIME_ERROR w_s_TIME_LIMIT w_s_OUTPUT_LIMIT w_s_FILE_LIMIT w_s_MARKED w_s_SCRIPT_ERROR w_s_CAUGHT w_s_MISSED))]) (rest := [(.ref b218)]) (lenOf pd_137 rfl) rfl (by show 2 * 0 + _ ≤ _; exact Nat.le_of_eq rfl) (hb hby at_63) (fun _ _ => ⟨rfl, e218, (by decide : 6 + 0 ≤ _), (by decide : 15 + 0 ≤ _)⟩)
  dsimp only [Pt.U, Pt.locs, Pt.cells, Pt.slots] at X244 l244 y244 z244 st244 hQ244
  subst l244 y244 z244
  obtain ⟨rfl, N245, K246, p247, p248, p249⟩ := hQ244
  have N250 := Fr.app N200 N245
  have f251 : Sta Z T244.heap "com/example/scorebench/scorebench/grading/Verdict" "ACCEPTED" "Lcom/example/scorebench/scorebench/grading/Verdict;" (.ref w_s_ACCEPTED) := own_sta_keep f223 K246 (allS (own_plain A218) all0)
  have f252 : Sta Z T244.heap "com/example/scorebench/scorebench/grading/Verdict" "PRESENTATION_ERROR" "Lcom/example/scorebench/scorebench/grading/Verdict;" (.ref w_s_PRESENTATION_ERROR) := own_sta_keep f224 K246 (allS (own_plain A218) all0)
  have f253 : Sta Z T244.heap "com/example/scorebench/scorebench/grading/Verdict" "WRONG_ANSWER" "Lcom/example/scorebench/scorebench/grading/Verdict;" (.ref w_s_WRONG_ANSWER) := own_sta_keep f225 K246 (allS (own_plain A218) all0)
  have f254 : Sta Z T244.heap "com/example/scorebench/scorebench/grading/Verdict" "COMPILE_ERROR" "Lcom/example/scorebench/scorebench/grading/Verdict;" (.ref w_s_COMPILE_ERROR) := own_sta_keep f226 K246 (allS (own_plain A218) all0)
  have f255 : Sta Z T244.heap "com/example/scorebench/scorebench/grading/Verdict" "RUNTIME_ERROR" "Lcom/example/scorebench/scorebench/grading/Verdict;" (.ref w_s_RUNTIME_ERROR) := own_sta_keep f227 K246 (allS (own_plain A218) all0)
  have f256 : Sta Z T244.heap "com/example/scorebench/scorebench/grading/Verdict" "TIME_LIMIT" "Lcom/example/scorebench/scorebench/grading/Verdict;" (.ref w_s_TIME_LIMIT) := own_sta_keep f228 K246 (allS (own_plain A218) all0)
  have f257 : Sta Z T244.heap "com/example/scorebench/scorebench/grading/Verdict" "OUTPUT_LIMIT" "Lcom/example/scorebench/scorebench/grading/Verdict;" (.ref w_s_OUTPUT_LIMIT) := own_sta_keep f229 K246 (allS (own_plain A218) all0)
  have f258 : Sta Z T244.heap "com/example/scorebench/scorebench/grading/Verdict" "FILE_LIMIT" "Lcom/example/scorebench/scorebench/grading/Verdict;" (.ref w_s_FILE_LIMIT) := own_sta_keep f230 K246 (allS (own_plain A218) all0)
  have f259 : Sta Z T244.heap "com/example/scorebench/scorebench/grading/Verdict" "MARKED" "Lcom/example/scorebench/scorebench/grading/Verdict;" (.ref w_s_MARKED) := own_sta_keep f231 K246 (allS (own_plain A218) all0)
  have f260 : Sta Z T244.heap "com/example/scorebench/scorebench/grading/Verdict" "SCRIPT_ERROR" "Lcom/example/scorebench/scorebench/grading/Verdict;" (.ref w_s_SCRIPT_ERROR) := own_sta_keep f232 K246 (allS (own_plain A218) all0)
  have f261 : Sta Z T244.heap "com/example/scorebench/scorebench/grading/Verdict" "CAUGHT" "Lcom/example/scorebench/scorebench/grading/Verdict;" (.ref w_s_CAUGHT) := own_sta_keep f233 K246 (allS (own_plain A218) all0)
  have f262 : Sta Z T244.heap "com/example/scorebench/scorebench/grading/Verdict" "MISSED" "Lcom/example/scorebench/scorebench/grading/Verdict;" (.ref w_s_MISSED) := own_sta_keep f234 K246 (allS (own_plain A218) all0)
  have f263 : Sta Z T244.heap "java/lang/String" "COMPACT_STRINGS" "Z" (.int w_s_COMPACT_STRINGS) := own_sta_keep f235 K246 (allS (own_plain A218) all0)
  have f264 : Exa Z T244.heap b128 "java/lang/String" := f236.keep K246
  have f265 : Exa Z T244.heap b149 "java/lang/String" := f237.keep K246
  have f266 : Exa Z T244.heap b171 "com/example/scorebench/scorebench/assignment/Mutant" := f238.keep K246
  have f267 : Fld Z T244.heap b171 "com/example/scorebench/scorebench/assignment/Mutant" "name" "Ljava/lang/String;" (.ref b128) := f239.keep K246 (ninS ne221 nin0)
  have f268 : Fld Z T244.heap b171 "com/example/scorebench/scorebench/assignment/Mutant" "weight" "J" (.long q2) := f240.keep K246 (ninS ne221 nin0)
  have f269 : Fld Z T244.heap b171 "com/example/scorebench/scorebench/assignment/Mutant" "source" "Ljava/lang/String;" (.ref b149) := f241.keep K246 (ninS ne221 nin0)
  have f270 : Exa Z T244.heap b218 "com/example/scorebench/scorebench/grading/Grade$MutantVerdict" := A218.keep K246
  have Z271 : n0 ≤ T244.heap.size := Nat.le_trans Z222 K246.1
  refine own_goT st244 ?_
  refine own_go (S' := T244.setTop (mkF m 72 #[.val (.int p0), .val (.int p1), .val (.long q2), .second, .val (.int ((p0 &&& (2147483647 : Int32)) % (12 : Int32))), .val (.ref (pick_r ((p0 &&& (2147483647 : Int32)) % (12 : Int32)) w_s_ACCEPTED w_s_PRESENTATION_ERROR w_s_WRONG_ANSWER w_s_COMPILE_ERROR w_s_RUNTIME_ERROR w_s_TIME_LIMIT w_s_OUTPUT_LIMIT w_s_FILE_LIMIT w_s_MARKED w_s_SCRIPT_ERROR w_s_CAUGHT w_s_MISSED)), .val (.ref b128), .val (.ref b149), .val (.ref b171), .val (.ref b218), .unset] [(.int (10 : Int32)), (.int ((p0 &&& (2147483647 : Int32)) % (12 : Int32)))])) (fun t k => ?_) ?_
  · show Steps p.tables e below (T244.setTop (mkF m 66 #[.val (.int p0), .val (.int p1), .val (.long q2), .second, .val (.int ((p0 &&& (2147483647 : Int32)) % (12 : Int32))), .val (.ref (pick_r ((p0 &&& (2147483647 : Int32)) % (12 : Int32)) w_s_ACCEPTED w_s_PRESENTATION_ERROR w_s_WRONG_ANSWER w_s_COMPILE_ERROR w_s_RUNTIME_ERROR w_s_TIME_LIMIT w_s_OUTPUT_LIMIT w_s_FILE_LIMIT w_s_MARKED w_s_SCRIPT_ERROR w_s_CAUGHT w_s_MISSED)), .val (.ref b128), .val (.ref b149), .val (.ref b171), .unset, .unset] [(.ref b218)])) t
    refine XS.astore X244.here hx rfl (hb hby at_66) rfl rfl (l' := #[.val (.int p0), .val (.int p1), .val (.long q2), .second, .val (.int ((p0 &&& (2147483647 : Int32)) % (12 : Int32))), .val (.ref (pick_r ((p0 &&& (2147483647 : Int32)) % (12 : Int32)) w_s_ACCEPTED w_s_PRESENTATION_ERROR w_s_WRONG_ANSWER w_s_COMPILE_ERROR w_s_RUNTIME_ERROR w_s_TIME_LIMIT w_s_OUTPUT_LIMIT w_s_FILE_LIMIT w_s_MARKED w_s_SCRIPT_ERROR w_s_CAUGHT w_s_MISSED)), .val (.ref b128), .val (.ref b149), .val (.ref b171), .val (.ref b218), .unset]) rfl ?_
    show Steps p.tables e below (T244.setTop (mkF m 68 #[.val (.int p0), .val (.int p1), .val (.long q2), .second, .val (.int ((p0 &&& (2147483647 : Int32)) % (12 : Int32))), .val (.ref (pick_r ((p0 &&& (2147483647 : Int32)) % (12 : Int32)) w_s_ACCEPTED w_s_PRESENTATION_ERROR w_s_WRONG_ANSWER w_s_COMPILE_ERROR w_s_RUNTIME_ERROR w_s_TIME_LIMIT w_s_OUTPUT_LIMIT w_s_FILE_LIMIT w_s_MARKED w_s_SCRIPT_ERROR w_s_CAUGHT w_s_MISSED)), .val (.ref b128), .val (.ref b149), .val (.ref b171), .val (.ref b218), .unset] [])) t
    refine XS.iload X244.here hx rfl (hb hby at_68) rfl ?_
    show Steps p.tables e below (T244.setTop (mkF m 70 #[.val (.int p0), .val (.int p1), .val (.long q2), .second, .val (.int ((p0 &&& (2147483647 : Int32)) % (12 : Int32))), .val (.ref (pick_r ((p0 &&& (2147483647 : Int32)) % (12 : Int32)) w_s_ACCEPTED w_s_PRESENTATION_ERROR w_s_WRONG_ANSWER w_s_COMPILE_ERROR w_s_RUNTIME_ERROR w_s_TIME_LIMIT w_s_OUTPUT_LIMIT w_s_FILE_LIMIT w_s_MARKED w_s_SCRIPT_ERROR w_s_CAUGHT w_s_MISSED)), .val (.ref b128), .val (.ref b149), .val (.ref b171), .val (.ref b218), .unset] [(.int ((p0 &&& (2147483647 : Int32)) % (12 : Int32)))])) t
    refine XS.bipush X244.here hx rfl (hb hby at_70) ?_
    exact k
  refine own_go (S' := T244.setTop (mkF m 80 #[.val (.int p0), .val (.int p1), .val (.long q2), .second, .val (.int ((p0 &&& (2147483647 : Int32)) % (12 : Int32))), .val (.ref (pick_r ((p0 &&& (2147483647 : Int32)) % (12 : Int32)) w_s_ACCEPTED w_s_PRESENTATION_ERROR w_s_WRONG_ANSWER w_s_COMPILE_ERROR w_s_RUNTIME_ERROR w_s_TIME_LIMIT w_s_OUTPUT_LIMIT w_s_FILE_LIMIT w_s_MARKED w_s_SCRIPT_ERROR w_s_CAUGHT w_s_MISSED)), .val (.ref b128), .val (.ref b149), .val (.ref b171), .val (.ref b218), .unset] [(.int (if ((p0 &&& (2147483647 : Int32)) % (12 : Int32)) = (10 : Int32) then (1 : Int32) else (0 : Int32)))])) (fun t k => ?_) ?_
  · show Steps p.tables e below (T244.setTop (mkF m 72 #[.val (.int p0), .val (.int p1), .val (.long q2), .second, .val (.int ((p0 &&& (2147483647 : Int32)) % (12 : Int32))), .val (.ref (pick_r ((p0 &&& (2147483647 : Int32)) % (12 : Int32)) w_s_ACCEPTED w_s_PRESENTATION_ERROR w_s_WRONG_ANSWER w_s_COMPILE_ERROR w_s_RUNTIME_ERROR w_s_TIME_LIMIT w_s_OUTPUT_LIMIT w_s_FILE_LIMIT w_s_MARKED w_s_SCRIPT_ERROR w_s_CAUGHT w_s_MISSED)), .val (.ref b128), .val (.ref b149), .val (.ref b171), .val (.ref b218), .unset] [(.int (10 : Int32)), (.int ((p0 &&& (2147483647 : Int32)) % (12 : Int32)))])) t
    by_cases hc72 : ((p0 &&& (2147483647 : Int32)) % (12 : Int32)) = (10 : Int32)
    · show Steps p.tables e below (T244.setTop (mkF m 72 #[.val (.int p0), .val (.int p1), .val (.long q2), .second, .val (.int ((p0 &&& (2147483647 : Int32)) % (12 : Int32))), .val (.ref (pick_r ((p0 &&& (2147483647 : Int32)) % (12 : Int32)) w_s_ACCEPTED w_s_PRESENTATION_ERROR w_s_WRONG_ANSWER w_s_COMPILE_ERROR w_s_RUNTIME_ERROR w_s_TIME_LIMIT w_s_OUTPUT_LIMIT w_s_FILE_LIMIT w_s_MARKED w_s_SCRIPT_ERROR w_s_CAUGHT w_s_MISSED)), .val (.ref b128), .val (.ref b149), .val (.ref b171), .val (.ref b218), .unset] [(.int (10 : Int32)), (.int ((p0 &&& (2147483647 : Int32)) % (12 : Int32)))])) t
      refine XS.icmpNo X244.here hx rfl (hb hby at_72) rfl (teq hc72).2 ?_
      show Steps p.tables e below (T244.setTop (mkF m 75 #[.val (.int p0), .val (.int p1), .val (.long q2), .second, .val (.int ((p0 &&& (2147483647 : Int32)) % (12 : Int32))), .val (.ref (pick_r ((p0 &&& (2147483647 : Int32)) % (12 : Int32)) w_s_ACCEPTED w_s_PRESENTATION_ERROR w_s_WRONG_ANSWER w_s_COMPILE_ERROR w_s_RUNTIME_ERROR w_s_TIME_LIMIT w_s_OUTPUT_LIMIT w_s_FILE_LIMIT w_s_MARKED w_s_SCRIPT_ERROR w_s_CAUGHT w_s_MISSED)), .val (.ref b128), .val (.ref b149), .val (.ref b171), .val (.ref b218), .unset] [])) t
      refine XS.iconst X244.here hx rfl (hb hby at_75) ?_
      show Steps p.tables e below (T244.setTop (mkF m 76 #[.val (.int p0), .val (.int p1), .val (.long q2), .second, .val (.int ((p0 &&& (2147483647 : Int32)) % (12 : Int32))), .val (.ref (pick_r ((p0 &&& (2147483647 : Int32)) % (12 : Int32)) w_s_ACCEPTED w_s_PRESENTATION_ERROR w_s_WRONG_ANSWER w_s_COMPILE_ERROR w_s_RUNTIME_ERROR w_s_TIME_LIMIT w_s_OUTPUT_LIMIT w_s_FILE_LIMIT w_s_MARKED w_s_SCRIPT_ERROR w_s_CAUGHT w_s_MISSED)), .val (.ref b128), .val (.ref b149), .val (.ref b171), .val (.ref b218), .unset] [(.int (1 : Int32))])) t
      refine XS.goto X244.here hx rfl (pc0 := 76) (pc' := 80) rfl (hb hby at_76) (by decide) (by decide) ?_
      first | exact k | (simp only [if_pos hc72] at k ⊢; exact k)
    · show Steps p.tables e below (T244.setTop (mkF m 72 #[.val (.int p0), .val (.int p1), .val (.long q2), .second, .val (.int ((p0 &&& (2147483647 : Int32)) % (12 : Int32))), .val (.ref (pick_r ((p0 &&& (2147483647 : Int32)) % (12 : Int32)) w_s_ACCEPTED w_s_PRESENTATION_ERROR w_s_WRONG_ANSWER w_s_COMPILE_ERROR w_s_RUNTIME_ERROR w_s_TIME_LIMIT w_s_OUTPUT_LIMIT w_s_FILE_LIMIT w_s_MARKED w_s_SCRIPT_ERROR w_s_CAUGHT w_s_MISSED)), .val (.ref b128), .val (.ref b149), .val (.ref b171), .val (.ref b218), .unset] [(.int (10 : Int32)), (.int ((p0 &&& (2147483647 : Int32)) % (12 : Int32)))])) t
      refine XS.icmpYes X244.here hx rfl (pc0 := 72) (pc' := 79) rfl (hb hby at_72) rfl (feq hc72).2 (by decide) (by decide) ?_
      show Steps p.tables e below (T244.setTop (mkF m 79 #[.val (.int p0), .val (.int p1), .val (.long q2), .second, .val (.int ((p0 &&& (2147483647 : Int32)) % (12 : Int32))), .val (.ref (pick_r ((p0 &&& (2147483647 : Int32)) % (12 : Int32)) w_s_ACCEPTED w_s_PRESENTATION_ERROR w_s_WRONG_ANSWER w_s_COMPILE_ERROR w_s_RUNTIME_ERROR w_s_TIME_LIMIT w_s_OUTPUT_LIMIT w_s_FILE_LIMIT w_s_MARKED w_s_SCRIPT_ERROR w_s_CAUGHT w_s_MISSED)), .val (.ref b128), .val (.ref b149), .val (.ref b171), .val (.ref b218), .unset] [])) t
      refine XS.iconst X244.here hx rfl (hb hby at_79) ?_
      first | exact k | (simp only [if_neg hc72] at k ⊢; exact k)
  refine own_go (S' := T244.setTop (mkF m 84 #[.val (.int p0), .val (.int p1), .val (.long q2), .second, .val (.int ((p0 &&& (2147483647 : Int32)) % (12 : Int32))), .val (.ref (pick_r ((p0 &&& (2147483647 : Int32)) % (12 : Int32)) w_s_ACCEPTED w_s_PRESENTATION_ERROR w_s_WRONG_ANSWER w_s_COMPILE_ERROR w_s_RUNTIME_ERROR w_s_TIME_LIMIT w_s_OUTPUT_LIMIT w_s_FILE_LIMIT w_s_MARKED w_s_SCRIPT_ERROR w_s_CAUGHT w_s_MISSED)), .val (.ref b128), .val (.ref b149), .val (.ref b171), .val (.ref b218), .val (.int (if ((p0 &&& (2147483647 : Int32)) % (12 : Int32)) = (10 : Int32) then (1 : Int32) else (0 : Int32)))] [(.ref b218)])) (fun t k => ?_) ?_
  · show Steps p.tables e below (T244.setTop (mkF m 80 #[.val (.int p0), .val (.int p1), .val (.long q2), .second, .val (.int ((p0 &&& (2147483647 : Int32)) % (12 : Int32))), .val (.ref (pick_r ((p0 &&& (2147483647 : Int32)) % (12 : Int32)) w_s_ACCEPTED w_s_PRESENTATION_ERROR w_s_WRONG_ANSWER w_s_COMPILE_ERROR w_s_RUNTIME_ERROR w_s_TIME_LIMIT w_s_OUTPUT_LIMIT w_s_FILE_LIMIT w_s_MARKED w_s_SCRIPT_ERROR w_s_CAUGHT w_s_MISSED)), .val (.ref b128), .val (.ref b149), .val (.ref b171), .val (.ref b218), .unset] [(.int (if ((p0 &&& (2147483647 : Int32)) % (12 : Int32)) = (10 : Int32) then (1 : Int32) else (0 : Int32)))])) t
    refine XS.istore X244.here hx rfl (hb hby at_80) rfl (l' := #[.val (.int p0), .val (.int p1), .val (.long q2), .second, .val (.int ((p0 &&& (2147483647 : Int32)) % (12 : Int32))), .val (.ref (pick_r ((p0 &&& (2147483647 : Int32)) % (12 : Int32)) w_s_ACCEPTED w_s_PRESENTATION_ERROR w_s_WRONG_ANSWER w_s_COMPILE_ERROR w_s_RUNTIME_ERROR w_s_TIME_LIMIT w_s_OUTPUT_LIMIT w_s_FILE_LIMIT w_s_MARKED w_s_SCRIPT_ERROR w_s_CAUGHT w_s_MISSED)), .val (.ref b128), .val (.ref b149), .val (.ref b171), .val (.ref b218), .val (.int (if ((p0 &&& (2147483647 : Int32)) % (12 : Int32)) = (10 : Int32) then (1 : Int32) else (0 : Int32)))]) rfl ?_
    show Steps p.tables e below (T244.setTop (mkF m 82 #[.val (.int p0), .val (.int p1), .val (.long q2), .second, .val (.int ((p0 &&& (2147483647 : Int32)) % (12 : Int32))), .val (.ref (pick_r ((p0 &&& (2147483647 : Int32)) % (12 : Int32)) w_s_ACCEPTED w_s_PRESENTATION_ERROR w_s_WRONG_ANSWER w_s_COMPILE_ERROR w_s_RUNTIME_ERROR w_s_TIME_LIMIT w_s_OUTPUT_LIMIT w_s_FILE_LIMIT w_s_MARKED w_s_SCRIPT_ERROR w_s_CAUGHT w_s_MISSED)), .val (.ref b128), .val (.ref b149), .val (.ref b171), .val (.ref b218), .val (.int (if ((p0 &&& (2147483647 : Int32)) % (12 : Int32)) = (10 : Int32) then (1 : Int32) else (0 : Int32)))] [])) t
    refine XS.aload X244.here hx rfl (hb hby at_82) rfl rfl ?_
    exact k
  obtain ⟨cq272, kq272, qa272, qb272, qc272⟩ := isOf hZ rfl p247
  obtain ⟨_, _, ⟨T272, L272, kk272, nn272⟩, -, X272, ⟨Lc272, hQ272, l272, y272, z272⟩, st272⟩ := X244.virtualBack hx (y := (⟨"com/example/scorebench/scorebench/grading/Grade$MutantVerdict", "caught", "()Z"⟩ : MethodName)) (z := (⟨"com/example/scorebench/scorebench/grading/Grade$MutantVerdict", "caught", "()Z"⟩ : MethodName)) hown (mvT hZ (hw _ (List.mem_of_getElem? (i := 63) rfl))) (mvT hZ (hw _ (List.mem_of_getElem? (i := 64) rfl))) (notFace_of_selects (args := #[]) (mvT hZ (hw _ (List.mem_of_getElem? (i := 66) rfl)))) (mvT hZ (hw _ (List.mem_of_getElem? (i := 66) rfl))) (mvT hZ (hw _ (List.mem_of_getElem? (i := 65) rfl))) (by decide) (backOf (W := 0) (caught l Z a0 hw [] b218 (pick_r ((p0 &&& (2147483647 : Int32)) % (12 : Int32)) w_s_ACCEPTED w_s_PRESENTATION_ERROR w_s_WRONG_ANSWER w_s_COMPILE_ERROR w_s_RUNTIME_ERROR w_s_TIME_LIMIT w_s_OUTPUT_LIMIT w_s_FILE_LIMIT w_s_MARKED w_s_SCRIPT_ERROR w_s_CAUGHT w_s_MISSED) w_s_CAUGHT T244.heap n0 Z271 p249 f261) hZ (hw _ (List.mem_of_getElem? (i := 67) rfl)) (hw _ (List.mem_of_getElem? (i := 54) rfl)) (by decide) (by decide)) qa272 qc272 (g := (mkF m 84 #[.val (.int p0), .val (.int p1), .val (.long q2), .second, .val (.int ((p0 &&& (2147483647 : Int32)) % (12 : Int32))), .val (.ref (pick_r ((p0 &&& (2147483647 : Int32)) % (12 : Int32)) w_s_ACCEPTED w_s_PRESENTATION_ERROR w_s_WRONG_ANSWER w_s_COMPILE_ERROR w_s_RUNTIME_ERROR w_s_TIME_LIMIT w_s_OUTPUT_LIMIT w_s_FILE_LIMIT w_s_MARKED w_s_SCRIPT_ERROR w_s_CAUGHT w_s_MISSED)), .val (.ref b128), .val (.ref b149), .val (.ref b171), .val (.ref b218), .val (.int (if ((p0 &&& (2147483647 : Int32)) % (12 : Int32)) = (10 : Int32) then (1 : Int32) else (0 : Int32)))] [(.ref b218)])) rfl (by rw [hml]; rfl) (Steps.refl _) (argsL := []) (rest := []) (lenOf pd_138 rfl) rfl (by show 2 * 0 + _ ≤ _; exact Nat.le_of_eq rfl) (hb hby at_84) (fun _ _ => ⟨rfl, rfl, (by decide : 6 + 0 ≤ _), (by decide : 15 + 0 ≤ _)⟩)
  dsimp only [Pt.U, Pt.locs, Pt.cells, Pt.slots] at X272 l272 y272 z272 st272 hQ272
  subst l272 y272 z272
  obtain ⟨rfl, N273, e272⟩ := hQ272
  have N275 := Fr.app N250 N273
  refine own_goT st272 ?_
  refine own_go (S' := T272.setTop (mkF m 89 #[.val (.int p0), .val (.int p1), .val (.long q2), .second, .val (.int ((p0 &&& (2147483647 : Int32)) % (12 : Int32))), .val (.ref (pick_r ((p0 &&& (2147483647 : Int32)) % (12 : Int32)) w_s_ACCEPTED w_s_PRESENTATION_ERROR w_s_WRONG_ANSWER w_s_COMPILE_ERROR w_s_RUNTIME_ERROR w_s_TIME_LIMIT w_s_OUTPUT_LIMIT w_s_FILE_LIMIT w_s_MARKED w_s_SCRIPT_ERROR w_s_CAUGHT w_s_MISSED)), .val (.ref b128), .val (.ref b149), .val (.ref b171), .val (.ref b218), .val (.int (if ((p0 &&& (2147483647 : Int32)) % (12 : Int32)) = (10 : Int32) then (1 : Int32) else (0 : Int32)))] [(.int (if ((p0 &&& (2147483647 : Int32)) % (12 : Int32)) = (10 : Int32) then (1 : Int32) else (0 : Int32))), (.int (caught_r (pick_r ((p0 &&& (2147483647 : Int32)) % (12 : Int32)) w_s_ACCEPTED w_s_PRESENTATION_ERROR w_s_WRONG_ANSWER w_s_COMPILE_ERROR w_s_RUNTIME_ERROR w_s_TIME_LIMIT w_s_OUTPUT_LIMIT w_s_FILE_LIMIT w_s_MARKED w_s_SCRIPT_ERROR w_s_CAUGHT w_s_MISSED) w_s_CAUGHT))])) (fun t k => ?_) ?_
  · show Steps p.tables e below (T272.setTop (mkF m 87 #[.val (.int p0), .val (.int p1), .val (.long q2), .second, .val (.int ((p0 &&& (2147483647 : Int32)) % (12 : Int32))), .val (.ref (pick_r ((p0 &&& (2147483647 : Int32)) % (12 : Int32)) w_s_ACCEPTED w_s_PRESENTATION_ERROR w_s_WRONG_ANSWER w_s_COMPILE_ERROR w_s_RUNTIME_ERROR w_s_TIME_LIMIT w_s_OUTPUT_LIMIT w_s_FILE_LIMIT w_s_MARKED w_s_SCRIPT_ERROR w_s_CAUGHT w_s_MISSED)), .val (.ref b128), .val (.ref b149), .val (.ref b171), .val (.ref b218), .val (.int (if ((p0 &&& (2147483647 : Int32)) % (12 : Int32)) = (10 : Int32) then (1 : Int32) else (0 : Int32)))] [(.int (caught_r (pick_r ((p0 &&& (2147483647 : Int32)) % (12 : Int32)) w_s_ACCEPTED w_s_PRESENTATION_ERROR w_s_WRONG_ANSWER w_s_COMPILE_ERROR w_s_RUNTIME_ERROR w_s_TIME_LIMIT w_s_OUTPUT_LIMIT w_s_FILE_LIMIT w_s_MARKED w_s_SCRIPT_ERROR w_s_CAUGHT w_s_MISSED) w_s_CAUGHT))])) t
    refine XS.iload X272.here hx rfl (hb hby at_87) rfl ?_
    exact k
  refine own_go (S' := T272.setTop (mkF m 97 #[.val (.int p0), .val (.int p1), .val (.long q2), .second, .val (.int ((p0 &&& (2147483647 : Int32)) % (12 : Int32))), .val (.ref (pick_r ((p0 &&& (2147483647 : Int32)) % (12 : Int32)) w_s_ACCEPTED w_s_PRESENTATION_ERROR w_s_WRONG_ANSWER w_s_COMPILE_ERROR w_s_RUNTIME_ERROR w_s_TIME_LIMIT w_s_OUTPUT_LIMIT w_s_FILE_LIMIT w_s_MARKED w_s_SCRIPT_ERROR w_s_CAUGHT w_s_MISSED)), .val (.ref b128), .val (.ref b149), .val (.ref b171), .val (.ref b218), .val (.int (if ((p0 &&& (2147483647 : Int32)) % (12 : Int32)) = (10 : Int32) then (1 : Int32) else (0 : Int32)))] [(.int (if (caught_r (pick_r ((p0 &&& (2147483647 : Int32)) % (12 : Int32)) w_s_ACCEPTED w_s_PRESENTATION_ERROR w_s_WRONG_ANSWER w_s_COMPILE_ERROR w_s_RUNTIME_ERROR w_s_TIME_LIMIT w_s_OUTPUT_LIMIT w_s_FILE_LIMIT w_s_MARKED w_s_SCRIPT_ERROR w_s_CAUGHT w_s_MISSED) w_s_CAUGHT) = (if ((p0 &&& (2147483647 : Int32)) % (12 : Int32)) = (10 : Int32) then (1 : Int32) else (0 : Int32)) then (1 : Int32) else (0 : Int32)))])) (fun t k => ?_) ?_
  · show Steps p.tables e below (T272.setTop (mkF m 89 #[.val (.int p0), .val (.int p1), .val (.long q2), .second, .val (.int ((p0 &&& (2147483647 : Int32)) % (12 : Int32))), .val (.ref (pick_r ((p0 &&& (2147483647 : Int32)) % (12 : Int32)) w_s_ACCEPTED w_s_PRESENTATION_ERROR w_s_WRONG_ANSWER w_s_COMPILE_ERROR w_s_RUNTIME_ERROR w_s_TIME_LIMIT w_s_OUTPUT_LIMIT w_s_FILE_LIMIT w_s_MARKED w_s_SCRIPT_ERROR w_s_CAUGHT w_s_MISSED)), .val (.ref b128), .val (.ref b149), .val (.ref b171), .val (.ref b218), .val (.int (if ((p0 &&& (2147483647 : Int32)) % (12 : Int32)) = (10 : Int32) then (1 : Int32) else (0 : Int32)))] [(.int (if ((p0 &&& (2147483647 : Int32)) % (12 : Int32)) = (10 : Int32) then (1 : Int32) else (0 : Int32))), (.int (caught_r (pick_r ((p0 &&& (2147483647 : Int32)) % (12 : Int32)) w_s_ACCEPTED w_s_PRESENTATION_ERROR w_s_WRONG_ANSWER w_s_COMPILE_ERROR w_s_RUNTIME_ERROR w_s_TIME_LIMIT w_s_OUTPUT_LIMIT w_s_FILE_LIMIT w_s_MARKED w_s_SCRIPT_ERROR w_s_CAUGHT w_s_MISSED) w_s_CAUGHT))])) t
    by_cases hc89 : (caught_r (pick_r ((p0 &&& (2147483647 : Int32)) % (12 : Int32)) w_s_ACCEPTED w_s_PRESENTATION_ERROR w_s_WRONG_ANSWER w_s_COMPILE_ERROR w_s_RUNTIME_ERROR w_s_TIME_LIMIT w_s_OUTPUT_LIMIT w_s_FILE_LIMIT w_s_MARKED w_s_SCRIPT_ERROR w_s_CAUGHT w_s_MISSED) w_s_CAUGHT) = (if ((p0 &&& (2147483647 : Int32)) % (12 : Int32)) = (10 : Int32) then (1 : Int32) else (0 : Int32))
    · show Steps p.tables e below (T272.setTop (mkF m 89 #[.val (.int p0), .val (.int p1), .val (.long q2), .second, .val (.int ((p0 &&& (2147483647 : Int32)) % (12 : Int32))), .val (.ref (pick_r ((p0 &&& (2147483647 : Int32)) % (12 : Int32)) w_s_ACCEPTED w_s_PRESENTATION_ERROR w_s_WRONG_ANSWER w_s_COMPILE_ERROR w_s_RUNTIME_ERROR w_s_TIME_LIMIT w_s_OUTPUT_LIMIT w_s_FILE_LIMIT w_s_MARKED w_s_SCRIPT_ERROR w_s_CAUGHT w_s_MISSED)), .val (.ref b128), .val (.ref b149), .val (.ref b171), .val (.ref b218), .val (.int (if ((p0 &&& (2147483647 : Int32)) % (12 : Int32)) = (10 : Int32) then (1 : Int32) else (0 : Int32)))] [(.int (if ((p0 &&& (2147483647 : Int32)) % (12 : Int32)) = (10 : Int32) then (1 : Int32) else (0 : Int32))), (.int (caught_r (pick_r ((p0 &&& (2147483647 : Int32)) % (12 : Int32)) w_s_ACCEPTED w_s_PRESENTATION_ERROR w_s_WRONG_ANSWER w_s_COMPILE_ERROR w_s_RUNTIME_ERROR w_s_TIME_LIMIT w_s_OUTPUT_LIMIT w_s_FILE_LIMIT w_s_MARKED w_s_SCRIPT_ERROR w_s_CAUGHT w_s_MISSED) w_s_CAUGHT))])) t
      refine XS.icmpNo X272.here hx rfl (hb hby at_89) rfl (teq hc89).2 ?_
      show Steps p.tables e below (T272.setTop (mkF m 92 #[.val (.int p0), .val (.int p1), .val (.long q2), .second, .val (.int ((p0 &&& (2147483647 : Int32)) % (12 : Int32))), .val (.ref (pick_r ((p0 &&& (2147483647 : Int32)) % (12 : Int32)) w_s_ACCEPTED w_s_PRESENTATION_ERROR w_s_WRONG_ANSWER w_s_COMPILE_ERROR w_s_RUNTIME_ERROR w_s_TIME_LIMIT w_s_OUTPUT_LIMIT w_s_FILE_LIMIT w_s_MARKED w_s_SCRIPT_ERROR w_s_CAUGHT w_s_MISSED)), .val (.ref b128), .val (.ref b149), .val (.ref b171), .val (.ref b218), .val (.int (if ((p0 &&& (2147483647 : Int32)) % (12 : Int32)) = (10 : Int32) then (1 : Int32) else (0 : Int32)))] [])) t
      refine XS.iconst X272.here hx rfl (hb hby at_92) ?_
      show Steps p.tables e below (T272.setTop (mkF m 93 #[.val (.int p0), .val (.int p1), .val (.long q2), .second, .val (.int ((p0 &&& (2147483647 : Int32)) % (12 : Int32))), .val (.ref (pick_r ((p0 &&& (2147483647 : Int32)) % (12 : Int32)) w_s_ACCEPTED w_s_PRESENTATION_ERROR w_s_WRONG_ANSWER w_s_COMPILE_ERROR w_s_RUNTIME_ERROR w_s_TIME_LIMIT w_s_OUTPUT_LIMIT w_s_FILE_LIMIT w_s_MARKED w_s_SCRIPT_ERROR w_s_CAUGHT w_s_MISSED)), .val (.ref b128), .val (.ref b149), .val (.ref b171), .val (.ref b218), .val (.int (if ((p0 &&& (2147483647 : Int32)) % (12 : Int32)) = (10 : Int32) then (1 : Int32) else (0 : Int32)))] [(.int (1 : Int32))])) t
      refine XS.goto X272.here hx rfl (pc0 := 93) (pc' := 97) rfl (hb hby at_93) (by decide) (by decide) ?_
      first | exact k | (simp only [if_pos hc89] at k ⊢; exact k)
    · show Steps p.tables e below (T272.setTop (mkF m 89 #[.val (.int p0), .val (.int p1), .val (.long q2), .second, .val (.int ((p0 &&& (2147483647 : Int32)) % (12 : Int32))), .val (.ref (pick_r ((p0 &&& (2147483647 : Int32)) % (12 : Int32)) w_s_ACCEPTED w_s_PRESENTATION_ERROR w_s_WRONG_ANSWER w_s_COMPILE_ERROR w_s_RUNTIME_ERROR w_s_TIME_LIMIT w_s_OUTPUT_LIMIT w_s_FILE_LIMIT w_s_MARKED w_s_SCRIPT_ERROR w_s_CAUGHT w_s_MISSED)), .val (.ref b128), .val (.ref b149), .val (.ref b171), .val (.ref b218), .val (.int (if ((p0 &&& (2147483647 : Int32)) % (12 : Int32)) = (10 : Int32) then (1 : Int32) else (0 : Int32)))] [(.int (if ((p0 &&& (2147483647 : Int32)) % (12 : Int32)) = (10 : Int32) then (1 : Int32) else (0 : Int32))), (.int (caught_r (pick_r ((p0 &&& (2147483647 : Int32)) % (12 : Int32)) w_s_ACCEPTED w_s_PRESENTATION_ERROR w_s_WRONG_ANSWER w_s_COMPILE_ERROR w_s_RUNTIME_ERROR w_s_TIME_LIMIT w_s_OUTPUT_LIMIT w_s_FILE_LIMIT w_s_MARKED w_s_SCRIPT_ERROR w_s_CAUGHT w_s_MISSED) w_s_CAUGHT))])) t
      refine XS.icmpYes X272.here hx rfl (pc0 := 89) (pc' := 96) rfl (hb hby at_89) rfl (feq hc89).2 (by decide) (by decide) ?_
      show Steps p.tables e below (T272.setTop (mkF m 96 #[.val (.int p0), .val (.int p1), .val (.long q2), .second, .val (.int ((p0 &&& (2147483647 : Int32)) % (12 : Int32))), .val (.ref (pick_r ((p0 &&& (2147483647 : Int32)) % (12 : Int32)) w_s_ACCEPTED w_s_PRESENTATION_ERROR w_s_WRONG_ANSWER w_s_COMPILE_ERROR w_s_RUNTIME_ERROR w_s_TIME_LIMIT w_s_OUTPUT_LIMIT w_s_FILE_LIMIT w_s_MARKED w_s_SCRIPT_ERROR w_s_CAUGHT w_s_MISSED)), .val (.ref b128), .val (.ref b149), .val (.ref b171), .val (.ref b218), .val (.int (if ((p0 &&& (2147483647 : Int32)) % (12 : Int32)) = (10 : Int32) then (1 : Int32) else (0 : Int32)))] [])) t
      refine XS.iconst X272.here hx rfl (hb hby at_96) ?_
      first | exact k | (simp only [if_neg hc89] at k ⊢; exact k)
  have hfin : (if (caught_r (pick_r ((p0 &&& (2147483647 : Int32)) % (12 : Int32)) w_s_ACCEPTED w_s_PRESENTATION_ERROR w_s_WRONG_ANSWER w_s_COMPILE_ERROR w_s_RUNTIME_ERROR w_s_TIME_LIMIT w_s_OUTPUT_LIMIT w_s_FILE_LIMIT w_s_MARKED w_s_SCRIPT_ERROR w_s_CAUGHT w_s_MISSED) w_s_CAUGHT) = (if ((p0 &&& (2147483647 : Int32)) % (12 : Int32)) = (10 : Int32) then (1 : Int32) else (0 : Int32)) then (1 : Int32) else (0 : Int32)) = (1 : Int32) := own_fin _ w_s_ACCEPTED w_s_PRESENTATION_ERROR w_s_WRONG_ANSWER w_s_COMPILE_ERROR w_s_RUNTIME_ERROR w_s_TIME_LIMIT w_s_OUTPUT_LIMIT w_s_FILE_LIMIT w_s_MARKED w_s_SCRIPT_ERROR w_s_CAUGHT w_s_MISSED ne_ACCEPTED ne_PRESENTATION_ERROR ne_WRONG_ANSWER ne_COMPILE_ERROR ne_RUNTIME_ERROR ne_TIME_LIMIT ne_OUTPUT_LIMIT ne_FILE_LIMIT ne_MARKED ne_SCRIPT_ERROR ne_MISSED
  rw [hfin]
  obtain ⟨fs, hr, hrun, hended, hW, hsame⟩ := X272.leave (v := some (.int (1 : Int32))) (fun h => by rw [Bd.returns] at h; cases h)
  refine own_end (v := some (.int (1 : Int32))) ?_ hrun hended ?_ hW (hsame.mono (by decide) (by decide))
  · show Steps p.tables e below (T272.setTop (mkF m 97 #[.val (.int p0), .val (.int p1), .val (.long q2), .second, .val (.int ((p0 &&& (2147483647 : Int32)) % (12 : Int32))), .val (.ref (pick_r ((p0 &&& (2147483647 : Int32)) % (12 : Int32)) w_s_ACCEPTED w_s_PRESENTATION_ERROR w_s_WRONG_ANSWER w_s_COMPILE_ERROR w_s_RUNTIME_ERROR w_s_TIME_LIMIT w_s_OUTPUT_LIMIT w_s_FILE_LIMIT w_s_MARKED w_s_SCRIPT_ERROR w_s_CAUGHT w_s_MISSED)), .val (.ref b128), .val (.ref b149), .val (.ref b171), .val (.ref b218), .val (.int (if ((p0 &&& (2147483647 : Int32)) % (12 : Int32)) = (10 : Int32) then (1 : Int32) else (0 : Int32)))] [(.int (1 : Int32))])) _
    exact retN X272 hx (t := .boolean) Bd.returns (by simp) (hb hby at_97) hr
  · show Qrm0 Z p0 p1 q2 w_s_ACCEPTED w_s_PRESENTATION_ERROR w_s_WRONG_ANSWER w_s_COMPILE_ERROR w_s_RUNTIME_ERROR w_s_TIME_LIMIT w_s_OUTPUT_LIMIT w_s_FILE_LIMIT w_s_MARKED w_s_SCRIPT_ERROR w_s_CAUGHT w_s_MISSED w_s_COMPACT_STRINGS h0 n0 _ T272.heap _
    rw [e272]
    exact ⟨rfl, N275⟩
set_option maxRecDepth 65536 in
set_option maxHeartbeats 40000000 in
theorem comes_1 {Post : Tables → Env → Array Value → State → Outcome → State → Prop} (hpost : ∀ tb e args s v u, (limb_1_1.after args s (.returned v) u = true ∧ limb_1_2.after args s (.returned v) u = true ∧ True) → FrameEnd s (.returned v) u (Jvm.fieldLocs frame_1_writes args s ++ Jvm.arrayLocs frame_1_arrays args s ++ Jvm.staticLocs frame_1_statics s) 24 128 → Post tb e args s (.returned v) u) :
    ArmFor flags0 classFile x code maxLocals ret World_1 tables_1 room_1 Calls_1 rest_1 Pre_1 Post := by
  intro l hfl _ _ p e ha hc hk s m args below hf hA hF happ hP
  obtain ⟨hcalls, hrest, hpre⟩ := hP
  obtain ⟨-, -, -, hnamed, -, -, -, hat⟩ := (Spec.applies_iff hf).mp happ
  obtain ⟨hg, hn⟩ := and_e (Cond.before_iff.mp (show (Jvm.Cond.and given_1 narrow_1).before args s = true from hpre))
  obtain ⟨g322, g323⟩ := and_e hg
  obtain ⟨g324, g325⟩ := and_e g323
  obtain ⟨g326, g327⟩ := and_e g325
  obtain ⟨w0, w1, w2, rfl⟩ : ∃ w0 w1 w2 : Value, args = #[w0, w1, w2] := by
    have hs : args.size = 3 := by simpa [Cond.value, given_1] using g322
    obtain ⟨L⟩ := args
    match L, hs with
    | [w0, w1, w2], _ => exact ⟨w0, w1, w2, rfl⟩
  have hw := fun d (hd : d ∈ tables_1) => atoms_spec (ws := Jvm.Cond.code x code maxLocals ret :: tables_1) hat d (List.mem_cons_of_mem _ hd)
  have hfit : Fit s := fun {y c} hc i hi => by
    obtain ⟨ha, rfl⟩ := Array.getElem?_eq_some_iff.mp hc
    have q := List.all_eq_true.mp ((Array.all_eq_true_iff_forall_mem.mp hF) _ (Array.getElem_mem ha)) i (List.mem_range.mpr hi)
    simpa [Array.getElem?_eq_getElem hi] using q
  obtain ⟨hsets, hown0⟩ := atoms_of _ (rest_1_c_eq ▸ (show rest_1_c.before _ s = true from hrest))
  have hr0 := Cond.before_iff.mp hown0
  obtain ⟨i0, ei0⟩ := is_v g324
  obtain rfl : w0 = (.int i0) := Option.some.inj ei0
  obtain ⟨i1, ei1⟩ := is_v g326
  obtain rfl : w1 = (.int i1) := Option.some.inj ei1
  obtain ⟨i2, ei2⟩ := isL_v g327
  obtain rfl : w2 = (.long i2) := Option.some.inj ei2
  obtain ⟨n276, n277⟩ := and_e hn
  obtain ⟨n278, n279⟩ := and_e n277
  obtain ⟨n280, n281⟩ := and_e n279
  obtain ⟨n282, n283⟩ := and_e n281
  obtain ⟨n284, n285⟩ := and_e n283
  obtain ⟨n286, n287⟩ := and_e n285
  obtain ⟨n288, n289⟩ := and_e n287
  obtain ⟨n290, n291⟩ := and_e n289
  obtain ⟨n292, n293⟩ := and_e n291
  obtain ⟨n294, n295⟩ := and_e n293
  obtain ⟨n296, n297⟩ := and_e n295
  obtain ⟨n298, n299⟩ := and_e n297
  obtain ⟨n300, n301⟩ := and_e n299
  obtain ⟨n302, n303⟩ := and_e n301
  obtain ⟨n304, n305⟩ := and_e n303
  obtain ⟨n306, n307⟩ := and_e n305
  obtain ⟨n308, n309⟩ := and_e n307
  obtain ⟨n310, n311⟩ := and_e n309
  obtain ⟨n312, n313⟩ := and_e n311
  obtain ⟨n314, n315⟩ := and_e n313
  obtain ⟨n316, n317⟩ := and_e n315
  obtain ⟨n318, n319⟩ := and_e n317
  obtain ⟨n320, n321⟩ := and_e n319
  obtain ⟨a_ACCEPTED, ev_ACCEPTED⟩ := exa_v n276
  have E_ACCEPTED : Exa s s.heap a_ACCEPTED "com/example/scorebench/scorebench/grading/Verdict" := Exa.start ev_ACCEPTED n276
  have S_ACCEPTED : Sta s s.heap "com/example/scorebench/scorebench/grading/Verdict" "ACCEPTED" "Lcom/example/scorebench/scorebench/grading/Verdict;" (.ref a_ACCEPTED) := Sta.start ev_ACCEPTED (Or.inr ⟨(hw _ (List.mem_of_getElem? (i := 6) rfl)), (hw _ (List.mem_of_getElem? (i := 7) rfl))⟩)
  obtain ⟨a_CAUGHT, ev_CAUGHT⟩ := exa_v n278
  have E_CAUGHT : Exa s s.heap a_CAUGHT "com/example/scorebench/scorebench/grading/Verdict" := Exa.start ev_CAUGHT n278
  have S_CAUGHT : Sta s s.heap "com/example/scorebench/scorebench/grading/Verdict" "CAUGHT" "Lcom/example/scorebench/scorebench/grading/Verdict;" (.ref a_CAUGHT) := Sta.start ev_CAUGHT (Or.inr ⟨(hw _ (List.mem_of_getElem? (i := 6) rfl)), (hw _ (List.mem_of_getElem? (i := 69) rfl))⟩)
  obtain ⟨a_FILE_LIMIT, ev_FILE_LIMIT⟩ := exa_v n284
  have E_FILE_LIMIT : Exa s s.heap a_FILE_LIMIT "com/example/scorebench/scorebench/grading/Verdict" := Exa.start ev_FILE_LIMIT n284
  have S_FILE_LIMIT : Sta s s.heap "com/example/scorebench/scorebench/grading/Verdict" "FILE_LIMIT" "Lcom/example/scorebench/scorebench/grading/Verdict;" (.ref a_FILE_LIMIT) := Sta.start ev_FILE_LIMIT (Or.inr ⟨(hw _ (List.mem_of_getElem? (i := 6) rfl)), (hw _ (List.mem_of_getElem? (i := 71) rfl))⟩)
  obtain ⟨a_MISSED, ev_MISSED⟩ := exa_v n288
  have E_MISSED : Exa s s.heap a_MISSED "com/example/scorebench/scorebench/grading/Verdict" := Exa.start ev_MISSED n288
  have S_MISSED : Sta s s.heap "com/example/scorebench/scorebench/grading/Verdict" "MISSED" "Lcom/example/scorebench/scorebench/grading/Verdict;" (.ref a_MISSED) := Sta.start ev_MISSED (Or.inr ⟨(hw _ (List.mem_of_getElem? (i := 6) rfl)), (hw _ (List.mem_of_getElem? (i := 74) rfl))⟩)
  obtain ⟨a_MARKED, ev_MARKED⟩ := exa_v n292
  have E_MARKED : Exa s s.heap a_MARKED "com/example/scorebench/scorebench/grading/Verdict" := Exa.start ev_MARKED n292
  have S_MARKED : Sta s s.heap "com/example/scorebench/scorebench/grading/Verdict" "MARKED" "Lcom/example/scorebench/scorebench/grading/Verdict;" (.ref a_MARKED) := Sta.start ev_MARKED (Or.inr ⟨(hw _ (List.mem_of_getElem? (i := 6) rfl)), (hw _ (List.mem_of_getElem? (i := 76) rfl))⟩)
  obtain ⟨a_RUNTIME_ERROR, ev_RUNTIME_ERROR⟩ := exa_v n296
  have E_RUNTIME_ERROR : Exa s s.heap a_RUNTIME_ERROR "com/example/scorebench/scorebench/grading/Verdict" := Exa.start ev_RUNTIME_ERROR n296
  have S_RUNTIME_ERROR : Sta s s.heap "com/example/scorebench/scorebench/grading/Verdict" "RUNTIME_ERROR" "Lcom/example/scorebench/scorebench/grading/Verdict;" (.ref a_RUNTIME_ERROR) := Sta.start ev_RUNTIME_ERROR (Or.inr ⟨(hw _ (List.mem_of_getElem? (i := 6) rfl)), (hw _ (List.mem_of_getElem? (i := 78) rfl))⟩)
  obtain ⟨a_PRESENTATION_ERROR, ev_PRESENTATION_ERROR⟩ := exa_v n300
  have E_PRESENTATION_ERROR : Exa s s.heap a_PRESENTATION_ERROR "com/example/scorebench/scorebench/grading/Verdict" := Exa.start ev_PRESENTATION_ERROR n300
  have S_PRESENTATION_ERROR : Sta s s.heap "com/example/scorebench/scorebench/grading/Verdict" "PRESENTATION_ERROR" "Lcom/example/scorebench/scorebench/grading/Verdict;" (.ref a_PRESENTATION_ERROR) := Sta.start ev_PRESENTATION_ERROR (Or.inr ⟨(hw _ (List.mem_of_getElem? (i := 6) rfl)), (hw _ (List.mem_of_getElem? (i := 80) rfl))⟩)
  obtain ⟨a_WRONG_ANSWER, ev_WRONG_ANSWER⟩ := exa_v n304
  have E_WRONG_ANSWER : Exa s s.heap a_WRONG_ANSWER "com/example/scorebench/scorebench/grading/Verdict" := Exa.start ev_WRONG_ANSWER n304
  have S_WRONG_ANSWER : Sta s s.heap "com/example/scorebench/scorebench/grading/Verdict" "WRONG_ANSWER" "Lcom/example/scorebench/scorebench/grading/Verdict;" (.ref a_WRONG_ANSWER) := Sta.start ev_WRONG_ANSWER (Or.inr ⟨(hw _ (List.mem_of_getElem? (i := 6) rfl)), (hw _ (List.mem_of_getElem? (i := 82) rfl))⟩)
  obtain ⟨a_COMPILE_ERROR, ev_COMPILE_ERROR⟩ := exa_v n308
  have E_COMPILE_ERROR : Exa s s.heap a_COMPILE_ERROR "com/example/scorebench/scorebench/grading/Verdict" := Exa.start ev_COMPILE_ERROR n308
  have S_COMPILE_ERROR : Sta s s.heap "com/example/scorebench/scorebench/grading/Verdict" "COMPILE_ERROR" "Lcom/example/scorebench/scorebench/grading/Verdict;" (.ref a_COMPILE_ERROR) := Sta.start ev_COMPILE_ERROR (Or.inr ⟨(hw _ (List.mem_of_getElem? (i := 6) rfl)), (hw _ (List.mem_of_getElem? (i := 84) rfl))⟩)
  obtain ⟨a_SCRIPT_ERROR, ev_SCRIPT_ERROR⟩ := exa_v n312
  have E_SCRIPT_ERROR : Exa s s.heap a_SCRIPT_ERROR "com/example/scorebench/scorebench/grading/Verdict" := Exa.start ev_SCRIPT_ERROR n312
  have S_SCRIPT_ERROR : Sta s s.heap "com/example/scorebench/scorebench/grading/Verdict" "SCRIPT_ERROR" "Lcom/example/scorebench/scorebench/grading/Verdict;" (.ref a_SCRIPT_ERROR) := Sta.start ev_SCRIPT_ERROR (Or.inr ⟨(hw _ (List.mem_of_getElem? (i := 6) rfl)), (hw _ (List.mem_of_getElem? (i := 86) rfl))⟩)
  obtain ⟨a_TIME_LIMIT, ev_TIME_LIMIT⟩ := exa_v n316
  have E_TIME_LIMIT : Exa s s.heap a_TIME_LIMIT "com/example/scorebench/scorebench/grading/Verdict" := Exa.start ev_TIME_LIMIT n316
  have S_TIME_LIMIT : Sta s s.heap "com/example/scorebench/scorebench/grading/Verdict" "TIME_LIMIT" "Lcom/example/scorebench/scorebench/grading/Verdict;" (.ref a_TIME_LIMIT) := Sta.start ev_TIME_LIMIT (Or.inr ⟨(hw _ (List.mem_of_getElem? (i := 6) rfl)), (hw _ (List.mem_of_getElem? (i := 88) rfl))⟩)
  obtain ⟨a_OUTPUT_LIMIT, ev_OUTPUT_LIMIT⟩ := exa_v n320
  have E_OUTPUT_LIMIT : Exa s s.heap a_OUTPUT_LIMIT "com/example/scorebench/scorebench/grading/Verdict" := Exa.start ev_OUTPUT_LIMIT n320
  have S_OUTPUT_LIMIT : Sta s s.heap "com/example/scorebench/scorebench/grading/Verdict" "OUTPUT_LIMIT" "Lcom/example/scorebench/scorebench/grading/Verdict;" (.ref a_OUTPUT_LIMIT) := Sta.start ev_OUTPUT_LIMIT (Or.inr ⟨(hw _ (List.mem_of_getElem? (i := 6) rfl)), (hw _ (List.mem_of_getElem? (i := 90) rfl))⟩)
  have O_ACCEPTED : s.fieldOf? a_ACCEPTED "java/lang/Enum" "ordinal" "I" = some (.int (0 : Int32)) := own_ord ev_ACCEPTED n280
  have O_CAUGHT : s.fieldOf? a_CAUGHT "java/lang/Enum" "ordinal" "I" = some (.int (10 : Int32)) := own_ord ev_CAUGHT n282
  have O_FILE_LIMIT : s.fieldOf? a_FILE_LIMIT "java/lang/Enum" "ordinal" "I" = some (.int (7 : Int32)) := own_ord ev_FILE_LIMIT n286
  have O_MISSED : s.fieldOf? a_MISSED "java/lang/Enum" "ordinal" "I" = some (.int (11 : Int32)) := own_ord ev_MISSED n290
  have O_MARKED : s.fieldOf? a_MARKED "java/lang/Enum" "ordinal" "I" = some (.int (8 : Int32)) := own_ord ev_MARKED n294
  have O_RUNTIME_ERROR : s.fieldOf? a_RUNTIME_ERROR "java/lang/Enum" "ordinal" "I" = some (.int (4 : Int32)) := own_ord ev_RUNTIME_ERROR n298
  have O_PRESENTATION_ERROR : s.fieldOf? a_PRESENTATION_ERROR "java/lang/Enum" "ordinal" "I" = some (.int (1 : Int32)) := own_ord ev_PRESENTATION_ERROR n302
  have O_WRONG_ANSWER : s.fieldOf? a_WRONG_ANSWER "java/lang/Enum" "ordinal" "I" = some (.int (2 : Int32)) := own_ord ev_WRONG_ANSWER n306
  have O_COMPILE_ERROR : s.fieldOf? a_COMPILE_ERROR "java/lang/Enum" "ordinal" "I" = some (.int (3 : Int32)) := own_ord ev_COMPILE_ERROR n310
  have O_SCRIPT_ERROR : s.fieldOf? a_SCRIPT_ERROR "java/lang/Enum" "ordinal" "I" = some (.int (9 : Int32)) := own_ord ev_SCRIPT_ERROR n314
  have O_TIME_LIMIT : s.fieldOf? a_TIME_LIMIT "java/lang/Enum" "ordinal" "I" = some (.int (5 : Int32)) := own_ord ev_TIME_LIMIT n318
  have O_OUTPUT_LIMIT : s.fieldOf? a_OUTPUT_LIMIT "java/lang/Enum" "ordinal" "I" = some (.int (6 : Int32)) := own_ord ev_OUTPUT_LIMIT n321
  obtain ⟨i_cs, e_cs⟩ := is_v (Cond.before_iff.mp (hsets _ (List.mem_of_getElem? (i := 1) rfl)))
  have S_cs : Sta s s.heap "java/lang/String" "COMPACT_STRINGS" "Z" (.int i_cs) := Sta.start e_cs (Or.inl (hsets _ (List.mem_of_getElem? (i := 0) rfl)))
  have c_cs : ¬ (i_cs = (0 : Int32)) := gotF (Cond.eq_ints e_cs (Term.int_eval (0))) (not_v (Cond.before_iff.mp (hsets _ (List.mem_of_getElem? (i := 2) rfl))))
  obtain ⟨n, o, h1, h2, h3, _, L, rfl, ⟨rfl, N⟩, hq⟩ := rm0 l s _ hw tables_1 i0 i1 i2 a_ACCEPTED a_PRESENTATION_ERROR a_WRONG_ANSWER a_COMPILE_ERROR a_RUNTIME_ERROR a_TIME_LIMIT a_OUTPUT_LIMIT a_FILE_LIMIT a_MARKED a_SCRIPT_ERROR a_CAUGHT a_MISSED i_cs s.heap s.heap.size (Nat.le_refl _) (fun q => absurd ((O_ACCEPTED.symm.trans ((congrArg (fun z => s.fieldOf? z "java/lang/Enum" "ordinal" "I") q).trans O_CAUGHT))) (by decide)) (fun q => absurd ((O_PRESENTATION_ERROR.symm.trans ((congrArg (fun z => s.fieldOf? z "java/lang/Enum" "ordinal" "I") q).trans O_CAUGHT))) (by decide)) (fun q => absurd ((O_WRONG_ANSWER.symm.trans ((congrArg (fun z => s.fieldOf? z "java/lang/Enum" "ordinal" "I") q).trans O_CAUGHT))) (by decide)) (fun q => absurd ((O_COMPILE_ERROR.symm.trans ((congrArg (fun z => s.fieldOf? z "java/lang/Enum" "ordinal" "I") q).trans O_CAUGHT))) (by decide)) (fun q => absurd ((O_RUNTIME_ERROR.symm.trans ((congrArg (fun z => s.fieldOf? z "java/lang/Enum" "ordinal" "I") q).trans O_CAUGHT))) (by decide)) (fun q => absurd ((O_TIME_LIMIT.symm.trans ((congrArg (fun z => s.fieldOf? z "java/lang/Enum" "ordinal" "I") q).trans O_CAUGHT))) (by decide)) (fun q => absurd ((O_OUTPUT_LIMIT.symm.trans ((congrArg (fun z => s.fieldOf? z "java/lang/Enum" "ordinal" "I") q).trans O_CAUGHT))) (by decide)) (fun q => absurd ((O_FILE_LIMIT.symm.trans ((congrArg (fun z => s.fieldOf? z "java/lang/Enum" "ordinal" "I") q).trans O_CAUGHT))) (by decide)) (fun q => absurd ((O_MARKED.symm.trans ((congrArg (fun z => s.fieldOf? z "java/lang/Enum" "ordinal" "I") q).trans O_CAUGHT))) (by decide)) (fun q => absurd ((O_SCRIPT_ERROR.symm.trans ((congrArg (fun z => s.fieldOf? z "java/lang/Enum" "ordinal" "I") q).trans O_CAUGHT))) (by decide)) (fun q => absurd ((O_MISSED.symm.trans ((congrArg (fun z => s.fieldOf? z "java/lang/Enum" "ordinal" "I") q).trans O_CAUGHT))) (by decide)) c_cs S_ACCEPTED S_PRESENTATION_ERROR S_WRONG_ANSWER S_COMPILE_ERROR S_RUNTIME_ERROR S_TIME_LIMIT S_OUTPUT_LIMIT S_FILE_LIMIT S_MARKED S_SCRIPT_ERROR S_CAUGHT S_MISSED S_cs p e ha hc hk s m _ below hf ((Spec.applies_iff_loose hf).mp happ).1 ⟨rfl, State.Warmed39.refl s, rfl⟩ trivial
  refine ⟨n, _, h1, h2, h3, hpost _ _ _ _ _ _ ⟨Cond.after_iff.mpr rfl, Cond.after_iff.mpr (eq_i res_at (Term.int_eval (1)) rfl), trivial⟩ ⟨hq.1, hq.2.1, (hq.2.2.sift fun y hy => Or.inr (N y hy)).mono (by decide) (by decide)⟩⟩
theorem main_1_1 : Claimed_1_1 := comes_1 fun _ _ _ _ _ _ h hF => ⟨h.1, hF⟩
theorem main_1_2 : Claimed_1_2 := comes_1 fun _ _ _ _ _ _ h hF => ⟨h.2.1, hF⟩
end Jvm.Pilot.@@N@@
namespace Jvm.Pilot.@@N@@
open Jvm Jvm.ClassFile Sem Op Lib Jvm.Free Jvm.Stand Jvm.Pilot.@@N@@.Jvm.D
/-! MADE BY PROGRAM (witnessworld.py) out of the Statement's table words and the real class files: 21 classes; the members and pool entries that the words name. The judged class is class 1, her method 2. -/
namespace start1
open Jvm.ClassFile
def u (s : String) : CpInfo := .utf8 (stringToUtf16 s)
/-- a pool by its gaps: so many unusable entries, then the entry; so many at the end -/
def gap : Nat → List CpInfo → List CpInfo
  | 0, r => r
  | n + 1, r => .unusable :: gap n r
def poolList (es : List (Nat × CpInfo)) (last : Nat) : List CpInfo := es.foldr (fun e r => gap e.1 (e.2 :: r)) (gap last [])
def pool (es : List (Nat × CpInfo)) (last : Nat) : Array CpInfo := ⟨poolList es last⟩
def fileOf (pool : Array CpInfo) (this : Nat) (attrs : Array Attribute := #[]) (ms : Array MethodInfo := #[]) (fl : Nat := 33) (sup : Nat := 0) (ifs : Array Nat := #[]) (fds : Array FieldInfo := #[]) : ClassFile where
  minorVersion := 0
  majorVersion := 65
  constantPool := pool
  accessFlags := fl
  thisClass := this
  superClass := sup
  interfaces := ifs
  fields := fds
  methods := ms
  attributes := attrs
def plain (name : String) (sup : Option ClassId) : Class where
  name := name
  kind := .ordinary
  loader := none
  accessFlags := 33
  super := sup
  interfaces := #[]
  cf := none
  fields := #[]
  methods := #[]
  instanceTypes := #[]
  staticTypes := #[]
  resolved := #[]
  callSites := []
  init := .initialized
  statics := none
  mirror := none

def pool0 : Array CpInfo := pool [(5, u "<init>"), (0, u "()V"), (1, .class_ 10), (1, u "java/lang/Object")] 113

def k0c0 : Code := { maxStack := 0, maxLocals := 1, code := object_method_1_code, exceptionTable := #[], attributes := #[] }
def k0m0 : Method := { name := "<init>", desc := "()V", sig := { parameters := [], returnType := none }, accessFlags := 1, code := some k0c0 }
/-- java/lang/Object -/
def k0 : Class := { plain "java/lang/Object" none with
  accessFlags := 33
  interfaces := #[]
  cf := some (fileOf pool0 8 #[] #[{ accessFlags := 1, nameIndex := 5, descriptorIndex := 6, attributes := #[] }] 33 0 #[] #[])
  fields := #[]
  methods := #[k0m0]
  instanceTypes := #[]
  staticTypes := #[]
  resolved := Array.replicate 124 none
  statics := none }

def pool1 : Array CpInfo := pool [(2, .class_ 4), (1, u "java/lang/Object"), (0, u "<init>"), (0, u "()V"), (0, .fieldref 8 9), (0, .class_ 10), (0, .nameAndType 11 12), (0, u "com/example/scorebench/scorebench/grading/Verdict"), (0, u "ACCEPTED"), (0, u "Lcom/example/scorebench/scorebench/grading/Verdict;"), (0, .fieldref 8 14), (0, .nameAndType 15 12), (0, u "PRESENTATION_ERROR"), (0, .fieldref 8 17), (0, .nameAndType 18 12), (0, u "WRONG_ANSWER"), (0, .fieldref 8 20), (0, .nameAndType 21 12), (0, u "COMPILE_ERROR"), (0, .fieldref 8 23), (0, .nameAndType 24 12), (0, u "RUNTIME_ERROR"), (0, .fieldref 8 26), (0, .nameAndType 27 12), (0, u "TIME_LIMIT"), (0, .fieldref 8 29), (0, .nameAndType 30 12), (0, u "OUTPUT_LIMIT"), (0, .fieldref 8 32), (0, .nameAndType 33 12), (0, u "FILE_LIMIT"), (0, .fieldref 8 35), (0, .nameAndType 36 12), (0, u "MARKED"), (0, .fieldref 8 38), (0, .nameAndType 39 12), (0, u "SCRIPT_ERROR"), (0, .fieldref 8 41), (0, .nameAndType 42 12), (0, u "CAUGHT"), (0, .fieldref 8 44), (0, .nameAndType 45 12), (0, u "MISSED"), (0, .integer 2147483647), (0, .methodref 48 49), (0, .class_ 50), (0, .nameAndType 51 52), (0, u "com/example/scorebench/scorebench/grading/MutantVerdictCaughtPinLaw"), (0, u "pick"), (0, u "(I)Lcom/example/scorebench/scorebench/grading/Verdict;"), (0, .methodref 54 55), (0, .class_ 56), (0, .nameAndType 57 58), (0, u "java/lang/String"), (0, u "valueOf"), (0, u "(C)Ljava/lang/String;"), (0, .class_ 60), (0, u "com/example/scorebench/scorebench/assignment/Mutant"), (0, .methodref 59 62), (0, .nameAndType 5 63), (0, u "(Ljava/lang/String;JLjava/lang/String;)V"), (0, .class_ 65), (0, u "com/example/scorebench/scorebench/grading/Grade$MutantVerdict"), (0, .methodref 64 67), (0, .nameAndType 5 68), (0, u "(Lcom/example/scorebench/scorebench/assignment/Mutant;Lcom/example/scorebench/scorebench/grading/Verdict;)V"), (0, .methodref 64 70), (0, .nameAndType 71 72), (0, u "caught"), (0, u "()Z"), (3, u "law"), (0, u "(IIJ)Z")] 6

def k1m0 : Method := { name := "<init>", desc := "()V", sig := { parameters := [], returnType := none }, accessFlags := 1, code := none }
def k1c1 : Code := { maxStack := 2, maxLocals := 1, code := method_2_code, exceptionTable := #[], attributes := #[] }
def k1m1 : Method := { name := "pick", desc := "(I)Lcom/example/scorebench/scorebench/grading/Verdict;", sig := { parameters := [.int], returnType := some (.object "com/example/scorebench/scorebench/grading/Verdict") }, accessFlags := 10, code := some k1c1 }
def k1c2 : Code := { maxStack := 6, maxLocals := 11, code := code, exceptionTable := #[], attributes := #[] }
def k1m2 : Method := { name := "law", desc := "(IIJ)Z", sig := { parameters := [.int, .int, .long], returnType := some .boolean }, accessFlags := 9, code := some k1c2 }
/-- com/example/scorebench/scorebench/grading/MutantVerdictCaughtPinLaw -/
def k1 : Class := { plain "com/example/scorebench/scorebench/grading/MutantVerdictCaughtPinLaw" (some 0) with
  accessFlags := 49
  interfaces := #[]
  cf := some (fileOf pool1 48 #[] #[{ accessFlags := 1, nameIndex := 5, descriptorIndex := 6, attributes := #[] }, { accessFlags := 10, nameIndex := 51, descriptorIndex := 52, attributes := #[] }, { accessFlags := 9, nameIndex := 76, descriptorIndex := 77, attributes := #[] }] 49 2 #[] #[])
  fields := #[]
  methods := #[k1m0, k1m1, k1m2]
  instanceTypes := #[]
  staticTypes := #[]
  resolved := Array.replicate 84 none
  statics := none }

def pool2 : Array CpInfo := pool [(1, .class_ 2), (0, u "java/lang/constant/Constable"), (0, .class_ 4), (0, u "java/lang/Object")] 6

/-- java/lang/constant/Constable -/
def k2 : Class := { plain "java/lang/constant/Constable" (some 0) with
  accessFlags := 1537
  interfaces := #[]
  cf := some (fileOf pool2 1 #[] #[] 1537 3 #[] #[])
  fields := #[]
  methods := #[]
  instanceTypes := #[]
  staticTypes := #[]
  resolved := Array.replicate 11 none
  statics := none }

def pool3 : Array CpInfo := pool [(1, .class_ 2), (0, u "java/lang/Comparable"), (0, .class_ 4), (0, u "java/lang/Object")] 7

/-- java/lang/Comparable -/
def k3 : Class := { plain "java/lang/Comparable" (some 0) with
  accessFlags := 1537
  interfaces := #[]
  cf := some (fileOf pool3 1 #[] #[] 1537 3 #[] #[])
  fields := #[]
  methods := #[]
  instanceTypes := #[]
  staticTypes := #[]
  resolved := Array.replicate 12 none
  statics := none }

def pool4 : Array CpInfo := pool [(1, .class_ 2), (0, u "java/io/Serializable"), (0, .class_ 4), (0, u "java/lang/Object")] 2

/-- java/io/Serializable -/
def k4 : Class := { plain "java/io/Serializable" (some 0) with
  accessFlags := 1537
  interfaces := #[]
  cf := some (fileOf pool4 1 #[] #[] 1537 3 #[] #[])
  fields := #[]
  methods := #[]
  instanceTypes := #[]
  staticTypes := #[]
  resolved := Array.replicate 7 none
  statics := none }

def pool5 : Array CpInfo := pool [(2, .class_ 4), (1, u "java/lang/Enum"), (0, u "name"), (0, u "Ljava/lang/String;"), (2, u "ordinal"), (0, u "I"), (1, .class_ 14), (1, u "java/lang/Object"), (4, u "hash"), (86, .class_ 108), (1, u "java/lang/Enum$EnumDesc"), (2, .class_ 112), (0, u "java/lang/constant/Constable"), (0, .class_ 114), (0, u "java/lang/Comparable"), (0, .class_ 116), (0, u "java/io/Serializable")] 87

/-- java/lang/Enum -/
def k5 : Class := { plain "java/lang/Enum" (some 0) with
  accessFlags := 1057
  interfaces := #[2, 3, 4]
  cf := some (fileOf pool5 2 #[.nestMembers #[106]] #[] 1057 12 #[111, 113, 115] #[{ accessFlags := 18, nameIndex := 5, descriptorIndex := 6, attributes := #[] }, { accessFlags := 18, nameIndex := 9, descriptorIndex := 10, attributes := #[] }, { accessFlags := 2, nameIndex := 19, descriptorIndex := 10, attributes := #[] }])
  fields := #[{ name := "name", type := (.object "java/lang/String"), accessFlags := 18, slot := 0, constantValue := 0 }, { name := "ordinal", type := .int, accessFlags := 18, slot := 1, constantValue := 0 }, { name := "hash", type := .int, accessFlags := 2, slot := 2, constantValue := 0 }]
  methods := #[]
  instanceTypes := #[(.object "java/lang/String"), .int, .int]
  staticTypes := #[]
  resolved := Array.replicate 204 none
  statics := none }

def pool6 : Array CpInfo := pool [(1, .class_ 2), (0, u "com/example/scorebench/scorebench/grading/Verdict"), (2, u "ACCEPTED"), (0, u "Lcom/example/scorebench/scorebench/grading/Verdict;"), (2, u "PRESENTATION_ERROR"), (2, u "WRONG_ANSWER"), (2, u "COMPILE_ERROR"), (2, u "RUNTIME_ERROR"), (2, u "TIME_LIMIT"), (2, u "OUTPUT_LIMIT"), (2, u "FILE_LIMIT"), (2, u "MARKED"), (2, u "SCRIPT_ERROR"), (2, u "CAUGHT"), (2, u "MISSED"), (2, u "$VALUES"), (0, u "[Lcom/example/scorebench/scorebench/grading/Verdict;"), (6, .class_ 52), (1, u "java/lang/Enum"), (8, u "word"), (0, u "Ljava/lang/String;")] 109

/-- com/example/scorebench/scorebench/grading/Verdict -/
def k6 : Class := { plain "com/example/scorebench/scorebench/grading/Verdict" (some 5) with
  accessFlags := 16433
  interfaces := #[]
  cf := some (fileOf pool6 1 #[] #[] 16433 50 #[] #[{ accessFlags := 16409, nameIndex := 5, descriptorIndex := 6, attributes := #[] }, { accessFlags := 16409, nameIndex := 9, descriptorIndex := 6, attributes := #[] }, { accessFlags := 16409, nameIndex := 12, descriptorIndex := 6, attributes := #[] }, { accessFlags := 16409, nameIndex := 15, descriptorIndex := 6, attributes := #[] }, { accessFlags := 16409, nameIndex := 18, descriptorIndex := 6, attributes := #[] }, { accessFlags := 16409, nameIndex := 21, descriptorIndex := 6, attributes := #[] }, { accessFlags := 16409, nameIndex := 24, descriptorIndex := 6, attributes := #[] }, { accessFlags := 16409, nameIndex := 27, descriptorIndex := 6, attributes := #[] }, { accessFlags := 16409, nameIndex := 30, descriptorIndex := 6, attributes := #[] }, { accessFlags := 16409, nameIndex := 33, descriptorIndex := 6, attributes := #[] }, { accessFlags := 16409, nameIndex := 36, descriptorIndex := 6, attributes := #[] }, { accessFlags := 16409, nameIndex := 39, descriptorIndex := 6, attributes := #[] }, { accessFlags := 18, nameIndex := 61, descriptorIndex := 62, attributes := #[] }, { accessFlags := 4122, nameIndex := 42, descriptorIndex := 43, attributes := #[] }])
  fields := #[{ name := "ACCEPTED", type := (.object "com/example/scorebench/scorebench/grading/Verdict"), accessFlags := 16409, slot := 0, constantValue := 0 }, { name := "PRESENTATION_ERROR", type := (.object "com/example/scorebench/scorebench/grading/Verdict"), accessFlags := 16409, slot := 1, constantValue := 0 }, { name := "WRONG_ANSWER", type := (.object "com/example/scorebench/scorebench/grading/Verdict"), accessFlags := 16409, slot := 2, constantValue := 0 }, { name := "COMPILE_ERROR", type := (.object "com/example/scorebench/scorebench/grading/Verdict"), accessFlags := 16409, slot := 3, constantValue := 0 }, { name := "RUNTIME_ERROR", type := (.object "com/example/scorebench/scorebench/grading/Verdict"), accessFlags := 16409, slot := 4, constantValue := 0 }, { name := "TIME_LIMIT", type := (.object "com/example/scorebench/scorebench/grading/Verdict"), accessFlags := 16409, slot := 5, constantValue := 0 }, { name := "OUTPUT_LIMIT", type := (.object "com/example/scorebench/scorebench/grading/Verdict"), accessFlags := 16409, slot := 6, constantValue := 0 }, { name := "FILE_LIMIT", type := (.object "com/example/scorebench/scorebench/grading/Verdict"), accessFlags := 16409, slot := 7, constantValue := 0 }, { name := "MARKED", type := (.object "com/example/scorebench/scorebench/grading/Verdict"), accessFlags := 16409, slot := 8, constantValue := 0 }, { name := "SCRIPT_ERROR", type := (.object "com/example/scorebench/scorebench/grading/Verdict"), accessFlags := 16409, slot := 9, constantValue := 0 }, { name := "CAUGHT", type := (.object "com/example/scorebench/scorebench/grading/Verdict"), accessFlags := 16409, slot := 10, constantValue := 0 }, { name := "MISSED", type := (.object "com/example/scorebench/scorebench/grading/Verdict"), accessFlags := 16409, slot := 11, constantValue := 0 }, { name := "word", type := (.object "java/lang/String"), accessFlags := 18, slot := 3, constantValue := 0 }, { name := "$VALUES", type := (.array (.object "com/example/scorebench/scorebench/grading/Verdict")), accessFlags := 4122, slot := 12, constantValue := 0 }]
  methods := #[]
  instanceTypes := #[(.object "java/lang/String"), .int, .int, (.object "java/lang/String")]
  staticTypes := #[(.object "com/example/scorebench/scorebench/grading/Verdict"), (.object "com/example/scorebench/scorebench/grading/Verdict"), (.object "com/example/scorebench/scorebench/grading/Verdict"), (.object "com/example/scorebench/scorebench/grading/Verdict"), (.object "com/example/scorebench/scorebench/grading/Verdict"), (.object "com/example/scorebench/scorebench/grading/Verdict"), (.object "com/example/scorebench/scorebench/grading/Verdict"), (.object "com/example/scorebench/scorebench/grading/Verdict"), (.object "com/example/scorebench/scorebench/grading/Verdict"), (.object "com/example/scorebench/scorebench/grading/Verdict"), (.object "com/example/scorebench/scorebench/grading/Verdict"), (.object "com/example/scorebench/scorebench/grading/Verdict"), (.array (.object "com/example/scorebench/scorebench/grading/Verdict"))]
  resolved := Array.replicate 172 none
  statics := some 0 }

def pool7 : Array CpInfo := pool [(2, .class_ 4), (1, u "java/lang/CharSequence"), (42, .class_ 48), (0, u "java/lang/CharSequence$1CodePointIterator"), (10, .class_ 60), (0, u "java/lang/CharSequence$1CharIterator"), (5, .class_ 67), (0, u "java/lang/Object")] 63

/-- java/lang/CharSequence -/
def k7 : Class := { plain "java/lang/CharSequence" (some 0) with
  accessFlags := 1537
  interfaces := #[]
  cf := some (fileOf pool7 2 #[.nestMembers #[47, 59]] #[] 1537 66 #[] #[])
  fields := #[]
  methods := #[]
  instanceTypes := #[]
  staticTypes := #[]
  resolved := Array.replicate 131 none
  statics := none }

def pool8 : Array CpInfo := pool [(1, .class_ 2), (0, u "java/lang/constant/ConstantDesc"), (0, .class_ 4), (0, u "java/lang/Object")] 32

/-- java/lang/constant/ConstantDesc -/
def k8 : Class := { plain "java/lang/constant/ConstantDesc" (some 0) with
  accessFlags := 1537
  interfaces := #[]
  cf := some (fileOf pool8 1 #[] #[] 1537 3 #[] #[])
  fields := #[]
  methods := #[]
  instanceTypes := #[]
  staticTypes := #[]
  resolved := Array.replicate 37 none
  statics := none }

def pool9 : Array CpInfo := pool [(1, .methodref 2 3), (0, .class_ 4), (0, .nameAndType 5 6), (0, u "java/lang/Object"), (0, u "<init>"), (0, u "()V"), (2, .fieldref 10 11), (0, .class_ 12), (0, .nameAndType 13 14), (0, u "java/lang/String"), (0, u "value"), (0, u "[B"), (0, .fieldref 10 16), (0, .nameAndType 17 18), (0, u "coder"), (0, u "B"), (2, u "hash"), (0, u "I"), (2, u "hashIsZero"), (0, u "Z"), (11, .fieldref 10 39), (0, .nameAndType 40 26), (0, u "COMPACT_STRINGS"), (12, u "toBytes"), (53, .class_ 109), (1, u "java/lang/StringLatin1"), (99, .methodref 10 210), (0, .nameAndType 5 211), (0, u "([BB)V"), (157, u "(C)Z"), (205, .class_ 576), (0, u "java/lang/CharSequence"), (22, u "CASE_INSENSITIVE_ORDER"), (0, u "Ljava/util/Comparator;"), (181, u "valueOf"), (0, u "(C)Ljava/lang/String;"), (231, .methodref 107 1016), (0, .nameAndType 1017 369), (0, u "canEncode"), (0, .methodref 107 1019), (0, .nameAndType 53 1020), (0, u "(C)[B"), (80, u "serialPersistentFields"), (0, u "[Ljava/io/ObjectStreamField;"), (0, .class_ 1104), (0, u "java/lang/String$CaseInsensitiveComparator"), (1, .class_ 1107), (0, u "java/io/Serializable"), (0, .class_ 1109), (0, u "java/lang/Comparable"), (0, .class_ 1111), (0, u "java/lang/constant/Constable"), (0, .class_ 1113), (0, u "java/lang/constant/ConstantDesc"), (2, u "serialVersionUID"), (0, u "J"), (3, u "REPL"), (0, u "C"), (2, u "LATIN1"), (1, u "UTF16")] 323

def k9m0 : Method := { name := "<init>", desc := "()V", sig := { parameters := [], returnType := none }, accessFlags := 1, code := none }
def k9c1 : Code := { maxStack := 4, maxLocals := 1, code := jdk_42_method_139_code, exceptionTable := #[], attributes := #[] }
def k9m1 : Method := { name := "valueOf", desc := "(C)Ljava/lang/String;", sig := { parameters := [.char], returnType := some (.object "java/lang/String") }, accessFlags := 9, code := some k9c1 }
def k9c2 : Code := { maxStack := 2, maxLocals := 3, code := jdk_42_method_151_code, exceptionTable := #[], attributes := #[] }
def k9m2 : Method := { name := "<init>", desc := "([BB)V", sig := { parameters := [(.array .byte), .byte], returnType := none }, accessFlags := 0, code := some k9c2 }
/-- java/lang/String -/
def k9 : Class := { plain "java/lang/String" (some 0) with
  accessFlags := 49
  interfaces := #[4, 3, 7, 2, 8]
  cf := some (fileOf pool9 10 #[.nestMembers #[1103]] #[{ accessFlags := 1, nameIndex := 5, descriptorIndex := 6, attributes := #[] }, { accessFlags := 9, nameIndex := 782, descriptorIndex := 783, attributes := #[] }, { accessFlags := 0, nameIndex := 5, descriptorIndex := 211, attributes := #[] }] 49 2 #[1106, 1108, 575, 1110, 1112] #[{ accessFlags := 18, nameIndex := 13, descriptorIndex := 14, attributes := #[] }, { accessFlags := 18, nameIndex := 17, descriptorIndex := 18, attributes := #[] }, { accessFlags := 2, nameIndex := 21, descriptorIndex := 22, attributes := #[] }, { accessFlags := 2, nameIndex := 25, descriptorIndex := 26, attributes := #[] }, { accessFlags := 26, nameIndex := 1116, descriptorIndex := 1117, attributes := #[] }, { accessFlags := 24, nameIndex := 40, descriptorIndex := 26, attributes := #[] }, { accessFlags := 26, nameIndex := 1101, descriptorIndex := 1102, attributes := #[] }, { accessFlags := 26, nameIndex := 1121, descriptorIndex := 1122, attributes := #[] }, { accessFlags := 25, nameIndex := 599, descriptorIndex := 600, attributes := #[] }, { accessFlags := 24, nameIndex := 1125, descriptorIndex := 18, attributes := #[] }, { accessFlags := 24, nameIndex := 1127, descriptorIndex := 18, attributes := #[] }])
  fields := #[{ name := "value", type := (.array .byte), accessFlags := 18, slot := 0, constantValue := 0 }, { name := "coder", type := .byte, accessFlags := 18, slot := 1, constantValue := 0 }, { name := "hash", type := .int, accessFlags := 2, slot := 2, constantValue := 0 }, { name := "hashIsZero", type := .boolean, accessFlags := 2, slot := 3, constantValue := 0 }, { name := "serialVersionUID", type := .long, accessFlags := 26, slot := 0, constantValue := 0 }, { name := "COMPACT_STRINGS", type := .boolean, accessFlags := 24, slot := 1, constantValue := 0 }, { name := "serialPersistentFields", type := (.array (.object "java/io/ObjectStreamField")), accessFlags := 26, slot := 2, constantValue := 0 }, { name := "REPL", type := .char, accessFlags := 26, slot := 3, constantValue := 0 }, { name := "CASE_INSENSITIVE_ORDER", type := (.object "java/util/Comparator"), accessFlags := 25, slot := 4, constantValue := 0 }, { name := "LATIN1", type := .byte, accessFlags := 24, slot := 5, constantValue := 0 }, { name := "UTF16", type := .byte, accessFlags := 24, slot := 6, constantValue := 0 }]
  methods := #[k9m0, k9m1, k9m2]
  instanceTypes := #[(.array .byte), .byte, .int, .boolean]
  staticTypes := #[.long, .boolean, (.array (.object "java/io/ObjectStreamField")), .char, (.object "java/util/Comparator"), .byte, .byte]
  resolved := Array.replicate 1451 none
  statics := some 1 }

def pool10 : Array CpInfo := pool [(4, .class_ 6), (1, u "java/lang/Object"), (0, u "<init>"), (0, u "()V"), (5, .class_ 16), (1, u "java/lang/StringLatin1"), (73, u "canEncode"), (14, u "(C)Z"), (15, u "$assertionsDisabled"), (0, u "Z"), (98, .class_ 223), (1, u "java/lang/StringLatin1$LinesSpliterator"), (156, u "toBytes"), (1, u "(C)[B"), (7, .class_ 391), (0, u "java/lang/StringLatin1$CharsSpliterator")] 3

def k10m0 : Method := { name := "<init>", desc := "()V", sig := { parameters := [], returnType := none }, accessFlags := 0, code := none }
def k10c1 : Code := { maxStack := 2, maxLocals := 1, code := jdk_43_method_3_code, exceptionTable := #[], attributes := #[] }
def k10m1 : Method := { name := "canEncode", desc := "(C)Z", sig := { parameters := [.char], returnType := some .boolean }, accessFlags := 9, code := some k10c1 }
def k10c2 : Code := { maxStack := 4, maxLocals := 1, code := jdk_43_method_46_code, exceptionTable := #[], attributes := #[] }
def k10m2 : Method := { name := "toBytes", desc := "(C)[B", sig := { parameters := [.char], returnType := some (.array .byte) }, accessFlags := 9, code := some k10c2 }
/-- java/lang/StringLatin1 -/
def k10 : Class := { plain "java/lang/StringLatin1" (some 0) with
  accessFlags := 48
  interfaces := #[]
  cf := some (fileOf pool10 14 #[.nestMembers #[390, 221]] #[{ accessFlags := 0, nameIndex := 7, descriptorIndex := 8, attributes := #[] }, { accessFlags := 9, nameIndex := 90, descriptorIndex := 105, attributes := #[] }, { accessFlags := 9, nameIndex := 380, descriptorIndex := 382, attributes := #[] }] 48 4 #[] #[{ accessFlags := 4120, nameIndex := 121, descriptorIndex := 122, attributes := #[] }])
  fields := #[{ name := "$assertionsDisabled", type := .boolean, accessFlags := 4120, slot := 0, constantValue := 0 }]
  methods := #[k10m0, k10m1, k10m2]
  instanceTypes := #[]
  staticTypes := #[.boolean]
  resolved := Array.replicate 395 none
  statics := none }

def pool11 : Array CpInfo := pool [(1, .methodref 2 3), (0, .class_ 4), (0, .nameAndType 5 6), (0, u "java/lang/Object"), (0, u "<init>"), (0, u "()V"), (0, .class_ 8), (0, u "java/lang/Record")] 13

def k11c0 : Code := { maxStack := 1, maxLocals := 1, code := jdk_30_method_1_code, exceptionTable := #[], attributes := #[] }
def k11m0 : Method := { name := "<init>", desc := "()V", sig := { parameters := [], returnType := none }, accessFlags := 4, code := some k11c0 }
/-- java/lang/Record -/
def k11 : Class := { plain "java/lang/Record" (some 0) with
  accessFlags := 1057
  interfaces := #[]
  cf := some (fileOf pool11 7 #[] #[{ accessFlags := 4, nameIndex := 5, descriptorIndex := 6, attributes := #[] }] 1057 2 #[] #[])
  fields := #[]
  methods := #[k11m0]
  instanceTypes := #[]
  staticTypes := #[]
  resolved := Array.replicate 22 none
  statics := none }

def pool12 : Array CpInfo := pool [(1, .methodref 2 3), (0, .class_ 4), (0, .nameAndType 5 6), (0, u "java/lang/Record"), (0, u "<init>"), (0, u "()V"), (0, .fieldref 8 9), (0, .class_ 10), (0, .nameAndType 11 12), (0, u "com/example/scorebench/scorebench/assignment/Mutant"), (0, u "name"), (0, u "Ljava/lang/String;"), (0, .fieldref 8 14), (0, .nameAndType 15 16), (0, u "weight"), (0, u "J"), (0, .fieldref 8 18), (0, .nameAndType 19 12), (0, u "source"), (12, u "(Ljava/lang/String;JLjava/lang/String;)V")] 29

def k12c0 : Code := { maxStack := 3, maxLocals := 5, code := prog_14_method_1_code, exceptionTable := #[], attributes := #[] }
def k12m0 : Method := { name := "<init>", desc := "(Ljava/lang/String;JLjava/lang/String;)V", sig := { parameters := [(.object "java/lang/String"), .long, (.object "java/lang/String")], returnType := none }, accessFlags := 1, code := some k12c0 }
/-- com/example/scorebench/scorebench/assignment/Mutant -/
def k12 : Class := { plain "com/example/scorebench/scorebench/assignment/Mutant" (some 11) with
  accessFlags := 49
  interfaces := #[]
  cf := some (fileOf pool12 8 #[] #[{ accessFlags := 1, nameIndex := 5, descriptorIndex := 32, attributes := #[] }] 49 2 #[] #[{ accessFlags := 18, nameIndex := 11, descriptorIndex := 12, attributes := #[] }, { accessFlags := 18, nameIndex := 15, descriptorIndex := 16, attributes := #[] }, { accessFlags := 18, nameIndex := 19, descriptorIndex := 12, attributes := #[] }])
  fields := #[{ name := "name", type := (.object "java/lang/String"), accessFlags := 18, slot := 0, constantValue := 0 }, { name := "weight", type := .long, accessFlags := 18, slot := 1, constantValue := 0 }, { name := "source", type := (.object "java/lang/String"), accessFlags := 18, slot := 2, constantValue := 0 }]
  methods := #[k12m0]
  instanceTypes := #[(.object "java/lang/String"), .long, (.object "java/lang/String")]
  staticTypes := #[]
  resolved := Array.replicate 62 none
  statics := none }

def pool13 : Array CpInfo := pool [(1, .methodref 2 3), (0, .class_ 4), (0, .nameAndType 5 6), (0, u "java/lang/Record"), (0, u "<init>"), (0, u "()V"), (0, .fieldref 8 9), (0, .class_ 10), (0, .nameAndType 11 12), (0, u "com/example/scorebench/scorebench/grading/Grade$MutantVerdict"), (0, u "mutant"), (0, u "Lcom/example/scorebench/scorebench/assignment/Mutant;"), (0, .fieldref 8 14), (0, .nameAndType 15 16), (0, u "verdict"), (0, u "Lcom/example/scorebench/scorebench/grading/Verdict;"), (0, .fieldref 18 19), (0, .class_ 20), (0, .nameAndType 21 16), (0, u "com/example/scorebench/scorebench/grading/Verdict"), (0, u "CAUGHT"), (12, u "(Lcom/example/scorebench/scorebench/assignment/Mutant;Lcom/example/scorebench/scorebench/grading/Verdict;)V"), (3, u "caught"), (0, u "()Z"), (9, .class_ 50), (0, u "com/example/scorebench/scorebench/grading/Grade")] 20

def k13c0 : Code := { maxStack := 2, maxLocals := 3, code := prog_37_method_1_code, exceptionTable := #[], attributes := #[] }
def k13m0 : Method := { name := "<init>", desc := "(Lcom/example/scorebench/scorebench/assignment/Mutant;Lcom/example/scorebench/scorebench/grading/Verdict;)V", sig := { parameters := [(.object "com/example/scorebench/scorebench/assignment/Mutant"), (.object "com/example/scorebench/scorebench/grading/Verdict")], returnType := none }, accessFlags := 1, code := some k13c0 }
def k13c1 : Code := { maxStack := 2, maxLocals := 1, code := prog_37_method_2_code, exceptionTable := #[], attributes := #[] }
def k13m1 : Method := { name := "caught", desc := "()Z", sig := { parameters := [], returnType := some .boolean }, accessFlags := 1, code := some k13c1 }
/-- com/example/scorebench/scorebench/grading/Grade$MutantVerdict -/
def k13 : Class := { plain "com/example/scorebench/scorebench/grading/Grade$MutantVerdict" (some 11) with
  accessFlags := 49
  interfaces := #[]
  cf := some (fileOf pool13 8 #[.nestHost 49] #[{ accessFlags := 1, nameIndex := 5, descriptorIndex := 34, attributes := #[] }, { accessFlags := 1, nameIndex := 38, descriptorIndex := 39, attributes := #[] }] 49 2 #[] #[{ accessFlags := 18, nameIndex := 11, descriptorIndex := 12, attributes := #[] }, { accessFlags := 18, nameIndex := 15, descriptorIndex := 16, attributes := #[] }])
  fields := #[{ name := "mutant", type := (.object "com/example/scorebench/scorebench/assignment/Mutant"), accessFlags := 18, slot := 0, constantValue := 0 }, { name := "verdict", type := (.object "com/example/scorebench/scorebench/grading/Verdict"), accessFlags := 18, slot := 1, constantValue := 0 }]
  methods := #[k13m0, k13m1]
  instanceTypes := #[(.object "com/example/scorebench/scorebench/assignment/Mutant"), (.object "com/example/scorebench/scorebench/grading/Verdict")]
  staticTypes := #[]
  resolved := Array.replicate 71 none
  statics := none }

def pool14 : Array CpInfo := pool [(2, .class_ 4), (1, u "java/lang/Object"), (0, u "<init>"), (0, u "()V"), (17, .class_ 26), (1, u "jdk/internal/util/Preconditions"), (28, .class_ 56), (0, u "jdk/internal/util/Preconditions$4"), (57, .class_ 115), (0, u "jdk/internal/util/Preconditions$1"), (7, u "SIOOBE_FORMATTER"), (0, u "Ljava/util/function/BiFunction;"), (0, .class_ 126), (0, u "jdk/internal/util/Preconditions$2"), (3, u "AIOOBE_FORMATTER"), (0, .class_ 132), (0, u "jdk/internal/util/Preconditions$3"), (3, u "IOOBE_FORMATTER")] 57

def k14m0 : Method := { name := "<init>", desc := "()V", sig := { parameters := [], returnType := none }, accessFlags := 1, code := none }
/-- jdk/internal/util/Preconditions -/
def k14 : Class := { plain "jdk/internal/util/Preconditions" (some 0) with
  accessFlags := 33
  interfaces := #[]
  cf := some (fileOf pool14 24 #[.nestMembers #[55, 131, 125, 114]] #[{ accessFlags := 1, nameIndex := 5, descriptorIndex := 6, attributes := #[] }] 33 2 #[] #[{ accessFlags := 25, nameIndex := 123, descriptorIndex := 124, attributes := #[] }, { accessFlags := 25, nameIndex := 130, descriptorIndex := 124, attributes := #[] }, { accessFlags := 25, nameIndex := 136, descriptorIndex := 124, attributes := #[] }])
  fields := #[{ name := "SIOOBE_FORMATTER", type := (.object "java/util/function/BiFunction"), accessFlags := 25, slot := 0, constantValue := 0 }, { name := "AIOOBE_FORMATTER", type := (.object "java/util/function/BiFunction"), accessFlags := 25, slot := 1, constantValue := 0 }, { name := "IOOBE_FORMATTER", type := (.object "java/util/function/BiFunction"), accessFlags := 25, slot := 2, constantValue := 0 }]
  methods := #[k14m0]
  instanceTypes := #[]
  staticTypes := #[(.object "java/util/function/BiFunction"), (.object "java/util/function/BiFunction"), (.object "java/util/function/BiFunction")]
  resolved := Array.replicate 194 none
  statics := some 2 }

def pool15 : Array CpInfo := pool [(9, u "<init>"), (6, .class_ 18), (1, u "java/lang/Object"), (0, u "()V"), (1, .class_ 23), (1, u "jdk/internal/util/ArraysSupport"), (0, u "LOG2_ARRAY_LONG_INDEX_SCALE"), (0, u "I"), (2, u "U"), (0, u "Ljdk/internal/misc/Unsafe;"), (8, u "BIG_ENDIAN"), (0, u "Z"), (8, u "LOG2_BYTE_BIT_SIZE"), (4, u "LOG2_ARRAY_INT_INDEX_SCALE"), (54, u "JLA"), (0, u "Ljdk/internal/access/JavaLangAccess;"), (11, u "LOG2_ARRAY_BOOLEAN_INDEX_SCALE"), (9, u "LOG2_ARRAY_BYTE_INDEX_SCALE"), (5, u "LOG2_ARRAY_CHAR_INDEX_SCALE"), (5, u "LOG2_ARRAY_SHORT_INDEX_SCALE"), (18, u "LOG2_ARRAY_FLOAT_INDEX_SCALE"), (24, u "LOG2_ARRAY_DOUBLE_INDEX_SCALE"), (89, u "T_BOOLEAN"), (2, u "T_CHAR"), (1, u "T_FLOAT"), (1, u "T_DOUBLE"), (1, u "T_BYTE"), (1, u "T_SHORT"), (1, u "T_INT"), (1, u "T_LONG"), (1, u "SOFT_MAX_ARRAY_LENGTH")] 83

def k15m0 : Method := { name := "<init>", desc := "()V", sig := { parameters := [], returnType := none }, accessFlags := 2, code := none }
/-- jdk/internal/util/ArraysSupport -/
def k15 : Class := { plain "jdk/internal/util/ArraysSupport" (some 0) with
  accessFlags := 33
  interfaces := #[]
  cf := some (fileOf pool15 21 #[] #[{ accessFlags := 2, nameIndex := 9, descriptorIndex := 19, attributes := #[] }] 33 16 #[] #[{ accessFlags := 24, nameIndex := 28, descriptorIndex := 29, attributes := #[] }, { accessFlags := 26, nameIndex := 38, descriptorIndex := 39, attributes := #[] }, { accessFlags := 25, nameIndex := 121, descriptorIndex := 25, attributes := #[] }, { accessFlags := 25, nameIndex := 131, descriptorIndex := 25, attributes := #[] }, { accessFlags := 25, nameIndex := 137, descriptorIndex := 25, attributes := #[] }, { accessFlags := 25, nameIndex := 143, descriptorIndex := 25, attributes := #[] }, { accessFlags := 25, nameIndex := 53, descriptorIndex := 25, attributes := #[] }, { accessFlags := 25, nameIndex := 24, descriptorIndex := 25, attributes := #[] }, { accessFlags := 25, nameIndex := 162, descriptorIndex := 25, attributes := #[] }, { accessFlags := 25, nameIndex := 187, descriptorIndex := 25, attributes := #[] }, { accessFlags := 26, nameIndex := 48, descriptorIndex := 25, attributes := #[] }, { accessFlags := 25, nameIndex := 277, descriptorIndex := 25, attributes := #[] }, { accessFlags := 25, nameIndex := 280, descriptorIndex := 25, attributes := #[] }, { accessFlags := 25, nameIndex := 282, descriptorIndex := 25, attributes := #[] }, { accessFlags := 25, nameIndex := 284, descriptorIndex := 25, attributes := #[] }, { accessFlags := 25, nameIndex := 286, descriptorIndex := 25, attributes := #[] }, { accessFlags := 25, nameIndex := 288, descriptorIndex := 25, attributes := #[] }, { accessFlags := 25, nameIndex := 290, descriptorIndex := 25, attributes := #[] }, { accessFlags := 25, nameIndex := 292, descriptorIndex := 25, attributes := #[] }, { accessFlags := 26, nameIndex := 108, descriptorIndex := 109, attributes := #[] }, { accessFlags := 25, nameIndex := 294, descriptorIndex := 25, attributes := #[] }])
  fields := #[{ name := "U", type := (.object "jdk/internal/misc/Unsafe"), accessFlags := 24, slot := 0, constantValue := 0 }, { name := "BIG_ENDIAN", type := .boolean, accessFlags := 26, slot := 1, constantValue := 0 }, { name := "LOG2_ARRAY_BOOLEAN_INDEX_SCALE", type := .int, accessFlags := 25, slot := 2, constantValue := 0 }, { name := "LOG2_ARRAY_BYTE_INDEX_SCALE", type := .int, accessFlags := 25, slot := 3, constantValue := 0 }, { name := "LOG2_ARRAY_CHAR_INDEX_SCALE", type := .int, accessFlags := 25, slot := 4, constantValue := 0 }, { name := "LOG2_ARRAY_SHORT_INDEX_SCALE", type := .int, accessFlags := 25, slot := 5, constantValue := 0 }, { name := "LOG2_ARRAY_INT_INDEX_SCALE", type := .int, accessFlags := 25, slot := 6, constantValue := 0 }, { name := "LOG2_ARRAY_LONG_INDEX_SCALE", type := .int, accessFlags := 25, slot := 7, constantValue := 0 }, { name := "LOG2_ARRAY_FLOAT_INDEX_SCALE", type := .int, accessFlags := 25, slot := 8, constantValue := 0 }, { name := "LOG2_ARRAY_DOUBLE_INDEX_SCALE", type := .int, accessFlags := 25, slot := 9, constantValue := 0 }, { name := "LOG2_BYTE_BIT_SIZE", type := .int, accessFlags := 26, slot := 10, constantValue := 0 }, { name := "T_BOOLEAN", type := .int, accessFlags := 25, slot := 11, constantValue := 0 }, { name := "T_CHAR", type := .int, accessFlags := 25, slot := 12, constantValue := 0 }, { name := "T_FLOAT", type := .int, accessFlags := 25, slot := 13, constantValue := 0 }, { name := "T_DOUBLE", type := .int, accessFlags := 25, slot := 14, constantValue := 0 }, { name := "T_BYTE", type := .int, accessFlags := 25, slot := 15, constantValue := 0 }, { name := "T_SHORT", type := .int, accessFlags := 25, slot := 16, constantValue := 0 }, { name := "T_INT", type := .int, accessFlags := 25, slot := 17, constantValue := 0 }, { name := "T_LONG", type := .int, accessFlags := 25, slot := 18, constantValue := 0 }, { name := "JLA", type := (.object "jdk/internal/access/JavaLangAccess"), accessFlags := 26, slot := 19, constantValue := 0 }, { name := "SOFT_MAX_ARRAY_LENGTH", type := .int, accessFlags := 25, slot := 20, constantValue := 0 }]
  methods := #[k15m0]
  instanceTypes := #[]
  staticTypes := #[(.object "jdk/internal/misc/Unsafe"), .boolean, .int, .int, .int, .int, .int, .int, .int, .int, .int, .int, .int, .int, .int, .int, .int, .int, .int, (.object "jdk/internal/access/JavaLangAccess"), .int]
  resolved := Array.replicate 378 none
  statics := none }

def pool16 : Array CpInfo := pool [(1, u "java/lang/Cloneable"), (0, .class_ 1), (0, u "java/lang/Object"), (0, .class_ 3)] 3

/-- java/lang/Cloneable -/
def k16 : Class := { plain "java/lang/Cloneable" (some 0) with
  accessFlags := 1537
  interfaces := #[]
  cf := some (fileOf pool16 2 #[] #[] 1537 4 #[] #[])
  fields := #[]
  methods := #[]
  instanceTypes := #[]
  staticTypes := #[]
  resolved := Array.replicate 8 none
  statics := none }

/-- the primitive byte -/
def k17 : Class := { plain "byte" none with kind := .primitive 'B', accessFlags := 0x411 }
/-- [B -/
def k18 : Class := { plain "[B" (some 0) with kind := .array 17 .byte, interfaces := #[16, 4], accessFlags := 1041 }

/-- the primitive int -/
def k19 : Class := { plain "int" none with kind := .primitive 'I', accessFlags := 0x411 }
/-- [I -/
def k20 : Class := { plain "[I" (some 0) with kind := .array 19 .int, interfaces := #[16, 4], accessFlags := 1041 }

def heap : Heap := #[{ cls := 6, slots := #[.ref 3, .ref 4, .ref 5, .ref 6, .ref 7, .ref 8, .ref 9, .ref 10, .ref 11, .ref 12, .ref 13, .ref 14, .null], vm := .statics 6 },
  { cls := 9, slots := #[.long 0, .int 1, .null, .int 0, .null, .int 0, .int 0], vm := .statics 9 },
  { cls := 14, slots := #[.null, .null, .null], vm := .statics 14 },
  { cls := 6, slots := #[.null, .int 0, .int 0, .null], vm := .none },
  { cls := 6, slots := #[.null, .int 1, .int 0, .null], vm := .none },
  { cls := 6, slots := #[.null, .int 2, .int 0, .null], vm := .none },
  { cls := 6, slots := #[.null, .int 3, .int 0, .null], vm := .none },
  { cls := 6, slots := #[.null, .int 4, .int 0, .null], vm := .none },
  { cls := 6, slots := #[.null, .int 5, .int 0, .null], vm := .none },
  { cls := 6, slots := #[.null, .int 6, .int 0, .null], vm := .none },
  { cls := 6, slots := #[.null, .int 7, .int 0, .null], vm := .none },
  { cls := 6, slots := #[.null, .int 8, .int 0, .null], vm := .none },
  { cls := 6, slots := #[.null, .int 9, .int 0, .null], vm := .none },
  { cls := 6, slots := #[.null, .int 10, .int 0, .null], vm := .none },
  { cls := 6, slots := #[.null, .int 11, .int 0, .null], vm := .none }]
def classes : Array Class := #[k0, k1, k2, k3, k4, k5, k6, k7, k8, k9, k10, k11, k12, k13, k14, k15, k16, k17, k18, k19, k20]
def interned : List (Array UInt16 × Addr) := []
def slotsUsed : Nat := 71
def theMethod : MethodId := ⟨1, 2⟩
def args0 : Array Value := #[.int 5, .int 6, .long 7]
def aboutOver (below : List Frame) : State where
  vm := { classes := classes, interned := interned.toArray }
  heap := heap
  slotsUsed := slotsUsed
  threads := #[{ frames := .invoking theMethod args0 :: below }]
def below0 : List Frame := [.native { method := ⟨0, 0⟩, args := #[] }]
def about1 : State := aboutOver below0
def p0 : Program := .bare "" "" ""
def e0 : Env := launch0.env 0 0 0
theorem w_frames : about1.frames = Frame.invoking theMethod args0 :: below0 := rfl
set_option maxRecDepth 65536 in
theorem w_args : argsFit about1.vm theMethod args0 = true := by decide +kernel
set_option maxRecDepth 65536 in
theorem w_heap : heapFits about1 = true := by decide +kernel
set_option maxRecDepth 65536 in
theorem w_runnable : about1.curStatus? = some .runnable := by decide +kernel
set_option maxRecDepth 65536 in
theorem w_alone : about1.alone = true := by decide +kernel
set_option maxRecDepth 65536 in
theorem w_named : about1.methodNamed? x = some theMethod := by decide +kernel
set_option maxRecDepth 65536 in
theorem w_hears : about1.hears theMethod below0 = true := by decide +kernel
set_option maxRecDepth 65536 in
theorem w_ripe : about1.ripe theMethod args0 below0 = true := by decide +kernel
theorem w_running : about1.status = .running := rfl
set_option maxRecDepth 65536 in
theorem w_room : about1.hasRoom e0.platform room_1 = true :=
  launch0.hasRoom_least _ room_1 (by decide +kernel) (by decide +kernel) (by decide +kernel) (by decide +kernel) (by decide +kernel) (by decide +kernel)
theorem allAtoms_all (ts : List Jvm.Cond) (a : Array Jvm.Value) (st : Jvm.State) : (allAtoms ts).before a st = ts.all (fun c => c.before a st) := by
  induction ts with
  | nil => rfl
  | cons c t ih =>
    show (Jvm.Cond.and c (allAtoms t)).before a st = _
    rw [Jvm.Cond.before_and, ih, List.all_cons]
def words1 : List Jvm.Cond := Jvm.Cond.code x code maxLocals ret :: tables_1
/-- a 'code' word, met by the world's own term for the bytes: nothing is compared byte by byte -/
theorem code_word {y : MethodName} {bytes : ByteArray} {mx : Nat} {rt : Option FieldType} {a : Array Value} {s : State} {m : MethodId} {meth : Method} {c : Code} (h1 : s.methodNamed? y = some m) (h2 : s.vm.method? m = some meth) (h3 : meth.code = some c) (h4 : c.code = bytes)
    (h5 : (c.maxLocals == mx && c.exceptionTable.isEmpty && decide (c.maxStack ≤ mostOperands) && decide (meth.sig.returnType = rt) && !meth.locks && decide (parseMethodDescriptor y.desc = some meth.sig)) = true) : (Jvm.Cond.code y bytes mx rt).before a s = true := by
  simp only [Bool.and_eq_true, beq_iff_eq, Bool.not_eq_true', decide_eq_true_eq] at h5
  obtain ⟨⟨⟨⟨⟨g1, g2⟩, g3⟩, g4⟩, g5⟩, g6⟩ := h5
  simp [Cond.before, Cond.holds, Cond.value, h1, h2, h3, h4, g1, g2, g3, g4, g5, g6]
def isCode : Jvm.Cond → Bool
  | .code _ _ _ _ => true
  | _ => false
theorem all_split {L : List Jvm.Cond} {P : Jvm.Cond → Bool} (h1 : L.all (fun c => isCode c || P c) = true) (h2 : ∀ c ∈ L.filter isCode, P c = true) : L.all P = true := by
  refine List.all_eq_true.mpr fun c hc => ?_
  have h := List.all_eq_true.mp h1 c hc
  rcases Bool.eq_false_or_eq_true (isCode c) with hi | hi
  · exact h2 c (List.mem_filter.mpr ⟨hc, hi⟩)
  · simpa [hi] using h
set_option maxRecDepth 65536 in
theorem w_c0 : (Jvm.Cond.code x code maxLocals ret).before args0 about1 = true := code_word (m := ⟨1, 2⟩) (meth := k1m2) (c := k1c2) (by decide +kernel) rfl rfl rfl (by decide +kernel)
set_option maxRecDepth 65536 in
theorem w_c1 : (Jvm.Cond.code ({ cls := "com/example/scorebench/scorebench/grading/MutantVerdictCaughtPinLaw", name := "pick", desc := "(I)Lcom/example/scorebench/scorebench/grading/Verdict;" } : Jvm.MethodName) method_2_code (1 : Nat) (Option.some (Jvm.ClassFile.FieldType.object "com/example/scorebench/scorebench/grading/Verdict"))).before args0 about1 = true := code_word (m := ⟨1, 1⟩) (meth := k1m1) (c := k1c1) (by decide +kernel) rfl rfl rfl (by decide +kernel)
set_option maxRecDepth 65536 in
theorem w_c2 : (Jvm.Cond.code ({ cls := "java/lang/String", name := "valueOf", desc := "(C)Ljava/lang/String;" } : Jvm.MethodName) jdk_42_method_139_code (1 : Nat) (Option.some (Jvm.ClassFile.FieldType.object "java/lang/String"))).before args0 about1 = true := code_word (m := ⟨9, 1⟩) (meth := k9m1) (c := k9c1) (by decide +kernel) rfl rfl rfl (by decide +kernel)
set_option maxRecDepth 65536 in
theorem w_c3 : (Jvm.Cond.code ({ cls := "java/lang/StringLatin1", name := "canEncode", desc := "(C)Z" } : Jvm.MethodName) jdk_43_method_3_code (1 : Nat) (Option.some Jvm.ClassFile.FieldType.boolean)).before args0 about1 = true := code_word (m := ⟨10, 1⟩) (meth := k10m1) (c := k10c1) (by decide +kernel) rfl rfl rfl (by decide +kernel)
set_option maxRecDepth 65536 in
theorem w_c4 : (Jvm.Cond.code ({ cls := "java/lang/StringLatin1", name := "toBytes", desc := "(C)[B" } : Jvm.MethodName) jdk_43_method_46_code (1 : Nat) (Option.some (Jvm.ClassFile.FieldType.array Jvm.ClassFile.FieldType.byte))).before args0 about1 = true := code_word (m := ⟨10, 2⟩) (meth := k10m2) (c := k10c2) (by decide +kernel) rfl rfl rfl (by decide +kernel)
set_option maxRecDepth 65536 in
theorem w_c5 : (Jvm.Cond.code ({ cls := "java/lang/String", name := "<init>", desc := "([BB)V" } : Jvm.MethodName) jdk_42_method_151_code (3 : Nat) (Option.none : Option Jvm.ClassFile.FieldType)).before args0 about1 = true := code_word (m := ⟨9, 2⟩) (meth := k9m2) (c := k9c2) (by decide +kernel) rfl rfl rfl (by decide +kernel)
set_option maxRecDepth 65536 in
theorem w_c6 : (Jvm.Cond.code ({ cls := "java/lang/Object", name := "<init>", desc := "()V" } : Jvm.MethodName) object_method_1_code (1 : Nat) (Option.none : Option Jvm.ClassFile.FieldType)).before args0 about1 = true := code_word (m := ⟨0, 0⟩) (meth := k0m0) (c := k0c0) (by decide +kernel) rfl rfl rfl (by decide +kernel)
set_option maxRecDepth 65536 in
theorem w_c7 : (Jvm.Cond.code ({ cls := "com/example/scorebench/scorebench/assignment/Mutant", name := "<init>", desc := "(Ljava/lang/String;JLjava/lang/String;)V" } : Jvm.MethodName) prog_14_method_1_code (5 : Nat) (Option.none : Option Jvm.ClassFile.FieldType)).before args0 about1 = true := code_word (m := ⟨12, 0⟩) (meth := k12m0) (c := k12c0) (by decide +kernel) rfl rfl rfl (by decide +kernel)
set_option maxRecDepth 65536 in
theorem w_c8 : (Jvm.Cond.code ({ cls := "java/lang/Record", name := "<init>", desc := "()V" } : Jvm.MethodName) jdk_30_method_1_code (1 : Nat) (Option.none : Option Jvm.ClassFile.FieldType)).before args0 about1 = true := code_word (m := ⟨11, 0⟩) (meth := k11m0) (c := k11c0) (by decide +kernel) rfl rfl rfl (by decide +kernel)
set_option maxRecDepth 65536 in
theorem w_c9 : (Jvm.Cond.code ({ cls := "com/example/scorebench/scorebench/grading/Grade$MutantVerdict", name := "<init>", desc := "(Lcom/example/scorebench/scorebench/assignment/Mutant;Lcom/example/scorebench/scorebench/grading/Verdict;)V" } : Jvm.MethodName) prog_37_method_1_code (3 : Nat) (Option.none : Option Jvm.ClassFile.FieldType)).before args0 about1 = true := code_word (m := ⟨13, 0⟩) (meth := k13m0) (c := k13c0) (by decide +kernel) rfl rfl rfl (by decide +kernel)
set_option maxRecDepth 65536 in
theorem w_c10 : (Jvm.Cond.code ({ cls := "com/example/scorebench/scorebench/grading/Grade$MutantVerdict", name := "caught", desc := "()Z" } : Jvm.MethodName) prog_37_method_2_code (1 : Nat) (Option.some Jvm.ClassFile.FieldType.boolean)).before args0 about1 = true := code_word (m := ⟨13, 1⟩) (meth := k13m1) (c := k13c1) (by decide +kernel) rfl rfl rfl (by decide +kernel)
def codes1 : List Jvm.Cond := [Jvm.Cond.code x code maxLocals ret, Jvm.Cond.code ({ cls := "com/example/scorebench/scorebench/grading/MutantVerdictCaughtPinLaw", name := "pick", desc := "(I)Lcom/example/scorebench/scorebench/grading/Verdict;" } : Jvm.MethodName) method_2_code (1 : Nat) (Option.some (Jvm.ClassFile.FieldType.object "com/example/scorebench/scorebench/grading/Verdict")), Jvm.Cond.code ({ cls := "java/lang/String", name := "valueOf", desc := "(C)Ljava/lang/String;" } : Jvm.MethodName) jdk_42_method_139_code (1 : Nat) (Option.some (Jvm.ClassFile.FieldType.object "java/lang/String")), Jvm.Cond.code ({ cls := "java/lang/StringLatin1", name := "canEncode", desc := "(C)Z" } : Jvm.MethodName) jdk_43_method_3_code (1 : Nat) (Option.some Jvm.ClassFile.FieldType.boolean), Jvm.Cond.code ({ cls := "java/lang/StringLatin1", name := "toBytes", desc := "(C)[B" } : Jvm.MethodName) jdk_43_method_46_code (1 : Nat) (Option.some (Jvm.ClassFile.FieldType.array Jvm.ClassFile.FieldType.byte)), Jvm.Cond.code ({ cls := "java/lang/String", name := "<init>", desc := "([BB)V" } : Jvm.MethodName) jdk_42_method_151_code (3 : Nat) (Option.none : Option Jvm.ClassFile.FieldType), Jvm.Cond.code ({ cls := "java/lang/Object", name := "<init>", desc := "()V" } : Jvm.MethodName) object_method_1_code (1 : Nat) (Option.none : Option Jvm.ClassFile.FieldType), Jvm.Cond.code ({ cls := "com/example/scorebench/scorebench/assignment/Mutant", name := "<init>", desc := "(Ljava/lang/String;JLjava/lang/String;)V" } : Jvm.MethodName) prog_14_method_1_code (5 : Nat) (Option.none : Option Jvm.ClassFile.FieldType), Jvm.Cond.code ({ cls := "java/lang/Record", name := "<init>", desc := "()V" } : Jvm.MethodName) jdk_30_method_1_code (1 : Nat) (Option.none : Option Jvm.ClassFile.FieldType), Jvm.Cond.code ({ cls := "com/example/scorebench/scorebench/grading/Grade$MutantVerdict", name := "<init>", desc := "(Lcom/example/scorebench/scorebench/assignment/Mutant;Lcom/example/scorebench/scorebench/grading/Verdict;)V" } : Jvm.MethodName) prog_37_method_1_code (3 : Nat) (Option.none : Option Jvm.ClassFile.FieldType), Jvm.Cond.code ({ cls := "com/example/scorebench/scorebench/grading/Grade$MutantVerdict", name := "caught", desc := "()Z" } : Jvm.MethodName) prog_37_method_2_code (1 : Nat) (Option.some Jvm.ClassFile.FieldType.boolean)]
set_option maxRecDepth 65536 in
theorem codes_eq : words1.filter isCode = codes1 := rfl
theorem w_codes : ∀ c ∈ words1.filter isCode, c.before args0 about1 = true := by
  rw [codes_eq]
  intro c hc
  simp only [codes1, List.mem_cons, List.not_mem_nil, or_false] at hc
  rcases hc with rfl | rfl | rfl | rfl | rfl | rfl | rfl | rfl | rfl | rfl | rfl
  · exact w_c0
  · exact w_c1
  · exact w_c2
  · exact w_c3
  · exact w_c4
  · exact w_c5
  · exact w_c6
  · exact w_c7
  · exact w_c8
  · exact w_c9
  · exact w_c10
set_option maxRecDepth 65536 in
theorem w_t1 : (words1.take 24).all (fun c => isCode c || c.before args0 about1) = true := by decide +kernel
set_option maxRecDepth 65536 in
theorem w_t2 : ((words1.drop 24).take 24).all (fun c => isCode c || c.before args0 about1) = true := by decide +kernel
set_option maxRecDepth 65536 in
theorem w_t3 : (((words1.drop 24).drop 24).take 24).all (fun c => isCode c || c.before args0 about1) = true := by decide +kernel
set_option maxRecDepth 65536 in
theorem w_t4 : (((words1.drop 24).drop 24).drop 24).all (fun c => isCode c || c.before args0 about1) = true := by decide +kernel
theorem w_tables : (allAtoms (Jvm.Cond.code x code maxLocals ret :: tables_1)).before args0 about1 = true := by
  rw [allAtoms_all]
  show words1.all (fun c => c.before args0 about1) = true
  refine all_split ?_ w_codes
  rw [← List.take_append_drop 24 words1, List.all_append, w_t1, ← List.take_append_drop 24 (words1.drop 24), List.all_append, w_t2, ← List.take_append_drop 24 ((words1.drop 24).drop 24), List.all_append, w_t3, w_t4]
  rfl
set_option maxRecDepth 65536 in
theorem w_rest : rest_1_c.before args0 about1 = true := by decide +kernel
set_option maxRecDepth 65536 in
theorem w_case : (Jvm.Cond.and given_1 narrow_1).before args0 about1 = true := by decide +kernel
theorem w_applies : (headSpec (Jvm.Cond.code x code maxLocals ret :: tables_1) room_1).applies x e0.platform about1 = true :=
  (Spec.applies_iff w_frames).mpr ⟨w_running, w_runnable, w_alone, w_named, w_hears, w_ripe, w_room, w_tables⟩
theorem atStart : AtStart classFile x code maxLocals ret World_1 tables_1 room_1 Calls_1 rest_1 Pre_1 launch0 p0 e0 about1 theMethod args0 below0 :=
  ⟨lists_1, trivial, launch0.admits_env _ _ _, launch0.least_env, fairChoices_fair.cas, fairChoices_fair.clock, w_frames, w_args, w_heap, w_applies, trivial, w_rest, w_case⟩
end start1
theorem witness_1 : WitnessClaimed_1 := ⟨start1.p0, start1.e0, start1.about1, start1.theMethod, start1.args0, start1.below0, start1.atStart⟩
end Jvm.Pilot.@@N@@
