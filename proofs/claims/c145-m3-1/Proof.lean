import JvmDerived
import JvmDerived.Pilot.@@N@@Statement
import JvmDerived.Pilot.@@N@@Code
set_option linter.unusedVariables false
set_option linter.unusedSimpArgs false
namespace Jvm.RoadKit
open Sem ClassFile Op Lib Jvm.Stand Jvm.Free Jvm.LawKit
section New
variable {p : Program} {l : Launch} {e : Env} {R : Room} {s : State} {m : MethodId} {args : Array Value} {below : List Frame} {meth : Method} {c : Code} {T : State} {locs : List Loc} {cells slots : Nat}
theorem retI (X : Stand p l e R s m args below meth c T locs cells slots) (hx : p.tables.exec = Jvm.exec) {pc : Nat} {Ls : Array Slot} {z : Int32} {rest : List Value} (hret : meth.sig.returnType = some .int) (hd : decode c.code pc = .ok (.ireturn, 1)) {fs : List Frame}
    (hl : ∀ (f : JFrame) (acts : List Action), f.method = m → f.locked = none → f.entered = [] → (doReturn e (T.setTop f) acts (some (.int z))).1 = T.setFrames fs) : Steps p.tables e below (T.setTop (mkF m pc Ls (.int z :: rest))) (T.setFrames fs) := by
  have hm' : T.vm.method? m = some meth := X.method'
  have hn : narrow .int (.int z) = .int z := rfl
  show Steps p.tables e below (T.setTop { method := m, pc := pc, locals := Ls, stack := _ :: rest, locked := none }) _
  jvm_step X.here [X.here.top, hx, hd, hm', hret, hn]
  first | (intro acts; rw [hl _ acts rfl rfl rfl]) | rw [hl _ _ rfl rfl rfl]
  exact Steps.refl _
end New
end Jvm.RoadKit
@@BLOCK:HandJ.lean.txt@@
@@BLOCK:SymMore.lean.txt@@
@@BLOCK:Monitor.lean.txt@@
@@BLOCK:NumsL.lean.txt@@
namespace Jvm.Pilot.@@N@@
open Jvm Jvm.ClassFile Sem Op Lib Jvm.Free Jvm.Stand Jvm.LawKit Jvm.RoadKit Bundle Jvm.Pilot.@@N@@.Jvm.D
/-- from S the run comes to an end that says Q -/
def own_Go (p : Program) (e : Env) (below : List Frame) (s : State) (Q : Option Value → Heap → List Loc → Prop) (c n : Nat) (S : State) : Prop :=
  ∃ s₂ o, Steps p.tables e below S s₂ ∧ s₂.status = .running ∧ Ended s₂ below o ∧ ∃ v L, o = .returned v ∧ Q v s₂.heap L ∧ FrameEnd s o s₂ L c n
theorem own_go {p : Program} {e : Env} {below : List Frame} {s : State} {Q : Option Value → Heap → List Loc → Prop} {c n : Nat} {S S' : State} (st : ∀ t, Steps p.tables e below S' t → Steps p.tables e below S t) (k : own_Go p e below s Q c n S') : own_Go p e below s Q c n S := by
  obtain ⟨s₂, o, h, r⟩ := k
  exact ⟨s₂, o, st _ h, r⟩
theorem own_goT {p : Program} {e : Env} {below : List Frame} {s : State} {Q : Option Value → Heap → List Loc → Prop} {c n : Nat} {S S' : State} (st : Steps p.tables e below S S') (k : own_Go p e below s Q c n S') : own_Go p e below s Q c n S := own_go (fun _ h => st.trans h) k
theorem own_end {p : Program} {e : Env} {below : List Frame} {s : State} {Q : Option Value → Heap → List Loc → Prop} {c n : Nat} {S s₂ : State} {v : Option Value} {L : List Loc} (h : Steps p.tables e below S s₂) (hrun : s₂.status = .running) (he : Ended s₂ below (.returned v)) (hq : Q v s₂.heap L) (hW : s.WarmedH s₂.vm) (hs : s.sameButNew ({ s₂ with vm := s.vm } : State) L c n) : own_Go p e below s Q c n S :=
  ⟨s₂, _, h, hrun, he, v, L, rfl, hq, ⟨_, rfl⟩, hW, hs⟩
/-- an array of known values, its class's number unsaid -/
def own_Arv (Z : State) (h : Heap) (a : Addr) (ty : FieldType) (n : Int32) (vs : List Value) (d : Value) : Prop := ∃ k, Arv Z h a k ty n vs d
theorem own_Arv.lt {Z : State} {h : Heap} {a : Addr} {ty : FieldType} {n : Int32} {vs : List Value} {d : Value} (F : own_Arv Z h a ty n vs d) : a < h.size := by obtain ⟨k, F⟩ := F; exact F.lt
theorem own_Arv.ext {Z : State} {h h' : Heap} {a : Addr} {ty : FieldType} {n : Int32} {vs : List Value} {d : Value} (F : own_Arv Z h a ty n vs d) (E : Ext h h') : own_Arv Z h' a ty n vs d := by obtain ⟨k, F⟩ := F; exact ⟨k, F.ext E⟩
theorem own_Arv.other {Z : State} {h h' : Heap} {a b : Addr} {sl : Nat} {v : Value} {ty : FieldType} {n : Int32} {vs : List Value} {d : Value} (F : own_Arv Z h b ty n vs d) (W : Wr h h' a sl v) (q : b ≠ a) : own_Arv Z h' b ty n vs d := by obtain ⟨k, F⟩ := F; exact ⟨k, F.other W q⟩
theorem own_Arv.keep {Z : State} {h h' : Heap} {a : Addr} {ws : List Addr} {ty : FieldType} {n : Int32} {vs : List Value} {d : Value} (F : own_Arv Z h a ty n vs d) (K : Keep h h' ws) (q : a ∉ ws) : own_Arv Z h' a ty n vs d := by obtain ⟨k, F⟩ := F; exact ⟨k, F.keep K q⟩
theorem own_plain {Z : State} {h : Heap} {a : Addr} {C : String} (F : Exa Z h a C) : ∃ c : Cell, h[a]? = some c ∧ c.vm.isStatics = false := by obtain ⟨c, k, h1, -, -, h4, -⟩ := F; exact ⟨c, h1, h4⟩
theorem own_sta_keep {Z : State} {h h' : Heap} {ws : List Addr} {C n d : String} {v : Value} (F : Sta Z h C n d v) (K : Keep h h' ws) (q : ∀ x ∈ ws, ∃ c : Cell, h[x]? = some c ∧ c.vm.isStatics = false) : Sta Z h' C n d v := by
  obtain ⟨cf, i, k, f, st, cell, h1, h2, h3, h4, h5, h6, h7⟩ := F
  refine ⟨cf, i, k, f, st, cell, h1, h2, h3, h4, K.2.1 st cell h5 fun hm => ?_, h6, h7⟩
  obtain ⟨c, g1, g2⟩ := q st hm
  cases h5.symm.trans g1
  rw [h6] at g2; cases g2
theorem own_ins_keep {Z : State} {h h' : Heap} {ws : List Addr} {a : Addr} {C : String} {b : Bool} (F : Ins Z h a C b) (K : Keep h h' ws) : Ins Z h' a C b := by
  obtain ⟨cell, cT, h1, h2, h3⟩ := F
  obtain ⟨c', g1, g2, g3, -⟩ := K.2.2 a cell h1
  exact ⟨c', cT, g1, h2, by rw [g2, g3]; exact h3⟩
/-- an array of which the length alone is known -/
def own_Len (Z : State) (h : Heap) (a : Addr) (ty : FieldType) (n : Int32) : Prop := ∃ c : Cell, Arr Z h a c ty ∧ c.slots.size = n.toNatClampNeg ∧ ¬ n < 0
theorem own_Len.lt {Z : State} {h : Heap} {a : Addr} {ty : FieldType} {n : Int32} (F : own_Len Z h a ty n) : a < h.size := by obtain ⟨c, A, -⟩ := F; exact A.lt
theorem own_Len.new {Z : State} {h : Heap} {a : Addr} {k : ClassId} {ty : FieldType} {n : Int32} (A : Arr Z h a (newA k ty n) ty) (q : ¬ n < 0) : own_Len Z h a ty n := ⟨_, A, sz_new _ _ _, q⟩
theorem own_Len.ext {Z : State} {h h' : Heap} {a : Addr} {ty : FieldType} {n : Int32} (F : own_Len Z h a ty n) (E : Ext h h') : own_Len Z h' a ty n := by obtain ⟨c, A, r⟩ := F; exact ⟨c, A.ext E, r⟩
theorem own_Len.other {Z : State} {h h' : Heap} {a b : Addr} {sl : Nat} {v : Value} {ty : FieldType} {n : Int32} (F : own_Len Z h b ty n) (W : Wr h h' a sl v) (q : b ≠ a) : own_Len Z h' b ty n := by obtain ⟨c, A, r⟩ := F; exact ⟨c, A.other W q, r⟩
theorem own_Len.keep {Z : State} {h h' : Heap} {a : Addr} {ws : List Addr} {ty : FieldType} {n : Int32} (F : own_Len Z h a ty n) (K : Keep h h' ws) (q : a ∉ ws) : own_Len Z h' a ty n := by obtain ⟨c, A, r⟩ := F; exact ⟨c, ⟨K.2.1 a c A.1 q, A.2⟩, r⟩
theorem own_unt_keep {h h' : Heap} {a : Addr} {ws : List Addr} (F : Unt h a) (K : Keep h h' ws) (q : a ∉ ws) : Unt h' a := by obtain ⟨c, h1, r⟩ := F; exact ⟨c, K.2.1 a c h1 q, r⟩
theorem own_unt_lt {h : Heap} {a : Addr} (F : Unt h a) : a < h.size := by obtain ⟨c, h1, -⟩ := F; exact (Array.getElem?_eq_some_iff.mp h1).1
/-- an array of references, of known values, its component's class C -/
def own_ArvR (Z : State) (h : Heap) (a : Addr) (C : String) (n : Int32) (vs : List Value) : Prop := ∃ k, Arv Z h a k (.object C) n vs .null ∧ Ovr Z k C
theorem own_ArvR.lt {Z : State} {h : Heap} {a : Addr} {C : String} {n : Int32} {vs : List Value} (F : own_ArvR Z h a C n vs) : a < h.size := by obtain ⟨k, F, -⟩ := F; exact F.lt
theorem own_ArvR.ext {Z : State} {h h' : Heap} {a : Addr} {C : String} {n : Int32} {vs : List Value} (F : own_ArvR Z h a C n vs) (E : Ext h h') : own_ArvR Z h' a C n vs := by obtain ⟨k, F, O⟩ := F; exact ⟨k, F.ext E, O⟩
theorem own_ArvR.other {Z : State} {h h' : Heap} {a b : Addr} {sl : Nat} {v : Value} {C : String} {n : Int32} {vs : List Value} (F : own_ArvR Z h b C n vs) (W : Wr h h' a sl v) (q : b ≠ a) : own_ArvR Z h' b C n vs := by obtain ⟨k, F, O⟩ := F; exact ⟨k, F.other W q, O⟩
theorem own_ArvR.keep {Z : State} {h h' : Heap} {a : Addr} {ws : List Addr} {C : String} {n : Int32} {vs : List Value} (F : own_ArvR Z h a C n vs) (K : Keep h h' ws) (q : a ∉ ws) : own_ArvR Z h' a C n vs := by obtain ⟨k, F, O⟩ := F; exact ⟨k, F.keep K q, O⟩
theorem own_plainB {Z : State} {h : Heap} {a : Addr} {C : String} {n : Int32} {vs : List Value} (F : own_ArvR Z h a C n vs) : ∃ c : Cell, h[a]? = some c ∧ c.vm.isStatics = false := by obtain ⟨k, ⟨c, A, -⟩, -⟩ := F; exact ⟨c, A.1, A.plain⟩
theorem own_plainA {Z : State} {h : Heap} {a : Addr} {ty : FieldType} {n : Int32} {vs : List Value} {d : Value} (F : own_Arv Z h a ty n vs d) : ∃ c : Cell, h[a]? = some c ∧ c.vm.isStatics = false := by obtain ⟨k, c, A, -⟩ := F; exact ⟨c, A.1, A.plain⟩
theorem own_plainL {Z : State} {h : Heap} {a : Addr} {ty : FieldType} {n : Int32} (F : own_Len Z h a ty n) : ∃ c : Cell, h[a]? = some c ∧ c.vm.isStatics = false := by obtain ⟨c, A, -⟩ := F; exact ⟨c, A.1, A.plain⟩
theorem own_neA {Z : State} {h : Heap} {x b : Addr} {C : String} {a0 : Array Value} {m : Nat} {ty : FieldType} {n : Int32} {vs : List Value} {d : Value} (E : Exa Z h x C) (F : own_Arv Z h b ty n vs d) (w : (Jvm.Cond.instantiable C m).before a0 Z = true) : x ≠ b := by obtain ⟨k, c, A, -⟩ := F; exact ne_arr E w A
theorem own_neL {Z : State} {h : Heap} {x b : Addr} {C : String} {a0 : Array Value} {m : Nat} {ty : FieldType} {n : Int32} (E : Exa Z h x C) (F : own_Len Z h b ty n) (w : (Jvm.Cond.instantiable C m).before a0 Z = true) : x ≠ b := by obtain ⟨c, A, -⟩ := F; exact ne_arr E w A
theorem own_neB {Z : State} {h : Heap} {x b : Addr} {C D : String} {a0 : Array Value} {m : Nat} {n : Int32} {vs : List Value} (E : Exa Z h x C) (F : own_ArvR Z h b D n vs) (w : (Jvm.Cond.instantiable C m).before a0 Z = true) : x ≠ b := by obtain ⟨k, ⟨c, A, -⟩, -⟩ := F; exact ne_arr E w A

/-- a frame that has entered monitors -/
abbrev own_mk (ent : List Addr) (mr : Nat) (m : MethodId) (pc : Nat) (ls : Array Slot) (st : List Value) : JFrame := { method := m, pc := pc, locals := ls, stack := st, locked := none, entered := ent, monitorRoom := mr }
/-- one cell's monitor has turned, nothing else -/
def own_MonAt (h h' : Heap) (a : Addr) : Prop := ∃ (cl : Cell) (mo : Monitor), h[a]? = some cl ∧ h' = h.setIfInBounds a { cl with monitor := mo }
theorem own_mon {h h' : Heap} {a : Addr} (M : own_MonAt h h' a) : Mon h h' := by obtain ⟨cl, mo, h1, rfl⟩ := M; exact mon_set h1 mo
theorem own_keep_mon {h0 h h' : Heap} {a : Addr} {ws : List Addr} (K : Keep h0 h ws) (M : own_MonAt h h' a) (q : a ∈ ws) : Keep h0 h' ws := by
  obtain ⟨cl, mo, h1, rfl⟩ := M
  refine ⟨by simpa using K.1, fun x c hx hn => ?_, fun x c hx => ?_⟩
  · have ne : a ≠ x := fun e => hn (e ▸ q)
    rw [Array.getElem?_setIfInBounds_ne ne]; exact K.2.1 x c hx hn
  · obtain ⟨c', g1, g2, g3, g4⟩ := K.2.2 x c hx
    by_cases e : a = x
    · subst e
      cases h1.symm.trans g1
      exact ⟨{ cl with monitor := mo }, by simp [(Array.getElem?_eq_some_iff.mp h1).1], g2, g3, g4⟩
    · exact ⟨c', by rw [Array.getElem?_setIfInBounds_ne e]; exact g1, g2, g3, g4⟩
/-- the lock is this walk's -/
def own_Held (h : Heap) (a : Addr) (t : ThreadId) : Prop := ∃ cell : Cell, h[a]? = some cell ∧ cell.vm = .none ∧ cell.monitor = { ({} : Monitor) with owner := some t, count := 1 }
theorem own_Held.wr {h h' : Heap} {a b : Addr} {sl : Nat} {v : Value} {t : ThreadId} (W : Wr h h' b sl v) (F : own_Held h a t) : own_Held h' a t := by
  obtain ⟨cell, h1, h2, h3⟩ := F
  obtain ⟨c, w1, w2, w3, rfl⟩ := W
  by_cases e : b = a
  · subst e
    cases h1.symm.trans w1
    exact ⟨cell.setSlot sl v, by simp [(Array.getElem?_eq_some_iff.mp h1).1], h2, h3⟩
  · exact ⟨cell, by rw [Array.getElem?_setIfInBounds_ne e]; exact h1, h2, h3⟩
section Own
variable {p : Program} {l : Launch} {e : Env} {R : Room} {s : State} {m : MethodId} {args : Array Value} {below : List Frame} {meth : Method} {c : Code} {T : State} {locs : List Loc} {cells slots : Nat} {h : Heap}
theorem own_monIn (X : Stand p l e R s m args below meth c T locs cells slots) (hx : p.tables.exec = Jvm.exec) (hne : meth.name ≠ "<clinit>") (hlocks : meth.locks = false) {a : Addr} {c₀ : Cell} (h0 : s.heap[a]? = some c₀) (m0 : c₀.monitor = {}) (eT : T.heap = h) (U : Unt h a)
    {g : JFrame} (hg : g.method = m) (hen : g = { g with entered := [], monitorRoom := 0, locked := none }) (hsize : g.locals.size = c.maxLocals) {rest : List Value} (hstack : g.stack = .ref a :: rest) (hdg : decode c.code g.pc = .ok (.monitorenter, 1)) (hK : 2 * 1 + (rest.map fun v => v.category).sum ≤ R.locals) :
    ∃ T' h', Stand p l e R (s.setCell a (c₀.withEntry s.cur)) m args below meth c T' locs cells slots ∧ T'.heap = h' ∧ own_MonAt h h' a ∧ own_Held h' a s.cur ∧ ∀ target, Steps p.tables e below (T'.setTop { g with pc := g.pc + 1, stack := rest, entered := [a], monitorRoom := 1 }) target → Steps p.tables e below (T.setTop g) target := by
  obtain ⟨cT, t1, t2, t3⟩ := U
  have hcur : T.cur = s.cur := X.sameCur
  have hT : T.heap[a]? = some cT := by rw [eT]; exact t1
  obtain ⟨X', st⟩ := X.monitorenter hx hne h0 hT (Or.inl (by rw [t3])) hg hsize hstack hdg (by rw [hen]; exact hK) hlocks
  have e1 : c₀.monitored (cT.withEntry T.cur).monitor = c₀.withEntry s.cur := by rw [hcur]; simp [Cell.monitored, Cell.withEntry, t3, m0]
  rw [e1] at X'
  refine ⟨_, _, X', rfl, ⟨cT, (cT.withEntry T.cur).monitor, t1, by rw [← eT]; rfl⟩, ⟨cT.withEntry T.cur, ?_, t2, by rw [hcur]; simp [Cell.withEntry, t3]⟩, ?_⟩
  · show (T.heap.setIfInBounds a (cT.withEntry T.cur))[a]? = _
    simp [(Array.getElem?_eq_some_iff.mp hT).1]
  · intro target k
    refine st target ?_
    rw [hen] at k ⊢
    exact k
theorem own_monOut {a : Addr} {c₀ : Cell} (X : Stand p l e R (s.setCell a (c₀.withEntry s.cur)) m args below meth c T locs cells slots) (hx : p.tables.exec = Jvm.exec) (h0 : s.heap[a]? = some c₀) (m0 : c₀.monitor = {}) (eT : T.heap = h) (H : own_Held h a s.cur)
    {g : JFrame} (hg : g.method = m) (hen : g = { g with entered := [a], monitorRoom := 1, locked := none }) {rest : List Value} (hstack : g.stack = .ref a :: rest) (hent : g.entered = [a]) (hdg : decode c.code g.pc = .ok (.monitorexit, 1)) :
    ∃ T' h', Stand p l e R s m args below meth c T' locs cells slots ∧ T'.heap = h' ∧ own_MonAt h h' a ∧ Unt h' a ∧ ∀ target, Steps p.tables e below (T'.setTop { g with pc := g.pc + 1, stack := rest, entered := [], monitorRoom := 1 }) target → Steps p.tables e below (T.setTop g) target := by
  obtain ⟨cT, t1, t2, t3⟩ := H
  have hT : T.heap[a]? = some cT := by rw [eT]; exact t1
  have hcur : T.cur = s.cur := X.sameCur
  have hs' : (s.setCell a (c₀.withEntry s.cur)).heap[a]? = some (c₀.withEntry s.cur) := by
    show (s.heap.setIfInBounds a (c₀.withEntry s.cur))[a]? = _
    simp [(Array.getElem?_eq_some_iff.mp h0).1]
  obtain ⟨-, st⟩ := X.monitorexit hx hs' hT (by rw [t3, hcur]) hg hstack hent hdg
  have hen0 : c₀.enterable s.cur := Or.inl ⟨by rw [m0], by rw [m0]⟩
  have X' := X.left h0 hen0 hT
  have hl : cT.left = { cT with monitor := {} } := by simp [Cell.left, t3]
  refine ⟨_, _, X', rfl, ⟨cT, cT.left.monitor, t1, by rw [← eT]; show T.heap.setIfInBounds a cT.left = _; rw [hl]⟩, ⟨cT.left, ?_, by rw [hl]; exact t2, by rw [hl]⟩, ?_⟩
  · show (T.heap.setIfInBounds a cT.left)[a]? = _
    simp [(Array.getElem?_eq_some_iff.mp hT).1]
  · intro target k
    refine st target ?_
    rw [hen] at k ⊢
    exact k
end Own
theorem d5_0 : decode jdk_22_method_1_code 0 = .ok (.aload_n 0, 1) := by decide +kernel
theorem d5_1 : decode jdk_22_method_1_code 1 = .ok (.invokespecial 1, 3) := by decide +kernel
theorem d5_4 : decode jdk_22_method_1_code 4 = .ok (.return_, 1) := by decide +kernel
theorem pn_3 : plainName "java/util/AbstractCollection" = true := by first | (simp [plainName, overriddenIn]; done) | decide +kernel
theorem ef_acInit (m : MethodId) (x0 : Addr) : entryFrame m #[(.ref x0)] 1 = mkF m 0 #[.val (.ref x0)] [] := by first | (simp [entryFrame, mkF, argsToLocals, Value.category]; done) | rfl
def QacInit (Z : State) (o0 : Addr) (h0 : Heap) (n0 : Nat) (v : Option Value) (h : Heap) (L : List Loc) : Prop := v = none ∧ Fr n0 L ∧ h = h0
set_option maxRecDepth 65536 in
set_option maxHeartbeats 40000000 in
theorem acInit (l : Launch) (Z : State) (a0 : Array Value) (hw : ∀ d ∈ tables_1, d.before a0 Z = true) (ws : List Jvm.Cond) (o0 : Addr) (h0 : Heap) (n0 : Nat) (Z0 : n0 ≤ h0.size) :
    MetFree l (⟨"java/util/AbstractCollection", "<init>", "()V"⟩ : MethodName) (head1 (Jvm.Cond.code (⟨"java/util/AbstractCollection", "<init>", "()V"⟩ : MethodName) jdk_22_method_1_code 1 none :: ws) ({ frames := 1, cells := 0, slots := 0, locals := 12 } : Room)) (fun a U => a = #[(.ref o0)] ∧ Z.Warmed39 U.vm ∧ U.heap = h0) (fun _ _ _ _ _ => True) (fun _ U o U' => ∃ v L, o = .returned v ∧ QacInit Z o0 h0 n0 v U'.heap L ∧ FrameEnd U o U' L ({ frames := 1, cells := 0, slots := 0, locals := 12 } : Room).cells ({ frames := 1, cells := 0, slots := 0, locals := 12 } : Room).slots) := by
  refine MetFree.of_bodySF (plainFor_of_name pn_3) hisR ?_
  intro p e s m args below meth c s₁ Bd hml0 hP hK
  obtain ⟨rfl, hZ, hh⟩ := hP
  have hx := Bd.exec
  have hby := Bd.bytes
  have hml : c.maxLocals = 1 := hml0
  have hown : s.vm.findClass "java/util/AbstractCollection" = some m.cls := findClass_of_methodNamed Bd.named
  have hnm := (name_of_methodNamed Bd.named Bd.method).1
  have X0 : Stand p l e ({ frames := 1, cells := 0, slots := 0, locals := 12 } : Room) s m #[(.ref o0)] below meth c s₁ [] 0 0 := Stand.of_body Bd
  have e0 : s₁.heap = h0 := by rw [← hh, Bd.state]; rfl
  have N0 := Fr.nil n0
  show own_Go p e below s (QacInit Z o0 h0 n0) ({ frames := 1, cells := 0, slots := 0, locals := 12 } : Room).cells ({ frames := 1, cells := 0, slots := 0, locals := 12 } : Room).slots (s₁.setTop (entryFrame m #[(.ref o0)] 1))
  rw [ef_acInit m o0]
  have K0 : Keep h0 h0 [] := Keep.refl h0 []
  refine own_go (S' := s₁.setTop (mkF m 1 #[.val (.ref o0)] [(.ref o0)])) (fun t k => ?_) ?_
  · show Steps p.tables e below (s₁.setTop (mkF m 0 #[.val (.ref o0)] [])) t
    refine XS.aloadN X0.here hx rfl (hb hby d5_0) rfl rfl ?_
    exact k
  obtain ⟨T1, X1, e1, st1⟩ := initO X0 hx hZ hown (hw _ (List.mem_of_getElem? (i := 27) rfl)) (hw _ (List.mem_of_getElem? (i := 7) rfl)) (hw _ (List.mem_of_getElem? (i := 8) rfl)) e0 (g := (mkF m 1 #[.val (.ref o0)] [(.ref o0)])) rfl (by rw [hml]; rfl) rfl (hb hby d5_1) (by decide) (W := 0) (by show 2 * 0 + _ ≤ _; exact Nat.le_of_eq rfl) (by decide)
  refine own_go st1 ?_
  obtain ⟨fs, hr, hrun, hended, hW, hsame⟩ := X1.leave (v := none) (fun _ => rfl)
  refine own_end (v := none) ?_ hrun hended ?_ hW (hsame.mono (by decide) (by decide))
  · show Steps p.tables e below (T1.setTop (mkF m 4 #[.val (.ref o0)] [])) _
    exact X1.returnOut hx Bd.returns (hb hby d5_4) hr
  · show QacInit Z o0 h0 n0 _ T1.heap _
    rw [e1]
    exact ⟨rfl, N0, rfl⟩
theorem d4_0 : decode jdk_39_method_1_code 0 = .ok (.aload_n 0, 1) := by decide +kernel
theorem d4_1 : decode jdk_39_method_1_code 1 = .ok (.invokespecial 1, 3) := by decide +kernel
theorem pd_6 : parseMethodDescriptor "()V" = some ⟨[], none⟩ := by decide +kernel
theorem d4_4 : decode jdk_39_method_1_code 4 = .ok (.aload_n 0, 1) := by decide +kernel
theorem d4_5 : decode jdk_39_method_1_code 5 = .ok (.iconst 0, 1) := by decide +kernel
theorem d4_6 : decode jdk_39_method_1_code 6 = .ok (.putfield 7, 3) := by decide +kernel
theorem d4_9 : decode jdk_39_method_1_code 9 = .ok (.return_, 1) := by decide +kernel
theorem pn_11 : plainName "java/util/AbstractList" = true := by first | (simp [plainName, overriddenIn]; done) | decide +kernel
theorem ef_alInit (m : MethodId) (x0 : Addr) : entryFrame m #[(.ref x0)] 1 = mkF m 0 #[.val (.ref x0)] [] := by first | (simp [entryFrame, mkF, argsToLocals, Value.category]; done) | rfl
def QalInit (Z : State) (o0 : Addr) (w_o0_modCount : Int32) (w_o0_elementData : Value) (w_o0_size : Int32) (h0 : Heap) (n0 : Nat) (v : Option Value) (h : Heap) (L : List Loc) : Prop := v = none ∧ Fr n0 L ∧ Keep h0 h [o0] ∧ Exa Z h o0 "java/util/ArrayList" ∧ Fld Z h o0 "java/util/ArrayList" "elementData" "[Ljava/lang/Object;" w_o0_elementData ∧ Fld Z h o0 "java/util/ArrayList" "size" "I" (.int w_o0_size) ∧ Fld Z h o0 "java/util/AbstractList" "modCount" "I" (.int (0 : Int32))
set_option maxRecDepth 65536 in
set_option maxHeartbeats 40000000 in
theorem alInit (l : Launch) (Z : State) (a0 : Array Value) (hw : ∀ d ∈ tables_1, d.before a0 Z = true) (ws : List Jvm.Cond) (o0 : Addr) (w_o0_modCount : Int32) (w_o0_elementData : Value) (w_o0_size : Int32) (h0 : Heap) (n0 : Nat) (Z0 : n0 ≤ h0.size) (E_o0 : Exa Z h0 o0 "java/util/ArrayList") (F_o0_modCount : Fld Z h0 o0 "java/util/AbstractList" "modCount" "I" (.int w_o0_modCount)) (F_o0_elementData : Fld Z h0 o0 "java/util/ArrayList" "elementData" "[Ljava/lang/Object;" w_o0_elementData) (F_o0_size : Fld Z h0 o0 "java/util/ArrayList" "size" "I" (.int w_o0_size)) (g_o0 : n0 ≤ o0) :
    MetFree l (⟨"java/util/AbstractList", "<init>", "()V"⟩ : MethodName) (head1 (Jvm.Cond.code (⟨"java/util/AbstractList", "<init>", "()V"⟩ : MethodName) jdk_39_method_1_code 1 none :: ws) ({ frames := 2, cells := 0, slots := 0, locals := 24 } : Room)) (fun a U => a = #[(.ref o0)] ∧ Z.Warmed39 U.vm ∧ U.heap = h0) (fun _ _ _ _ _ => True) (fun _ U o U' => ∃ v L, o = .returned v ∧ QalInit Z o0 w_o0_modCount w_o0_elementData w_o0_size h0 n0 v U'.heap L ∧ FrameEnd U o U' L ({ frames := 2, cells := 0, slots := 0, locals := 24 } : Room).cells ({ frames := 2, cells := 0, slots := 0, locals := 24 } : Room).slots) := by
  refine MetFree.of_bodySF (plainFor_of_name pn_11) hisR ?_
  intro p e s m args below meth c s₁ Bd hml0 hP hK
  obtain ⟨rfl, hZ, hh⟩ := hP
  have hx := Bd.exec
  have hby := Bd.bytes
  have hml : c.maxLocals = 1 := hml0
  have hown : s.vm.findClass "java/util/AbstractList" = some m.cls := findClass_of_methodNamed Bd.named
  have hnm := (name_of_methodNamed Bd.named Bd.method).1
  have X0 : Stand p l e ({ frames := 2, cells := 0, slots := 0, locals := 24 } : Room) s m #[(.ref o0)] below meth c s₁ [] 0 0 := Stand.of_body Bd
  have e0 : s₁.heap = h0 := by rw [← hh, Bd.state]; rfl
  have N0 := Fr.nil n0
  show own_Go p e below s (QalInit Z o0 w_o0_modCount w_o0_elementData w_o0_size h0 n0) ({ frames := 2, cells := 0, slots := 0, locals := 24 } : Room).cells ({ frames := 2, cells := 0, slots := 0, locals := 24 } : Room).slots (s₁.setTop (entryFrame m #[(.ref o0)] 1))
  rw [ef_alInit m o0]
  have K0 : Keep h0 h0 [o0] := Keep.refl h0 [o0]
  refine own_go (S' := s₁.setTop (mkF m 1 #[.val (.ref o0)] [(.ref o0)])) (fun t k => ?_) ?_
  · show Steps p.tables e below (s₁.setTop (mkF m 0 #[.val (.ref o0)] [])) t
    refine XS.aloadN X0.here hx rfl (hb hby d4_0) rfl rfl ?_
    exact k
  obtain ⟨_, _, ⟨T2, L2, kk2, nn2⟩, -, X2, ⟨Lc2, hQ2, l2, y2, z2⟩, st2⟩ := X0.specialBack hx (y := (⟨"java/util/AbstractCollection", "<init>", "()V"⟩ : MethodName)) rfl hown (mvT hZ (hw _ (List.mem_of_getElem? (i := 21) rfl))) (mvT hZ (hw _ (List.mem_of_getElem? (i := 22) rfl))) (mvT hZ (hw _ (List.mem_of_getElem? (i := 26) rfl))) (by decide) (backOf (W := 0) (acInit l Z a0 hw [] o0 h0 n0 Z0 ) hZ (hw _ (List.mem_of_getElem? (i := 26) rfl)) (hw _ (List.mem_of_getElem? (i := 25) rfl)) (by decide) (by decide)) (g := (mkF m 1 #[.val (.ref o0)] [(.ref o0)])) rfl (by rw [hml]; rfl) (Steps.refl _) (a := o0) (argsL := []) (rest := []) (lenOf pd_6 rfl) rfl (by show 2 * 0 + _ ≤ _; exact Nat.le_of_eq rfl) (hb hby d4_1) (fun _ _ => ⟨rfl, e0, (by decide : 0 + 0 ≤ _), (by decide : 0 + 0 ≤ _)⟩)
  dsimp only [Pt.U, Pt.locs, Pt.cells, Pt.slots] at X2 l2 y2 z2 st2 hQ2
  subst l2 y2 z2
  obtain ⟨rfl, N3, e2⟩ := hQ2
  have N5 := Fr.app N0 N3
  refine own_goT st2 ?_
  refine own_go (S' := T2.setTop (mkF m 6 #[.val (.ref o0)] [(.int (0 : Int32)), (.ref o0)])) (fun t k => ?_) ?_
  · show Steps p.tables e below (T2.setTop (mkF m 4 #[.val (.ref o0)] [])) t
    refine XS.aloadN X2.here hx rfl (hb hby d4_4) rfl rfl ?_
    show Steps p.tables e below (T2.setTop (mkF m 5 #[.val (.ref o0)] [(.ref o0)])) t
    refine XS.iconst X2.here hx rfl (hb hby d4_5) ?_
    exact k
  obtain ⟨T6, h6, X6, e6, W6, st6⟩ := putF X2 hx hZ hown (host := "") (Or.inl (hw _ (List.mem_of_getElem? (i := 28) rfl))) Via.refl e2 F_o0_modCount E_o0 (Or.inl (hw _ (List.mem_of_getElem? (i := 29) rfl))) (hw _ (List.mem_of_getElem? (i := 10) rfl)) (ty := .int) (by decide) rfl rfl (g := (mkF m 6 #[.val (.ref o0)] [(.int (0 : Int32)), (.ref o0)])) rfl rfl (hb hby d4_6)
  have f7 : Exa Z h6 o0 "java/util/ArrayList" := E_o0.wr W6
  have f8 : Fld Z h6 o0 "java/util/ArrayList" "elementData" "[Ljava/lang/Object;" w_o0_elementData := F_o0_elementData.other W6 (Or.inr (slot_ne (Or.inl (hw _ (List.mem_of_getElem? (i := 32) rfl))) (Or.inl (hw _ (List.mem_of_getElem? (i := 29) rfl))) (by decide) (t := (.array (.object "java/lang/Object"))) (t' := .int) (by decide) (by decide)))
  have f9 : Fld Z h6 o0 "java/util/ArrayList" "size" "I" (.int w_o0_size) := F_o0_size.other W6 (Or.inr (slot_ne (Or.inl (hw _ (List.mem_of_getElem? (i := 217) rfl))) (Or.inl (hw _ (List.mem_of_getElem? (i := 29) rfl))) (by decide) (t := .int) (t' := .int) (by decide) (by decide)))
  have f10 : Fld Z h6 o0 "java/util/AbstractList" "modCount" "I" (.int (0 : Int32)) := F_o0_modCount.same W6
  have N11 := Fr.snoc X6 N5 g_o0
  have Z12 : n0 ≤ h6.size := Nat.le_trans Z0 (Keep.of_wr W6).1
  have K13 : Keep h0 h6 [o0] := K0.wr W6 (Or.inl (List.mem_of_getElem? (i := 0) rfl))
  refine own_go st6 ?_
  obtain ⟨fs, hr, hrun, hended, hW, hsame⟩ := X6.leave (v := none) (fun _ => rfl)
  refine own_end (v := none) ?_ hrun hended ?_ hW (hsame.mono (by decide) (by decide))
  · show Steps p.tables e below (T6.setTop (mkF m 9 #[.val (.ref o0)] [])) _
    exact X6.returnOut hx Bd.returns (hb hby d4_9) hr
  · show QalInit Z o0 w_o0_modCount w_o0_elementData w_o0_size h0 n0 _ T6.heap _
    rw [e6]
    exact ⟨rfl, N11, K13, f7, f8, f9, f10⟩
theorem d3_0 : decode jdk_38_method_2_code 0 = .ok (.aload_n 0, 1) := by decide +kernel
theorem d3_1 : decode jdk_38_method_2_code 1 = .ok (.invokespecial 1, 3) := by decide +kernel
theorem d3_4 : decode jdk_38_method_2_code 4 = .ok (.aload_n 0, 1) := by decide +kernel
theorem d3_5 : decode jdk_38_method_2_code 5 = .ok (.getstatic 39, 3) := by decide +kernel
theorem d3_8 : decode jdk_38_method_2_code 8 = .ok (.putfield 9, 3) := by decide +kernel
theorem d3_11 : decode jdk_38_method_2_code 11 = .ok (.return_, 1) := by decide +kernel
theorem pn_18 : plainName "java/util/ArrayList" = true := by first | (simp [plainName, overriddenIn]; done) | decide +kernel
theorem ef_arInit (m : MethodId) (x0 : Addr) : entryFrame m #[(.ref x0)] 1 = mkF m 0 #[.val (.ref x0)] [] := by first | (simp [entryFrame, mkF, argsToLocals, Value.category]; done) | rfl
def QarInit (Z : State) (o0 : Addr) (w_o0_modCount : Int32) (w_o0_elementData : Value) (w_o0_size : Int32) (w_s_DEFAULTCAPACITY_EMPTY_ELEMENTDATA : Addr) (h0 : Heap) (n0 : Nat) (v : Option Value) (h : Heap) (L : List Loc) : Prop := v = none ∧ Fr n0 L ∧ Keep h0 h [o0] ∧ Exa Z h o0 "java/util/ArrayList" ∧ Fld Z h o0 "java/util/ArrayList" "size" "I" (.int w_o0_size) ∧ Fld Z h o0 "java/util/AbstractList" "modCount" "I" (.int (0 : Int32)) ∧ Fld Z h o0 "java/util/ArrayList" "elementData" "[Ljava/lang/Object;" (.ref w_s_DEFAULTCAPACITY_EMPTY_ELEMENTDATA)
set_option maxRecDepth 65536 in
set_option maxHeartbeats 40000000 in
theorem arInit (l : Launch) (Z : State) (a0 : Array Value) (hw : ∀ d ∈ tables_1, d.before a0 Z = true) (ws : List Jvm.Cond) (o0 : Addr) (w_o0_modCount : Int32) (w_o0_elementData : Value) (w_o0_size : Int32) (w_s_DEFAULTCAPACITY_EMPTY_ELEMENTDATA : Addr) (h0 : Heap) (n0 : Nat) (Z0 : n0 ≤ h0.size) (E_o0 : Exa Z h0 o0 "java/util/ArrayList") (F_o0_modCount : Fld Z h0 o0 "java/util/AbstractList" "modCount" "I" (.int w_o0_modCount)) (F_o0_elementData : Fld Z h0 o0 "java/util/ArrayList" "elementData" "[Ljava/lang/Object;" w_o0_elementData) (F_o0_size : Fld Z h0 o0 "java/util/ArrayList" "size" "I" (.int w_o0_size)) (g_o0 : n0 ≤ o0) (S_DEFAULTCAPACITY_EMPTY_ELEMENTDATA : Sta Z h0 "java/util/ArrayList" "DEFAULTCAPACITY_EMPTY_ELEMENTDATA" "[Ljava/lang/Object;" (.ref w_s_DEFAULTCAPACITY_EMPTY_ELEMENTDATA)) :
    MetFree l (⟨"java/util/ArrayList", "<init>", "()V"⟩ : MethodName) (head1 (Jvm.Cond.code (⟨"java/util/ArrayList", "<init>", "()V"⟩ : MethodName) jdk_38_method_2_code 1 none :: ws) ({ frames := 3, cells := 0, slots := 0, locals := 36 } : Room)) (fun a U => a = #[(.ref o0)] ∧ Z.Warmed39 U.vm ∧ U.heap = h0) (fun _ _ _ _ _ => True) (fun _ U o U' => ∃ v L, o = .returned v ∧ QarInit Z o0 w_o0_modCount w_o0_elementData w_o0_size w_s_DEFAULTCAPACITY_EMPTY_ELEMENTDATA h0 n0 v U'.heap L ∧ FrameEnd U o U' L ({ frames := 3, cells := 0, slots := 0, locals := 36 } : Room).cells ({ frames := 3, cells := 0, slots := 0, locals := 36 } : Room).slots) := by
  refine MetFree.of_bodySF (plainFor_of_name pn_18) hisR ?_
  intro p e s m args below meth c s₁ Bd hml0 hP hK
  obtain ⟨rfl, hZ, hh⟩ := hP
  have hx := Bd.exec
  have hby := Bd.bytes
  have hml : c.maxLocals = 1 := hml0
  have hown : s.vm.findClass "java/util/ArrayList" = some m.cls := findClass_of_methodNamed Bd.named
  have hnm := (name_of_methodNamed Bd.named Bd.method).1
  have X0 : Stand p l e ({ frames := 3, cells := 0, slots := 0, locals := 36 } : Room) s m #[(.ref o0)] below meth c s₁ [] 0 0 := Stand.of_body Bd
  have e0 : s₁.heap = h0 := by rw [← hh, Bd.state]; rfl
  have N0 := Fr.nil n0
  show own_Go p e below s (QarInit Z o0 w_o0_modCount w_o0_elementData w_o0_size w_s_DEFAULTCAPACITY_EMPTY_ELEMENTDATA h0 n0) ({ frames := 3, cells := 0, slots := 0, locals := 36 } : Room).cells ({ frames := 3, cells := 0, slots := 0, locals := 36 } : Room).slots (s₁.setTop (entryFrame m #[(.ref o0)] 1))
  rw [ef_arInit m o0]
  have K0 : Keep h0 h0 [o0] := Keep.refl h0 [o0]
  refine own_go (S' := s₁.setTop (mkF m 1 #[.val (.ref o0)] [(.ref o0)])) (fun t k => ?_) ?_
  · show Steps p.tables e below (s₁.setTop (mkF m 0 #[.val (.ref o0)] [])) t
    refine XS.aloadN X0.here hx rfl (hb hby d3_0) rfl rfl ?_
    exact k
  obtain ⟨_, _, ⟨T14, L14, kk14, nn14⟩, -, X14, ⟨Lc14, hQ14, l14, y14, z14⟩, st14⟩ := X0.specialBack hx (y := (⟨"java/util/AbstractList", "<init>", "()V"⟩ : MethodName)) rfl hown (mvT hZ (hw _ (List.mem_of_getElem? (i := 15) rfl))) (mvT hZ (hw _ (List.mem_of_getElem? (i := 16) rfl))) (mvT hZ (hw _ (List.mem_of_getElem? (i := 20) rfl))) (by decide) (backOf (W := 0) (alInit l Z a0 hw [] o0 w_o0_modCount w_o0_elementData w_o0_size h0 n0 Z0 E_o0 F_o0_modCount F_o0_elementData F_o0_size g_o0) hZ (hw _ (List.mem_of_getElem? (i := 20) rfl)) (hw _ (List.mem_of_getElem? (i := 19) rfl)) (by decide) (by decide)) (g := (mkF m 1 #[.val (.ref o0)] [(.ref o0)])) rfl (by rw [hml]; rfl) (Steps.refl _) (a := o0) (argsL := []) (rest := []) (lenOf pd_6 rfl) rfl (by show 2 * 0 + _ ≤ _; exact Nat.le_of_eq rfl) (hb hby d3_1) (fun _ _ => ⟨rfl, e0, (by decide : 0 + 0 ≤ _), (by decide : 0 + 0 ≤ _)⟩)
  dsimp only [Pt.U, Pt.locs, Pt.cells, Pt.slots] at X14 l14 y14 z14 st14 hQ14
  subst l14 y14 z14
  obtain ⟨rfl, N15, K16, p17, p18, p19, p20⟩ := hQ14
  have N21 := Fr.app N0 N15
  have f22 : Exa Z T14.heap o0 "java/util/ArrayList" := E_o0.keep K16
  have f23 : Sta Z T14.heap "java/util/ArrayList" "DEFAULTCAPACITY_EMPTY_ELEMENTDATA" "[Ljava/lang/Object;" (.ref w_s_DEFAULTCAPACITY_EMPTY_ELEMENTDATA) := own_sta_keep S_DEFAULTCAPACITY_EMPTY_ELEMENTDATA K16 (allS (own_plain E_o0) all0)
  have Z24 : n0 ≤ T14.heap.size := Nat.le_trans Z0 K16.1
  have K25 : Keep h0 T14.heap [o0] := K0.trans K16 (allS (Or.inl (List.mem_of_getElem? (i := 0) rfl)) all0)
  refine own_goT st14 ?_
  refine own_go (S' := T14.setTop (mkF m 5 #[.val (.ref o0)] [(.ref o0)])) (fun t k => ?_) ?_
  · show Steps p.tables e below (T14.setTop (mkF m 4 #[.val (.ref o0)] [])) t
    refine XS.aloadN X14.here hx rfl (hb hby d3_4) rfl rfl ?_
    exact k
  obtain ⟨T26, X26, e26, st26⟩ := getS2 X14 hx hZ hown (host := "") (Or.inl (hw _ (List.mem_of_getElem? (i := 30) rfl))) Via.refl rfl f23 (g := (mkF m 5 #[.val (.ref o0)] [(.ref o0)])) rfl (hb hby d3_5)
  refine own_go st26 ?_
  obtain ⟨T27, h27, X27, e27, W27, st27⟩ := putF X26 hx hZ hown (host := "") (Or.inl (hw _ (List.mem_of_getElem? (i := 31) rfl))) Via.refl e26 p18 p17 (Or.inl (hw _ (List.mem_of_getElem? (i := 32) rfl))) (hw _ (List.mem_of_getElem? (i := 10) rfl)) (ty := (.array (.object "java/lang/Object"))) (by decide) rfl rfl (g := (mkF m 8 #[.val (.ref o0)] [(.ref w_s_DEFAULTCAPACITY_EMPTY_ELEMENTDATA), (.ref o0)])) rfl rfl (hb hby d3_8)
  have f28 : Exa Z h27 o0 "java/util/ArrayList" := p17.wr W27
  have f29 : Sta Z h27 "java/util/ArrayList" "DEFAULTCAPACITY_EMPTY_ELEMENTDATA" "[Ljava/lang/Object;" (.ref w_s_DEFAULTCAPACITY_EMPTY_ELEMENTDATA) := f23.wr W27
  have f30 : Fld Z h27 o0 "java/util/ArrayList" "size" "I" (.int w_o0_size) := p19.other W27 (Or.inr (slot_ne (Or.inl (hw _ (List.mem_of_getElem? (i := 217) rfl))) (Or.inl (hw _ (List.mem_of_getElem? (i := 32) rfl))) (by decide) (t := .int) (t' := (.array (.object "java/lang/Object"))) (by decide) (by decide)))
  have f31 : Fld Z h27 o0 "java/util/AbstractList" "modCount" "I" (.int (0 : Int32)) := p20.other W27 (Or.inr (slot_ne (Or.inl (hw _ (List.mem_of_getElem? (i := 29) rfl))) (Or.inl (hw _ (List.mem_of_getElem? (i := 32) rfl))) (by decide) (t := .int) (t' := (.array (.object "java/lang/Object"))) (by decide) (by decide)))
  have f32 : Fld Z h27 o0 "java/util/ArrayList" "elementData" "[Ljava/lang/Object;" (.ref w_s_DEFAULTCAPACITY_EMPTY_ELEMENTDATA) := p18.same W27
  have N33 := Fr.snoc X27 N21 g_o0
  have Z34 : n0 ≤ h27.size := Nat.le_trans Z24 (Keep.of_wr W27).1
  have K35 : Keep h0 h27 [o0] := K25.wr W27 (Or.inl (List.mem_of_getElem? (i := 0) rfl))
  refine own_go st27 ?_
  obtain ⟨fs, hr, hrun, hended, hW, hsame⟩ := X27.leave (v := none) (fun _ => rfl)
  refine own_end (v := none) ?_ hrun hended ?_ hW (hsame.mono (by decide) (by decide))
  · show Steps p.tables e below (T27.setTop (mkF m 11 #[.val (.ref o0)] [])) _
    exact X27.returnOut hx Bd.returns (hb hby d3_11) hr
  · show QarInit Z o0 w_o0_modCount w_o0_elementData w_o0_size w_s_DEFAULTCAPACITY_EMPTY_ELEMENTDATA h0 n0 _ T27.heap _
    rw [e27]
    exact ⟨rfl, N33, K35, f28, f30, f31, f32⟩
theorem d7_0 : decode jdk_30_method_1_code 0 = .ok (.aload_n 0, 1) := by decide +kernel
theorem d7_1 : decode jdk_30_method_1_code 1 = .ok (.invokespecial 1, 3) := by decide +kernel
theorem d7_4 : decode jdk_30_method_1_code 4 = .ok (.return_, 1) := by decide +kernel
theorem pn_22 : plainName "java/lang/Record" = true := by first | (simp [plainName, overriddenIn]; done) | decide +kernel
theorem ef_recInit (m : MethodId) (x0 : Addr) : entryFrame m #[(.ref x0)] 1 = mkF m 0 #[.val (.ref x0)] [] := by first | (simp [entryFrame, mkF, argsToLocals, Value.category]; done) | rfl
def QrecInit (Z : State) (o0 : Addr) (h0 : Heap) (n0 : Nat) (v : Option Value) (h : Heap) (L : List Loc) : Prop := v = none ∧ Fr n0 L ∧ h = h0
set_option maxRecDepth 65536 in
set_option maxHeartbeats 40000000 in
theorem recInit (l : Launch) (Z : State) (a0 : Array Value) (hw : ∀ d ∈ tables_1, d.before a0 Z = true) (ws : List Jvm.Cond) (o0 : Addr) (h0 : Heap) (n0 : Nat) (Z0 : n0 ≤ h0.size) :
    MetFree l (⟨"java/lang/Record", "<init>", "()V"⟩ : MethodName) (head1 (Jvm.Cond.code (⟨"java/lang/Record", "<init>", "()V"⟩ : MethodName) jdk_30_method_1_code 1 none :: ws) ({ frames := 1, cells := 0, slots := 0, locals := 12 } : Room)) (fun a U => a = #[(.ref o0)] ∧ Z.Warmed39 U.vm ∧ U.heap = h0) (fun _ _ _ _ _ => True) (fun _ U o U' => ∃ v L, o = .returned v ∧ QrecInit Z o0 h0 n0 v U'.heap L ∧ FrameEnd U o U' L ({ frames := 1, cells := 0, slots := 0, locals := 12 } : Room).cells ({ frames := 1, cells := 0, slots := 0, locals := 12 } : Room).slots) := by
  refine MetFree.of_bodySF (plainFor_of_name pn_22) hisR ?_
  intro p e s m args below meth c s₁ Bd hml0 hP hK
  obtain ⟨rfl, hZ, hh⟩ := hP
  have hx := Bd.exec
  have hby := Bd.bytes
  have hml : c.maxLocals = 1 := hml0
  have hown : s.vm.findClass "java/lang/Record" = some m.cls := findClass_of_methodNamed Bd.named
  have hnm := (name_of_methodNamed Bd.named Bd.method).1
  have X0 : Stand p l e ({ frames := 1, cells := 0, slots := 0, locals := 12 } : Room) s m #[(.ref o0)] below meth c s₁ [] 0 0 := Stand.of_body Bd
  have e0 : s₁.heap = h0 := by rw [← hh, Bd.state]; rfl
  have N0 := Fr.nil n0
  show own_Go p e below s (QrecInit Z o0 h0 n0) ({ frames := 1, cells := 0, slots := 0, locals := 12 } : Room).cells ({ frames := 1, cells := 0, slots := 0, locals := 12 } : Room).slots (s₁.setTop (entryFrame m #[(.ref o0)] 1))
  rw [ef_recInit m o0]
  have K0 : Keep h0 h0 [] := Keep.refl h0 []
  refine own_go (S' := s₁.setTop (mkF m 1 #[.val (.ref o0)] [(.ref o0)])) (fun t k => ?_) ?_
  · show Steps p.tables e below (s₁.setTop (mkF m 0 #[.val (.ref o0)] [])) t
    refine XS.aloadN X0.here hx rfl (hb hby d7_0) rfl rfl ?_
    exact k
  obtain ⟨T36, X36, e36, st36⟩ := initO X0 hx hZ hown (hw _ (List.mem_of_getElem? (i := 48) rfl)) (hw _ (List.mem_of_getElem? (i := 7) rfl)) (hw _ (List.mem_of_getElem? (i := 8) rfl)) e0 (g := (mkF m 1 #[.val (.ref o0)] [(.ref o0)])) rfl (by rw [hml]; rfl) rfl (hb hby d7_1) (by decide) (W := 0) (by show 2 * 0 + _ ≤ _; exact Nat.le_of_eq rfl) (by decide)
  refine own_go st36 ?_
  obtain ⟨fs, hr, hrun, hended, hW, hsame⟩ := X36.leave (v := none) (fun _ => rfl)
  refine own_end (v := none) ?_ hrun hended ?_ hW (hsame.mono (by decide) (by decide))
  · show Steps p.tables e below (T36.setTop (mkF m 4 #[.val (.ref o0)] [])) _
    exact X36.returnOut hx Bd.returns (hb hby d7_4) hr
  · show QrecInit Z o0 h0 n0 _ T36.heap _
    rw [e36]
    exact ⟨rfl, N0, rfl⟩
theorem d6_0 : decode prog_36_method_1_code 0 = .ok (.aload_n 0, 1) := by decide +kernel
theorem d6_1 : decode prog_36_method_1_code 1 = .ok (.invokespecial 1, 3) := by decide +kernel
theorem d6_4 : decode prog_36_method_1_code 4 = .ok (.aload_n 0, 1) := by decide +kernel
theorem d6_5 : decode prog_36_method_1_code 5 = .ok (.iload_n 1, 1) := by decide +kernel
theorem d6_6 : decode prog_36_method_1_code 6 = .ok (.putfield 7, 3) := by decide +kernel
theorem d6_9 : decode prog_36_method_1_code 9 = .ok (.aload_n 0, 1) := by decide +kernel
theorem d6_10 : decode prog_36_method_1_code 10 = .ok (.iload_n 2, 1) := by decide +kernel
theorem d6_11 : decode prog_36_method_1_code 11 = .ok (.putfield 13, 3) := by decide +kernel
theorem d6_14 : decode prog_36_method_1_code 14 = .ok (.return_, 1) := by decide +kernel
theorem pn_32 : plainName "com/example/dropwire/dropwire/dnd/Point" = true := by first | (simp [plainName, overriddenIn]; done) | decide +kernel
theorem ef_ptInit (m : MethodId) (x0 : Addr) (x1 : Int32) (x2 : Int32) : entryFrame m #[(.ref x0), (.int x1), (.int x2)] 3 = mkF m 0 #[.val (.ref x0), .val (.int x1), .val (.int x2)] [] := by first | (simp [entryFrame, mkF, argsToLocals, Value.category]; done) | rfl
def QptInit (Z : State) (o0 : Addr) (p1 : Int32) (p2 : Int32) (w_o0_x : Int32) (w_o0_y : Int32) (h0 : Heap) (n0 : Nat) (v : Option Value) (h : Heap) (L : List Loc) : Prop := v = none ∧ Fr n0 L ∧ Keep h0 h [o0] ∧ Exa Z h o0 "com/example/dropwire/dropwire/dnd/Point" ∧ Fld Z h o0 "com/example/dropwire/dropwire/dnd/Point" "x" "I" (.int p1) ∧ Fld Z h o0 "com/example/dropwire/dropwire/dnd/Point" "y" "I" (.int p2)
set_option maxRecDepth 65536 in
set_option maxHeartbeats 40000000 in
theorem ptInit (l : Launch) (Z : State) (a0 : Array Value) (hw : ∀ d ∈ tables_1, d.before a0 Z = true) (ws : List Jvm.Cond) (o0 : Addr) (p1 : Int32) (p2 : Int32) (w_o0_x : Int32) (w_o0_y : Int32) (h0 : Heap) (n0 : Nat) (Z0 : n0 ≤ h0.size) (E_o0 : Exa Z h0 o0 "com/example/dropwire/dropwire/dnd/Point") (F_o0_x : Fld Z h0 o0 "com/example/dropwire/dropwire/dnd/Point" "x" "I" (.int w_o0_x)) (F_o0_y : Fld Z h0 o0 "com/example/dropwire/dropwire/dnd/Point" "y" "I" (.int w_o0_y)) (g_o0 : n0 ≤ o0) :
    MetFree l (⟨"com/example/dropwire/dropwire/dnd/Point", "<init>", "(II)V"⟩ : MethodName) (head1 (Jvm.Cond.code (⟨"com/example/dropwire/dropwire/dnd/Point", "<init>", "(II)V"⟩ : MethodName) prog_36_method_1_code 3 none :: ws) ({ frames := 2, cells := 0, slots := 0, locals := 24 } : Room)) (fun a U => a = #[(.ref o0), (.int p1), (.int p2)] ∧ Z.Warmed39 U.vm ∧ U.heap = h0) (fun _ _ _ _ _ => True) (fun _ U o U' => ∃ v L, o = .returned v ∧ QptInit Z o0 p1 p2 w_o0_x w_o0_y h0 n0 v U'.heap L ∧ FrameEnd U o U' L ({ frames := 2, cells := 0, slots := 0, locals := 24 } : Room).cells ({ frames := 2, cells := 0, slots := 0, locals := 24 } : Room).slots) := by
  refine MetFree.of_bodySF (plainFor_of_name pn_32) hisR ?_
  intro p e s m args below meth c s₁ Bd hml0 hP hK
  obtain ⟨rfl, hZ, hh⟩ := hP
  have hx := Bd.exec
  have hby := Bd.bytes
  have hml : c.maxLocals = 3 := hml0
  have hown : s.vm.findClass "com/example/dropwire/dropwire/dnd/Point" = some m.cls := findClass_of_methodNamed Bd.named
  have hnm := (name_of_methodNamed Bd.named Bd.method).1
  have X0 : Stand p l e ({ frames := 2, cells := 0, slots := 0, locals := 24 } : Room) s m #[(.ref o0), (.int p1), (.int p2)] below meth c s₁ [] 0 0 := Stand.of_body Bd
  have e0 : s₁.heap = h0 := by rw [← hh, Bd.state]; rfl
  have N0 := Fr.nil n0
  show own_Go p e below s (QptInit Z o0 p1 p2 w_o0_x w_o0_y h0 n0) ({ frames := 2, cells := 0, slots := 0, locals := 24 } : Room).cells ({ frames := 2, cells := 0, slots := 0, locals := 24 } : Room).slots (s₁.setTop (entryFrame m #[(.ref o0), (.int p1), (.int p2)] 3))
  rw [ef_ptInit m o0 p1 p2]
  have K0 : Keep h0 h0 [o0] := Keep.refl h0 [o0]
  refine own_go (S' := s₁.setTop (mkF m 1 #[.val (.ref o0), .val (.int p1), .val (.int p2)] [(.ref o0)])) (fun t k => ?_) ?_
  · show Steps p.tables e below (s₁.setTop (mkF m 0 #[.val (.ref o0), .val (.int p1), .val (.int p2)] [])) t
    refine XS.aloadN X0.here hx rfl (hb hby d6_0) rfl rfl ?_
    exact k
  obtain ⟨_, _, ⟨T37, L37, kk37, nn37⟩, -, X37, ⟨Lc37, hQ37, l37, y37, z37⟩, st37⟩ := X0.specialBack hx (y := (⟨"java/lang/Record", "<init>", "()V"⟩ : MethodName)) rfl hown (mvT hZ (hw _ (List.mem_of_getElem? (i := 43) rfl))) (mvT hZ (hw _ (List.mem_of_getElem? (i := 44) rfl))) (mvT hZ (hw _ (List.mem_of_getElem? (i := 47) rfl))) (by decide) (backOf (W := 0) (recInit l Z a0 hw [] o0 h0 n0 Z0 ) hZ (hw _ (List.mem_of_getElem? (i := 47) rfl)) (hw _ (List.mem_of_getElem? (i := 46) rfl)) (by decide) (by decide)) (g := (mkF m 1 #[.val (.ref o0), .val (.int p1), .val (.int p2)] [(.ref o0)])) rfl (by rw [hml]; rfl) (Steps.refl _) (a := o0) (argsL := []) (rest := []) (lenOf pd_6 rfl) rfl (by show 2 * 0 + _ ≤ _; exact Nat.le_of_eq rfl) (hb hby d6_1) (fun _ _ => ⟨rfl, e0, (by decide : 0 + 0 ≤ _), (by decide : 0 + 0 ≤ _)⟩)
  dsimp only [Pt.U, Pt.locs, Pt.cells, Pt.slots] at X37 l37 y37 z37 st37 hQ37
  subst l37 y37 z37
  obtain ⟨rfl, N38, e37⟩ := hQ37
  have N40 := Fr.app N0 N38
  refine own_goT st37 ?_
  refine own_go (S' := T37.setTop (mkF m 6 #[.val (.ref o0), .val (.int p1), .val (.int p2)] [(.int p1), (.ref o0)])) (fun t k => ?_) ?_
  · show Steps p.tables e below (T37.setTop (mkF m 4 #[.val (.ref o0), .val (.int p1), .val (.int p2)] [])) t
    refine XS.aloadN X37.here hx rfl (hb hby d6_4) rfl rfl ?_
    show Steps p.tables e below (T37.setTop (mkF m 5 #[.val (.ref o0), .val (.int p1), .val (.int p2)] [(.ref o0)])) t
    refine XS.iloadN X37.here hx rfl (hb hby d6_5) rfl ?_
    exact k
  obtain ⟨T41, h41, X41, e41, W41, st41⟩ := putF X37 hx hZ hown (host := "") (Or.inl (hw _ (List.mem_of_getElem? (i := 49) rfl))) Via.refl e37 F_o0_x E_o0 (Or.inr ⟨(hw _ (List.mem_of_getElem? (i := 50) rfl)), rfl, hnm⟩) (hw _ (List.mem_of_getElem? (i := 38) rfl)) (ty := .int) (by decide) rfl rfl (g := (mkF m 6 #[.val (.ref o0), .val (.int p1), .val (.int p2)] [(.int p1), (.ref o0)])) rfl rfl (hb hby d6_6)
  have f42 : Exa Z h41 o0 "com/example/dropwire/dropwire/dnd/Point" := E_o0.wr W41
  have f43 : Fld Z h41 o0 "com/example/dropwire/dropwire/dnd/Point" "y" "I" (.int w_o0_y) := F_o0_y.other W41 (Or.inr (slot_ne (Or.inr (hw _ (List.mem_of_getElem? (i := 52) rfl))) (Or.inr (hw _ (List.mem_of_getElem? (i := 50) rfl))) (by decide) (t := .int) (t' := .int) (by decide) (by decide)))
  have f44 : Fld Z h41 o0 "com/example/dropwire/dropwire/dnd/Point" "x" "I" (.int p1) := F_o0_x.same W41
  have N45 := Fr.snoc X41 N40 g_o0
  have Z46 : n0 ≤ h41.size := Nat.le_trans Z0 (Keep.of_wr W41).1
  have K47 : Keep h0 h41 [o0] := K0.wr W41 (Or.inl (List.mem_of_getElem? (i := 0) rfl))
  refine own_go st41 ?_
  refine own_go (S' := T41.setTop (mkF m 11 #[.val (.ref o0), .val (.int p1), .val (.int p2)] [(.int p2), (.ref o0)])) (fun t k => ?_) ?_
  · show Steps p.tables e below (T41.setTop (mkF m 9 #[.val (.ref o0), .val (.int p1), .val (.int p2)] [])) t
    refine XS.aloadN X41.here hx rfl (hb hby d6_9) rfl rfl ?_
    show Steps p.tables e below (T41.setTop (mkF m 10 #[.val (.ref o0), .val (.int p1), .val (.int p2)] [(.ref o0)])) t
    refine XS.iloadN X41.here hx rfl (hb hby d6_10) rfl ?_
    exact k
  obtain ⟨T48, h48, X48, e48, W48, st48⟩ := putF X41 hx hZ hown (host := "") (Or.inl (hw _ (List.mem_of_getElem? (i := 51) rfl))) Via.refl e41 f43 f42 (Or.inr ⟨(hw _ (List.mem_of_getElem? (i := 52) rfl)), rfl, hnm⟩) (hw _ (List.mem_of_getElem? (i := 38) rfl)) (ty := .int) (by decide) rfl rfl (g := (mkF m 11 #[.val (.ref o0), .val (.int p1), .val (.int p2)] [(.int p2), (.ref o0)])) rfl rfl (hb hby d6_11)
  have f49 : Exa Z h48 o0 "com/example/dropwire/dropwire/dnd/Point" := f42.wr W48
  have f50 : Fld Z h48 o0 "com/example/dropwire/dropwire/dnd/Point" "x" "I" (.int p1) := f44.other W48 (Or.inr (slot_ne (Or.inr (hw _ (List.mem_of_getElem? (i := 50) rfl))) (Or.inr (hw _ (List.mem_of_getElem? (i := 52) rfl))) (by decide) (t := .int) (t' := .int) (by decide) (by decide)))
  have f51 : Fld Z h48 o0 "com/example/dropwire/dropwire/dnd/Point" "y" "I" (.int p2) := f43.same W48
  have N52 := Fr.snoc X48 N45 g_o0
  have Z53 : n0 ≤ h48.size := Nat.le_trans Z46 (Keep.of_wr W48).1
  have K54 : Keep h0 h48 [o0] := K47.wr W48 (Or.inl (List.mem_of_getElem? (i := 0) rfl))
  refine own_go st48 ?_
  obtain ⟨fs, hr, hrun, hended, hW, hsame⟩ := X48.leave (v := none) (fun _ => rfl)
  refine own_end (v := none) ?_ hrun hended ?_ hW (hsame.mono (by decide) (by decide))
  · show Steps p.tables e below (T48.setTop (mkF m 14 #[.val (.ref o0), .val (.int p1), .val (.int p2)] [])) _
    exact X48.returnOut hx Bd.returns (hb hby d6_14) hr
  · show QptInit Z o0 p1 p2 w_o0_x w_o0_y h0 n0 _ T48.heap _
    rw [e48]
    exact ⟨rfl, N52, K54, f49, f50, f51⟩
theorem d1_0 : decode prog_44_method_1_code 0 = .ok (.aload_n 0, 1) := by decide +kernel
theorem d1_1 : decode prog_44_method_1_code 1 = .ok (.invokespecial 1, 3) := by decide +kernel
theorem d1_4 : decode prog_44_method_1_code 4 = .ok (.aload_n 0, 1) := by decide +kernel
theorem d1_5 : decode prog_44_method_1_code 5 = .ok (.new 7, 3) := by decide +kernel
theorem d1_8 : decode prog_44_method_1_code 8 = .ok (.dup, 1) := by decide +kernel
theorem d1_9 : decode prog_44_method_1_code 9 = .ok (.invokespecial 9, 3) := by decide +kernel
theorem d1_12 : decode prog_44_method_1_code 12 = .ok (.putfield 10, 3) := by decide +kernel
theorem d1_15 : decode prog_44_method_1_code 15 = .ok (.aload_n 0, 1) := by decide +kernel
theorem d1_16 : decode prog_44_method_1_code 16 = .ok (.new 7, 3) := by decide +kernel
theorem d1_19 : decode prog_44_method_1_code 19 = .ok (.dup, 1) := by decide +kernel
theorem d1_20 : decode prog_44_method_1_code 20 = .ok (.invokespecial 9, 3) := by decide +kernel
theorem d1_23 : decode prog_44_method_1_code 23 = .ok (.putfield 16, 3) := by decide +kernel
theorem d1_26 : decode prog_44_method_1_code 26 = .ok (.aload_n 0, 1) := by decide +kernel
theorem d1_27 : decode prog_44_method_1_code 27 = .ok (.new 19, 3) := by decide +kernel
theorem d1_30 : decode prog_44_method_1_code 30 = .ok (.dup, 1) := by decide +kernel
theorem d1_31 : decode prog_44_method_1_code 31 = .ok (.iconst 0, 1) := by decide +kernel
theorem d1_32 : decode prog_44_method_1_code 32 = .ok (.iconst 0, 1) := by decide +kernel
theorem d1_33 : decode prog_44_method_1_code 33 = .ok (.invokespecial 21, 3) := by decide +kernel
theorem pd_51 : parseMethodDescriptor "(II)V" = some ⟨[.int, .int], none⟩ := by decide +kernel
theorem d1_36 : decode prog_44_method_1_code 36 = .ok (.putfield 24, 3) := by decide +kernel
theorem d1_39 : decode prog_44_method_1_code 39 = .ok (.return_, 1) := by decide +kernel
theorem pn_54 : plainName "com/example/dropwire/dropwire/inprocess/InProcessPeer" = true := by first | (simp [plainName, overriddenIn]; done) | decide +kernel
theorem ef_ipInit (m : MethodId) (x0 : Addr) : entryFrame m #[(.ref x0)] 1 = mkF m 0 #[.val (.ref x0)] [] := by first | (simp [entryFrame, mkF, argsToLocals, Value.category]; done) | rfl
def QipInit (Z : State) (o0 : Addr) (w_s_DEFAULTCAPACITY_EMPTY_ELEMENTDATA : Addr) (w_o0_components : Value) (w_o0_recognizers : Value) (w_o0_hotspot : Value) (w_o0_drag : Value) (w_o0_recognizing : Value) (w_o0_plain : Value) (w_o0_under : Value) (w_o0_visit : Value) (h0 : Heap) (n0 : Nat) (v : Option Value) (h : Heap) (L : List Loc) : Prop := ∃ x0_ : Addr, ∃ x1_ : Addr, ∃ x2_ : Addr, v = none ∧ Fr n0 L ∧ Keep h0 h [o0] ∧ h0.size ≤ x0_ ∧ h0.size ≤ x1_ ∧ h0.size ≤ x2_ ∧ x0_ ≠ x1_ ∧ x0_ ≠ x2_ ∧ x1_ ≠ x2_ ∧ Exa Z h o0 "com/example/dropwire/dropwire/inprocess/InProcessPeer" ∧ Fld Z h o0 "com/example/dropwire/dropwire/inprocess/InProcessPeer" "drag" "Lcom/example/dropwire/dropwire/dnd/DragSourceContext;" w_o0_drag ∧ Fld Z h o0 "com/example/dropwire/dropwire/inprocess/InProcessPeer" "recognizing" "Lcom/example/dropwire/dropwire/inprocess/InProcessPeer$Recognizer;" w_o0_recognizing ∧ Fld Z h o0 "com/example/dropwire/dropwire/inprocess/InProcessPeer" "plain" "Lcom/example/dropwire/dropwire/dnd/Actions;" w_o0_plain ∧ Fld Z h o0 "com/example/dropwire/dropwire/inprocess/InProcessPeer" "under" "Lcom/example/dropwire/dropwire/inprocess/InProcessPeer$Component;" w_o0_under ∧ Fld Z h o0 "com/example/dropwire/dropwire/inprocess/InProcessPeer" "visit" "Lcom/example/dropwire/dropwire/dnd/DropTargetVisit;" w_o0_visit ∧ Fld Z h o0 "com/example/dropwire/dropwire/inprocess/InProcessPeer" "components" "Ljava/util/List;" (.ref x0_) ∧ Fld Z h o0 "com/example/dropwire/dropwire/inprocess/InProcessPeer" "recognizers" "Ljava/util/List;" (.ref x1_) ∧ Fld Z h o0 "com/example/dropwire/dropwire/inprocess/InProcessPeer" "hotspot" "Lcom/example/dropwire/dropwire/dnd/Point;" (.ref x2_) ∧ Exa Z h x0_ "java/util/ArrayList" ∧ Fld Z h x0_ "java/util/ArrayList" "size" "I" (.int (0 : Int32)) ∧ Fld Z h x0_ "java/util/AbstractList" "modCount" "I" (.int (0 : Int32)) ∧ Fld Z h x0_ "java/util/ArrayList" "elementData" "[Ljava/lang/Object;" (.ref w_s_DEFAULTCAPACITY_EMPTY_ELEMENTDATA) ∧ Exa Z h x1_ "java/util/ArrayList" ∧ Fld Z h x1_ "java/util/ArrayList" "size" "I" (.int (0 : Int32)) ∧ Fld Z h x1_ "java/util/AbstractList" "modCount" "I" (.int (0 : Int32)) ∧ Fld Z h x1_ "java/util/ArrayList" "elementData" "[Ljava/lang/Object;" (.ref w_s_DEFAULTCAPACITY_EMPTY_ELEMENTDATA) ∧ Exa Z h x2_ "com/example/dropwire/dropwire/dnd/Point" ∧ Fld Z h x2_ "com/example/dropwire/dropwire/dnd/Point" "x" "I" (.int (0 : Int32)) ∧ Fld Z h x2_ "com/example/dropwire/dropwire/dnd/Point" "y" "I" (.int (0 : Int32))
set_option maxRecDepth 65536 in
set_option maxHeartbeats 40000000 in
theorem ipInit (l : Launch) (Z : State) (a0 : Array Value) (hw : ∀ d ∈ tables_1, d.before a0 Z = true) (ws : List Jvm.Cond) (o0 : Addr) (w_s_DEFAULTCAPACITY_EMPTY_ELEMENTDATA : Addr) (w_o0_components : Value) (w_o0_recognizers : Value) (w_o0_hotspot : Value) (w_o0_drag : Value) (w_o0_recognizing : Value) (w_o0_plain : Value) (w_o0_under : Value) (w_o0_visit : Value) (h0 : Heap) (n0 : Nat) (Z0 : n0 ≤ h0.size) (S_DEFAULTCAPACITY_EMPTY_ELEMENTDATA : Sta Z h0 "java/util/ArrayList" "DEFAULTCAPACITY_EMPTY_ELEMENTDATA" "[Ljava/lang/Object;" (.ref w_s_DEFAULTCAPACITY_EMPTY_ELEMENTDATA)) (E_o0 : Exa Z h0 o0 "com/example/dropwire/dropwire/inprocess/InProcessPeer") (F_o0_components : Fld Z h0 o0 "com/example/dropwire/dropwire/inprocess/InProcessPeer" "components" "Ljava/util/List;" w_o0_components) (F_o0_recognizers : Fld Z h0 o0 "com/example/dropwire/dropwire/inprocess/InProcessPeer" "recognizers" "Ljava/util/List;" w_o0_recognizers) (F_o0_hotspot : Fld Z h0 o0 "com/example/dropwire/dropwire/inprocess/InProcessPeer" "hotspot" "Lcom/example/dropwire/dropwire/dnd/Point;" w_o0_hotspot) (F_o0_drag : Fld Z h0 o0 "com/example/dropwire/dropwire/inprocess/InProcessPeer" "drag" "Lcom/example/dropwire/dropwire/dnd/DragSourceContext;" w_o0_drag) (F_o0_recognizing : Fld Z h0 o0 "com/example/dropwire/dropwire/inprocess/InProcessPeer" "recognizing" "Lcom/example/dropwire/dropwire/inprocess/InProcessPeer$Recognizer;" w_o0_recognizing) (F_o0_plain : Fld Z h0 o0 "com/example/dropwire/dropwire/inprocess/InProcessPeer" "plain" "Lcom/example/dropwire/dropwire/dnd/Actions;" w_o0_plain) (F_o0_under : Fld Z h0 o0 "com/example/dropwire/dropwire/inprocess/InProcessPeer" "under" "Lcom/example/dropwire/dropwire/inprocess/InProcessPeer$Component;" w_o0_under) (F_o0_visit : Fld Z h0 o0 "com/example/dropwire/dropwire/inprocess/InProcessPeer" "visit" "Lcom/example/dropwire/dropwire/dnd/DropTargetVisit;" w_o0_visit) (g_o0 : n0 ≤ o0) :
    MetFree l (⟨"com/example/dropwire/dropwire/inprocess/InProcessPeer", "<init>", "()V"⟩ : MethodName) (head1 (Jvm.Cond.code (⟨"com/example/dropwire/dropwire/inprocess/InProcessPeer", "<init>", "()V"⟩ : MethodName) prog_44_method_1_code 1 none :: ws) ({ frames := 4, cells := 3, slots := 8, locals := 50 } : Room)) (fun a U => a = #[(.ref o0)] ∧ Z.Warmed39 U.vm ∧ U.heap = h0) (fun _ _ _ _ _ => True) (fun _ U o U' => ∃ v L, o = .returned v ∧ QipInit Z o0 w_s_DEFAULTCAPACITY_EMPTY_ELEMENTDATA w_o0_components w_o0_recognizers w_o0_hotspot w_o0_drag w_o0_recognizing w_o0_plain w_o0_under w_o0_visit h0 n0 v U'.heap L ∧ FrameEnd U o U' L ({ frames := 4, cells := 3, slots := 8, locals := 50 } : Room).cells ({ frames := 4, cells := 3, slots := 8, locals := 50 } : Room).slots) := by
  refine MetFree.of_bodySF (plainFor_of_name pn_54) hisR ?_
  intro p e s m args below meth c s₁ Bd hml0 hP hK
  obtain ⟨rfl, hZ, hh⟩ := hP
  have hx := Bd.exec
  have hby := Bd.bytes
  have hml : c.maxLocals = 1 := hml0
  have hown : s.vm.findClass "com/example/dropwire/dropwire/inprocess/InProcessPeer" = some m.cls := findClass_of_methodNamed Bd.named
  have hnm := (name_of_methodNamed Bd.named Bd.method).1
  have X0 : Stand p l e ({ frames := 4, cells := 3, slots := 8, locals := 50 } : Room) s m #[(.ref o0)] below meth c s₁ [] 0 0 := Stand.of_body Bd
  have e0 : s₁.heap = h0 := by rw [← hh, Bd.state]; rfl
  have N0 := Fr.nil n0
  show own_Go p e below s (QipInit Z o0 w_s_DEFAULTCAPACITY_EMPTY_ELEMENTDATA w_o0_components w_o0_recognizers w_o0_hotspot w_o0_drag w_o0_recognizing w_o0_plain w_o0_under w_o0_visit h0 n0) ({ frames := 4, cells := 3, slots := 8, locals := 50 } : Room).cells ({ frames := 4, cells := 3, slots := 8, locals := 50 } : Room).slots (s₁.setTop (entryFrame m #[(.ref o0)] 1))
  rw [ef_ipInit m o0]
  have K0 : Keep h0 h0 [o0] := Keep.refl h0 [o0]
  refine own_go (S' := s₁.setTop (mkF m 1 #[.val (.ref o0)] [(.ref o0)])) (fun t k => ?_) ?_
  · show Steps p.tables e below (s₁.setTop (mkF m 0 #[.val (.ref o0)] [])) t
    refine XS.aloadN X0.here hx rfl (hb hby d1_0) rfl rfl ?_
    exact k
  obtain ⟨T55, X55, e55, st55⟩ := initO X0 hx hZ hown (hw _ (List.mem_of_getElem? (i := 6) rfl)) (hw _ (List.mem_of_getElem? (i := 7) rfl)) (hw _ (List.mem_of_getElem? (i := 8) rfl)) e0 (g := (mkF m 1 #[.val (.ref o0)] [(.ref o0)])) rfl (by rw [hml]; rfl) rfl (hb hby d1_1) (by decide) (W := 0) (by show 2 * 0 + _ ≤ _; exact Nat.le_of_eq rfl) (by decide)
  refine own_go st55 ?_
  refine own_go (S' := T55.setTop (mkF m 5 #[.val (.ref o0)] [(.ref o0)])) (fun t k => ?_) ?_
  · show Steps p.tables e below (T55.setTop (mkF m 4 #[.val (.ref o0)] [])) t
    refine XS.aloadN X55.here hx rfl (hb hby d1_4) rfl rfl ?_
    exact k
  obtain ⟨T56, h56, X56, e56, E56, A56, D56, -, st56⟩ := newO X55 hx hZ hown (hw _ (List.mem_of_getElem? (i := 9) rfl)) (hw _ (List.mem_of_getElem? (i := 10) rfl)) (hw _ (List.mem_of_getElem? (i := 11) rfl)) e55 (g := (mkF m 5 #[.val (.ref o0)] [(.ref o0)])) rfl (hb hby d1_5) (by decide) (by decide)
  obtain ⟨b56, g56⟩ : ∃ z, z = h0.size := ⟨_, rfl⟩
  rw [← g56] at A56 D56 st56
  have ne57 : o0 ≠ b56 := Nat.ne_of_lt (Nat.lt_of_lt_of_le E_o0.lt (Nat.le_of_eq g56.symm))
  have g_b56 : n0 ≤ b56 := Nat.le_trans Z0 (Nat.le_of_eq g56.symm)
  have sz_b56 : h0.size ≤ b56 := Nat.le_trans K0.1 (Nat.le_of_eq g56.symm)
  have K58 : Keep h0 h56 [o0] := K0.ext E56
  have Z59 : n0 ≤ h56.size := Nat.le_trans Z0 E56.1
  have f60 : Sta Z h56 "java/util/ArrayList" "DEFAULTCAPACITY_EMPTY_ELEMENTDATA" "[Ljava/lang/Object;" (.ref w_s_DEFAULTCAPACITY_EMPTY_ELEMENTDATA) := Sta.ext E56 S_DEFAULTCAPACITY_EMPTY_ELEMENTDATA
  have f61 : Exa Z h56 o0 "com/example/dropwire/dropwire/inprocess/InProcessPeer" := Exa.ext E56 E_o0
  have f62 : Fld Z h56 o0 "com/example/dropwire/dropwire/inprocess/InProcessPeer" "components" "Ljava/util/List;" w_o0_components := Fld.ext E56 F_o0_components
  have f63 : Fld Z h56 o0 "com/example/dropwire/dropwire/inprocess/InProcessPeer" "recognizers" "Ljava/util/List;" w_o0_recognizers := Fld.ext E56 F_o0_recognizers
  have f64 : Fld Z h56 o0 "com/example/dropwire/dropwire/inprocess/InProcessPeer" "hotspot" "Lcom/example/dropwire/dropwire/dnd/Point;" w_o0_hotspot := Fld.ext E56 F_o0_hotspot
  have f65 : Fld Z h56 o0 "com/example/dropwire/dropwire/inprocess/InProcessPeer" "drag" "Lcom/example/dropwire/dropwire/dnd/DragSourceContext;" w_o0_drag := Fld.ext E56 F_o0_drag
  have f66 : Fld Z h56 o0 "com/example/dropwire/dropwire/inprocess/InProcessPeer" "recognizing" "Lcom/example/dropwire/dropwire/inprocess/InProcessPeer$Recognizer;" w_o0_recognizing := Fld.ext E56 F_o0_recognizing
  have f67 : Fld Z h56 o0 "com/example/dropwire/dropwire/inprocess/InProcessPeer" "plain" "Lcom/example/dropwire/dropwire/dnd/Actions;" w_o0_plain := Fld.ext E56 F_o0_plain
  have f68 : Fld Z h56 o0 "com/example/dropwire/dropwire/inprocess/InProcessPeer" "under" "Lcom/example/dropwire/dropwire/inprocess/InProcessPeer$Component;" w_o0_under := Fld.ext E56 F_o0_under
  have f69 : Fld Z h56 o0 "com/example/dropwire/dropwire/inprocess/InProcessPeer" "visit" "Lcom/example/dropwire/dropwire/dnd/DropTargetVisit;" w_o0_visit := Fld.ext E56 F_o0_visit
  have f70 : Fld Z h56 b56 "java/util/AbstractList" "modCount" "I" (.int (0 : Int32)) := D56 (Or.inl (hw _ (List.mem_of_getElem? (i := 29) rfl))) (ty := .int) (by decide)
  have f71 : Fld Z h56 b56 "java/util/ArrayList" "elementData" "[Ljava/lang/Object;" .null := D56 (Or.inl (hw _ (List.mem_of_getElem? (i := 32) rfl))) (ty := (.array (.object "java/lang/Object"))) (by decide)
  have f72 : Fld Z h56 b56 "java/util/ArrayList" "size" "I" (.int (0 : Int32)) := D56 (Or.inl (hw _ (List.mem_of_getElem? (i := 217) rfl))) (ty := .int) (by decide)
  refine own_go st56 ?_
  refine own_go (S' := T56.setTop (mkF m 9 #[.val (.ref o0)] [(.ref b56), (.ref b56), (.ref o0)])) (fun t k => ?_) ?_
  · show Steps p.tables e below (T56.setTop (mkF m 8 #[.val (.ref o0)] [(.ref b56), (.ref o0)])) t
    refine XS.dup X56.here hx rfl (hb hby d1_8) rfl rfl ?_
    exact k
  obtain ⟨_, _, ⟨T73, L73, kk73, nn73⟩, -, X73, ⟨Lc73, hQ73, l73, y73, z73⟩, st73⟩ := X56.specialBack hx (y := (⟨"java/util/ArrayList", "<init>", "()V"⟩ : MethodName)) rfl hown (mvT hZ (hw _ (List.mem_of_getElem? (i := 12) rfl))) (mvT hZ (hw _ (List.mem_of_getElem? (i := 13) rfl))) (mvT hZ (hw _ (List.mem_of_getElem? (i := 14) rfl))) (by decide) (backOf (W := 2) (arInit l Z a0 hw [] b56 (0 : Int32) (.null) (0 : Int32) w_s_DEFAULTCAPACITY_EMPTY_ELEMENTDATA h56 n0 Z59 A56 f70 f71 f72 g_b56 f60) hZ (hw _ (List.mem_of_getElem? (i := 14) rfl)) (hw _ (List.mem_of_getElem? (i := 11) rfl)) (by decide) (by decide)) (g := (mkF m 9 #[.val (.ref o0)] [(.ref b56), (.ref b56), (.ref o0)])) rfl (by rw [hml]; rfl) (Steps.refl _) (a := b56) (argsL := []) (rest := [(.ref b56), (.ref o0)]) (lenOf pd_6 rfl) rfl (by show 2 * 0 + _ ≤ _; exact Nat.le_of_eq rfl) (hb hby d1_9) (fun _ _ => ⟨rfl, e56, (by decide : 1 + 0 ≤ _), (by decide : 3 + 0 ≤ _)⟩)
  dsimp only [Pt.U, Pt.locs, Pt.cells, Pt.slots] at X73 l73 y73 z73 st73 hQ73
  subst l73 y73 z73
  obtain ⟨rfl, N74, K75, p76, p77, p78, p79⟩ := hQ73
  have N80 := Fr.app N0 N74
  have f81 : Sta Z T73.heap "java/util/ArrayList" "DEFAULTCAPACITY_EMPTY_ELEMENTDATA" "[Ljava/lang/Object;" (.ref w_s_DEFAULTCAPACITY_EMPTY_ELEMENTDATA) := own_sta_keep f60 K75 (allS (own_plain A56) all0)
  have f82 : Exa Z T73.heap o0 "com/example/dropwire/dropwire/inprocess/InProcessPeer" := f61.keep K75
  have f83 : Fld Z T73.heap o0 "com/example/dropwire/dropwire/inprocess/InProcessPeer" "components" "Ljava/util/List;" w_o0_components := f62.keep K75 (ninS ne57 nin0)
  have f84 : Fld Z T73.heap o0 "com/example/dropwire/dropwire/inprocess/InProcessPeer" "recognizers" "Ljava/util/List;" w_o0_recognizers := f63.keep K75 (ninS ne57 nin0)
  have f85 : Fld Z T73.heap o0 "com/example/dropwire/dropwire/inprocess/InProcessPeer" "hotspot" "Lcom/example/dropwire/dropwire/dnd/Point;" w_o0_hotspot := f64.keep K75 (ninS ne57 nin0)
  have f86 : Fld Z T73.heap o0 "com/example/dropwire/dropwire/inprocess/InProcessPeer" "drag" "Lcom/example/dropwire/dropwire/dnd/DragSourceContext;" w_o0_drag := f65.keep K75 (ninS ne57 nin0)
  have f87 : Fld Z T73.heap o0 "com/example/dropwire/dropwire/inprocess/InProcessPeer" "recognizing" "Lcom/example/dropwire/dropwire/inprocess/InProcessPeer$Recognizer;" w_o0_recognizing := f66.keep K75 (ninS ne57 nin0)
  have f88 : Fld Z T73.heap o0 "com/example/dropwire/dropwire/inprocess/InProcessPeer" "plain" "Lcom/example/dropwire/dropwire/dnd/Actions;" w_o0_plain := f67.keep K75 (ninS ne57 nin0)
  have f89 : Fld Z T73.heap o0 "com/example/dropwire/dropwire/inprocess/InProcessPeer" "under" "Lcom/example/dropwire/dropwire/inprocess/InProcessPeer$Component;" w_o0_under := f68.keep K75 (ninS ne57 nin0)
  have f90 : Fld Z T73.heap o0 "com/example/dropwire/dropwire/inprocess/InProcessPeer" "visit" "Lcom/example/dropwire/dropwire/dnd/DropTargetVisit;" w_o0_visit := f69.keep K75 (ninS ne57 nin0)
  have f91 : Exa Z T73.heap b56 "java/util/ArrayList" := A56.keep K75
  have Z92 : n0 ≤ T73.heap.size := Nat.le_trans Z59 K75.1
  have K93 : Keep h0 T73.heap [o0] := K58.trans K75 (allS (Or.inr sz_b56) all0)
  refine own_goT st73 ?_
  obtain ⟨T94, h94, X94, e94, W94, st94⟩ := putF X73 hx hZ hown (host := "") (Or.inl (hw _ (List.mem_of_getElem? (i := 33) rfl))) Via.refl rfl f83 f82 (Or.inr ⟨(hw _ (List.mem_of_getElem? (i := 34) rfl)), rfl, hnm⟩) (hw _ (List.mem_of_getElem? (i := 1) rfl)) (ty := (.object "java/util/List")) (by decide) rfl rfl (g := (mkF m 12 #[.val (.ref o0)] [(.ref b56), (.ref o0)])) rfl rfl (hb hby d1_12)
  have f95 : Sta Z h94 "java/util/ArrayList" "DEFAULTCAPACITY_EMPTY_ELEMENTDATA" "[Ljava/lang/Object;" (.ref w_s_DEFAULTCAPACITY_EMPTY_ELEMENTDATA) := f81.wr W94
  have f96 : Exa Z h94 o0 "com/example/dropwire/dropwire/inprocess/InProcessPeer" := f82.wr W94
  have f97 : Fld Z h94 o0 "com/example/dropwire/dropwire/inprocess/InProcessPeer" "recognizers" "Ljava/util/List;" w_o0_recognizers := f84.other W94 (Or.inr (slot_ne (Or.inr (hw _ (List.mem_of_getElem? (i := 36) rfl))) (Or.inr (hw _ (List.mem_of_getElem? (i := 34) rfl))) (by decide) (t := (.object "java/util/List")) (t' := (.object "java/util/List")) (by decide) (by decide)))
  have f98 : Fld Z h94 o0 "com/example/dropwire/dropwire/inprocess/InProcessPeer" "hotspot" "Lcom/example/dropwire/dropwire/dnd/Point;" w_o0_hotspot := f85.other W94 (Or.inr (slot_ne (Or.inl (hw _ (List.mem_of_getElem? (i := 54) rfl))) (Or.inr (hw _ (List.mem_of_getElem? (i := 34) rfl))) (by decide) (t := (.object "com/example/dropwire/dropwire/dnd/Point")) (t' := (.object "java/util/List")) (by decide) (by decide)))
  have f99 : Fld Z h94 o0 "com/example/dropwire/dropwire/inprocess/InProcessPeer" "drag" "Lcom/example/dropwire/dropwire/dnd/DragSourceContext;" w_o0_drag := f86.other W94 (Or.inr (slot_ne (Or.inl (hw _ (List.mem_of_getElem? (i := 61) rfl))) (Or.inr (hw _ (List.mem_of_getElem? (i := 34) rfl))) (by decide) (t := (.object "com/example/dropwire/dropwire/dnd/DragSourceContext")) (t' := (.object "java/util/List")) (by decide) (by decide)))
  have f100 : Fld Z h94 o0 "com/example/dropwire/dropwire/inprocess/InProcessPeer" "recognizing" "Lcom/example/dropwire/dropwire/inprocess/InProcessPeer$Recognizer;" w_o0_recognizing := f87.other W94 (Or.inr (slot_ne (Or.inl (hw _ (List.mem_of_getElem? (i := 172) rfl))) (Or.inr (hw _ (List.mem_of_getElem? (i := 34) rfl))) (by decide) (t := (.object "com/example/dropwire/dropwire/inprocess/InProcessPeer$Recognizer")) (t' := (.object "java/util/List")) (by decide) (by decide)))
  have f101 : Fld Z h94 o0 "com/example/dropwire/dropwire/inprocess/InProcessPeer" "plain" "Lcom/example/dropwire/dropwire/dnd/Actions;" w_o0_plain := f88.other W94 (Or.inr (slot_ne (Or.inl (hw _ (List.mem_of_getElem? (i := 179) rfl))) (Or.inr (hw _ (List.mem_of_getElem? (i := 34) rfl))) (by decide) (t := (.object "com/example/dropwire/dropwire/dnd/Actions")) (t' := (.object "java/util/List")) (by decide) (by decide)))
  have f102 : Fld Z h94 o0 "com/example/dropwire/dropwire/inprocess/InProcessPeer" "under" "Lcom/example/dropwire/dropwire/inprocess/InProcessPeer$Component;" w_o0_under := f89.other W94 (Or.inr (slot_ne (Or.inl (hw _ (List.mem_of_getElem? (i := 232) rfl))) (Or.inr (hw _ (List.mem_of_getElem? (i := 34) rfl))) (by decide) (t := (.object "com/example/dropwire/dropwire/inprocess/InProcessPeer$Component")) (t' := (.object "java/util/List")) (by decide) (by decide)))
  have f103 : Fld Z h94 o0 "com/example/dropwire/dropwire/inprocess/InProcessPeer" "visit" "Lcom/example/dropwire/dropwire/dnd/DropTargetVisit;" w_o0_visit := f90.other W94 (Or.inr (slot_ne (Or.inl (hw _ (List.mem_of_getElem? (i := 234) rfl))) (Or.inr (hw _ (List.mem_of_getElem? (i := 34) rfl))) (by decide) (t := (.object "com/example/dropwire/dropwire/dnd/DropTargetVisit")) (t' := (.object "java/util/List")) (by decide) (by decide)))
  have f104 : Exa Z h94 b56 "java/util/ArrayList" := p76.wr W94
  have f105 : Fld Z h94 b56 "java/util/ArrayList" "size" "I" (.int (0 : Int32)) := p77.other W94 (Or.inl (Ne.symm ne57))
  have f106 : Fld Z h94 b56 "java/util/AbstractList" "modCount" "I" (.int (0 : Int32)) := p78.other W94 (Or.inl (Ne.symm ne57))
  have f107 : Fld Z h94 b56 "java/util/ArrayList" "elementData" "[Ljava/lang/Object;" (.ref w_s_DEFAULTCAPACITY_EMPTY_ELEMENTDATA) := p79.other W94 (Or.inl (Ne.symm ne57))
  have f108 : Fld Z h94 o0 "com/example/dropwire/dropwire/inprocess/InProcessPeer" "components" "Ljava/util/List;" (.ref b56) := f83.same W94
  have N109 := Fr.snoc X94 N80 g_o0
  have Z110 : n0 ≤ h94.size := Nat.le_trans Z92 (Keep.of_wr W94).1
  have K111 : Keep h0 h94 [o0] := K93.wr W94 (Or.inl (List.mem_of_getElem? (i := 0) rfl))
  refine own_go st94 ?_
  refine own_go (S' := T94.setTop (mkF m 16 #[.val (.ref o0)] [(.ref o0)])) (fun t k => ?_) ?_
  · show Steps p.tables e below (T94.setTop (mkF m 15 #[.val (.ref o0)] [])) t
    refine XS.aloadN X94.here hx rfl (hb hby d1_15) rfl rfl ?_
    exact k
  obtain ⟨T112, h112, X112, e112, E112, A112, D112, -, st112⟩ := newO X94 hx hZ hown (hw _ (List.mem_of_getElem? (i := 9) rfl)) (hw _ (List.mem_of_getElem? (i := 10) rfl)) (hw _ (List.mem_of_getElem? (i := 11) rfl)) e94 (g := (mkF m 16 #[.val (.ref o0)] [(.ref o0)])) rfl (hb hby d1_16) (by decide) (by decide)
  obtain ⟨b112, g112⟩ : ∃ z, z = h94.size := ⟨_, rfl⟩
  rw [← g112] at A112 D112 st112
  have ne113 : o0 ≠ b112 := Nat.ne_of_lt (Nat.lt_of_lt_of_le f96.lt (Nat.le_of_eq g112.symm))
  have ne114 : b56 ≠ b112 := Nat.ne_of_lt (Nat.lt_of_lt_of_le f104.lt (Nat.le_of_eq g112.symm))
  have g_b112 : n0 ≤ b112 := Nat.le_trans Z110 (Nat.le_of_eq g112.symm)
  have sz_b112 : h0.size ≤ b112 := Nat.le_trans K111.1 (Nat.le_of_eq g112.symm)
  have K115 : Keep h0 h112 [o0] := K111.ext E112
  have Z116 : n0 ≤ h112.size := Nat.le_trans Z110 E112.1
  have f117 : Sta Z h112 "java/util/ArrayList" "DEFAULTCAPACITY_EMPTY_ELEMENTDATA" "[Ljava/lang/Object;" (.ref w_s_DEFAULTCAPACITY_EMPTY_ELEMENTDATA) := Sta.ext E112 f95
  have f118 : Exa Z h112 o0 "com/example/dropwire/dropwire/inprocess/InProcessPeer" := Exa.ext E112 f96
  have f119 : Fld Z h112 o0 "com/example/dropwire/dropwire/inprocess/InProcessPeer" "recognizers" "Ljava/util/List;" w_o0_recognizers := Fld.ext E112 f97
  have f120 : Fld Z h112 o0 "com/example/dropwire/dropwire/inprocess/InProcessPeer" "hotspot" "Lcom/example/dropwire/dropwire/dnd/Point;" w_o0_hotspot := Fld.ext E112 f98
  have f121 : Fld Z h112 o0 "com/example/dropwire/dropwire/inprocess/InProcessPeer" "drag" "Lcom/example/dropwire/dropwire/dnd/DragSourceContext;" w_o0_drag := Fld.ext E112 f99
  have f122 : Fld Z h112 o0 "com/example/dropwire/dropwire/inprocess/InProcessPeer" "recognizing" "Lcom/example/dropwire/dropwire/inprocess/InProcessPeer$Recognizer;" w_o0_recognizing := Fld.ext E112 f100
  have f123 : Fld Z h112 o0 "com/example/dropwire/dropwire/inprocess/InProcessPeer" "plain" "Lcom/example/dropwire/dropwire/dnd/Actions;" w_o0_plain := Fld.ext E112 f101
  have f124 : Fld Z h112 o0 "com/example/dropwire/dropwire/inprocess/InProcessPeer" "under" "Lcom/example/dropwire/dropwire/inprocess/InProcessPeer$Component;" w_o0_under := Fld.ext E112 f102
  have f125 : Fld Z h112 o0 "com/example/dropwire/dropwire/inprocess/InProcessPeer" "visit" "Lcom/example/dropwire/dropwire/dnd/DropTargetVisit;" w_o0_visit := Fld.ext E112 f103
  have f126 : Exa Z h112 b56 "java/util/ArrayList" := Exa.ext E112 f104
  have f127 : Fld Z h112 b56 "java/util/ArrayList" "size" "I" (.int (0 : Int32)) := Fld.ext E112 f105
  have f128 : Fld Z h112 b56 "java/util/AbstractList" "modCount" "I" (.int (0 : Int32)) := Fld.ext E112 f106
  have f129 : Fld Z h112 b56 "java/util/ArrayList" "elementData" "[Ljava/lang/Object;" (.ref w_s_DEFAULTCAPACITY_EMPTY_ELEMENTDATA) := Fld.ext E112 f107
  have f130 : Fld Z h112 o0 "com/example/dropwire/dropwire/inprocess/InProcessPeer" "components" "Ljava/util/List;" (.ref b56) := Fld.ext E112 f108
  have f131 : Fld Z h112 b112 "java/util/AbstractList" "modCount" "I" (.int (0 : Int32)) := D112 (Or.inl (hw _ (List.mem_of_getElem? (i := 29) rfl))) (ty := .int) (by decide)
  have f132 : Fld Z h112 b112 "java/util/ArrayList" "elementData" "[Ljava/lang/Object;" .null := D112 (Or.inl (hw _ (List.mem_of_getElem? (i := 32) rfl))) (ty := (.array (.object "java/lang/Object"))) (by decide)
  have f133 : Fld Z h112 b112 "java/util/ArrayList" "size" "I" (.int (0 : Int32)) := D112 (Or.inl (hw _ (List.mem_of_getElem? (i := 217) rfl))) (ty := .int) (by decide)
  refine own_go st112 ?_
  refine own_go (S' := T112.setTop (mkF m 20 #[.val (.ref o0)] [(.ref b112), (.ref b112), (.ref o0)])) (fun t k => ?_) ?_
  · show Steps p.tables e below (T112.setTop (mkF m 19 #[.val (.ref o0)] [(.ref b112), (.ref o0)])) t
    refine XS.dup X112.here hx rfl (hb hby d1_19) rfl rfl ?_
    exact k
  obtain ⟨_, _, ⟨T134, L134, kk134, nn134⟩, -, X134, ⟨Lc134, hQ134, l134, y134, z134⟩, st134⟩ := X112.specialBack hx (y := (⟨"java/util/ArrayList", "<init>", "()V"⟩ : MethodName)) rfl hown (mvT hZ (hw _ (List.mem_of_getElem? (i := 12) rfl))) (mvT hZ (hw _ (List.mem_of_getElem? (i := 13) rfl))) (mvT hZ (hw _ (List.mem_of_getElem? (i := 14) rfl))) (by decide) (backOf (W := 2) (arInit l Z a0 hw [] b112 (0 : Int32) (.null) (0 : Int32) w_s_DEFAULTCAPACITY_EMPTY_ELEMENTDATA h112 n0 Z116 A112 f131 f132 f133 g_b112 f117) hZ (hw _ (List.mem_of_getElem? (i := 14) rfl)) (hw _ (List.mem_of_getElem? (i := 11) rfl)) (by decide) (by decide)) (g := (mkF m 20 #[.val (.ref o0)] [(.ref b112), (.ref b112), (.ref o0)])) rfl (by rw [hml]; rfl) (Steps.refl _) (a := b112) (argsL := []) (rest := [(.ref b112), (.ref o0)]) (lenOf pd_6 rfl) rfl (by show 2 * 0 + _ ≤ _; exact Nat.le_of_eq rfl) (hb hby d1_20) (fun _ _ => ⟨rfl, e112, (by decide : 2 + 0 ≤ _), (by decide : 6 + 0 ≤ _)⟩)
  dsimp only [Pt.U, Pt.locs, Pt.cells, Pt.slots] at X134 l134 y134 z134 st134 hQ134
  subst l134 y134 z134
  obtain ⟨rfl, N135, K136, p137, p138, p139, p140⟩ := hQ134
  have N141 := Fr.app N109 N135
  have f142 : Sta Z T134.heap "java/util/ArrayList" "DEFAULTCAPACITY_EMPTY_ELEMENTDATA" "[Ljava/lang/Object;" (.ref w_s_DEFAULTCAPACITY_EMPTY_ELEMENTDATA) := own_sta_keep f117 K136 (allS (own_plain A112) all0)
  have f143 : Exa Z T134.heap o0 "com/example/dropwire/dropwire/inprocess/InProcessPeer" := f118.keep K136
  have f144 : Fld Z T134.heap o0 "com/example/dropwire/dropwire/inprocess/InProcessPeer" "recognizers" "Ljava/util/List;" w_o0_recognizers := f119.keep K136 (ninS ne113 nin0)
  have f145 : Fld Z T134.heap o0 "com/example/dropwire/dropwire/inprocess/InProcessPeer" "hotspot" "Lcom/example/dropwire/dropwire/dnd/Point;" w_o0_hotspot := f120.keep K136 (ninS ne113 nin0)
  have f146 : Fld Z T134.heap o0 "com/example/dropwire/dropwire/inprocess/InProcessPeer" "drag" "Lcom/example/dropwire/dropwire/dnd/DragSourceContext;" w_o0_drag := f121.keep K136 (ninS ne113 nin0)
  have f147 : Fld Z T134.heap o0 "com/example/dropwire/dropwire/inprocess/InProcessPeer" "recognizing" "Lcom/example/dropwire/dropwire/inprocess/InProcessPeer$Recognizer;" w_o0_recognizing := f122.keep K136 (ninS ne113 nin0)
  have f148 : Fld Z T134.heap o0 "com/example/dropwire/dropwire/inprocess/InProcessPeer" "plain" "Lcom/example/dropwire/dropwire/dnd/Actions;" w_o0_plain := f123.keep K136 (ninS ne113 nin0)
  have f149 : Fld Z T134.heap o0 "com/example/dropwire/dropwire/inprocess/InProcessPeer" "under" "Lcom/example/dropwire/dropwire/inprocess/InProcessPeer$Component;" w_o0_under := f124.keep K136 (ninS ne113 nin0)
  have f150 : Fld Z T134.heap o0 "com/example/dropwire/dropwire/inprocess/InProcessPeer" "visit" "Lcom/example/dropwire/dropwire/dnd/DropTargetVisit;" w_o0_visit := f125.keep K136 (ninS ne113 nin0)
  have f151 : Exa Z T134.heap b56 "java/util/ArrayList" := f126.keep K136
  have f152 : Fld Z T134.heap b56 "java/util/ArrayList" "size" "I" (.int (0 : Int32)) := f127.keep K136 (ninS ne114 nin0)
  have f153 : Fld Z T134.heap b56 "java/util/AbstractList" "modCount" "I" (.int (0 : Int32)) := f128.keep K136 (ninS ne114 nin0)
  have f154 : Fld Z T134.heap b56 "java/util/ArrayList" "elementData" "[Ljava/lang/Object;" (.ref w_s_DEFAULTCAPACITY_EMPTY_ELEMENTDATA) := f129.keep K136 (ninS ne114 nin0)
  have f155 : Fld Z T134.heap o0 "com/example/dropwire/dropwire/inprocess/InProcessPeer" "components" "Ljava/util/List;" (.ref b56) := f130.keep K136 (ninS ne113 nin0)
  have f156 : Exa Z T134.heap b112 "java/util/ArrayList" := A112.keep K136
  have Z157 : n0 ≤ T134.heap.size := Nat.le_trans Z116 K136.1
  have K158 : Keep h0 T134.heap [o0] := K115.trans K136 (allS (Or.inr sz_b112) all0)
  refine own_goT st134 ?_
  obtain ⟨T159, h159, X159, e159, W159, st159⟩ := putF X134 hx hZ hown (host := "") (Or.inl (hw _ (List.mem_of_getElem? (i := 35) rfl))) Via.refl rfl f144 f143 (Or.inr ⟨(hw _ (List.mem_of_getElem? (i := 36) rfl)), rfl, hnm⟩) (hw _ (List.mem_of_getElem? (i := 1) rfl)) (ty := (.object "java/util/List")) (by decide) rfl rfl (g := (mkF m 23 #[.val (.ref o0)] [(.ref b112), (.ref o0)])) rfl rfl (hb hby d1_23)
  have f160 : Sta Z h159 "java/util/ArrayList" "DEFAULTCAPACITY_EMPTY_ELEMENTDATA" "[Ljava/lang/Object;" (.ref w_s_DEFAULTCAPACITY_EMPTY_ELEMENTDATA) := f142.wr W159
  have f161 : Exa Z h159 o0 "com/example/dropwire/dropwire/inprocess/InProcessPeer" := f143.wr W159
  have f162 : Fld Z h159 o0 "com/example/dropwire/dropwire/inprocess/InProcessPeer" "hotspot" "Lcom/example/dropwire/dropwire/dnd/Point;" w_o0_hotspot := f145.other W159 (Or.inr (slot_ne (Or.inl (hw _ (List.mem_of_getElem? (i := 54) rfl))) (Or.inr (hw _ (List.mem_of_getElem? (i := 36) rfl))) (by decide) (t := (.object "com/example/dropwire/dropwire/dnd/Point")) (t' := (.object "java/util/List")) (by decide) (by decide)))
  have f163 : Fld Z h159 o0 "com/example/dropwire/dropwire/inprocess/InProcessPeer" "drag" "Lcom/example/dropwire/dropwire/dnd/DragSourceContext;" w_o0_drag := f146.other W159 (Or.inr (slot_ne (Or.inl (hw _ (List.mem_of_getElem? (i := 61) rfl))) (Or.inr (hw _ (List.mem_of_getElem? (i := 36) rfl))) (by decide) (t := (.object "com/example/dropwire/dropwire/dnd/DragSourceContext")) (t' := (.object "java/util/List")) (by decide) (by decide)))
  have f164 : Fld Z h159 o0 "com/example/dropwire/dropwire/inprocess/InProcessPeer" "recognizing" "Lcom/example/dropwire/dropwire/inprocess/InProcessPeer$Recognizer;" w_o0_recognizing := f147.other W159 (Or.inr (slot_ne (Or.inl (hw _ (List.mem_of_getElem? (i := 172) rfl))) (Or.inr (hw _ (List.mem_of_getElem? (i := 36) rfl))) (by decide) (t := (.object "com/example/dropwire/dropwire/inprocess/InProcessPeer$Recognizer")) (t' := (.object "java/util/List")) (by decide) (by decide)))
  have f165 : Fld Z h159 o0 "com/example/dropwire/dropwire/inprocess/InProcessPeer" "plain" "Lcom/example/dropwire/dropwire/dnd/Actions;" w_o0_plain := f148.other W159 (Or.inr (slot_ne (Or.inl (hw _ (List.mem_of_getElem? (i := 179) rfl))) (Or.inr (hw _ (List.mem_of_getElem? (i := 36) rfl))) (by decide) (t := (.object "com/example/dropwire/dropwire/dnd/Actions")) (t' := (.object "java/util/List")) (by decide) (by decide)))
  have f166 : Fld Z h159 o0 "com/example/dropwire/dropwire/inprocess/InProcessPeer" "under" "Lcom/example/dropwire/dropwire/inprocess/InProcessPeer$Component;" w_o0_under := f149.other W159 (Or.inr (slot_ne (Or.inl (hw _ (List.mem_of_getElem? (i := 232) rfl))) (Or.inr (hw _ (List.mem_of_getElem? (i := 36) rfl))) (by decide) (t := (.object "com/example/dropwire/dropwire/inprocess/InProcessPeer$Component")) (t' := (.object "java/util/List")) (by decide) (by decide)))
  have f167 : Fld Z h159 o0 "com/example/dropwire/dropwire/inprocess/InProcessPeer" "visit" "Lcom/example/dropwire/dropwire/dnd/DropTargetVisit;" w_o0_visit := f150.other W159 (Or.inr (slot_ne (Or.inl (hw _ (List.mem_of_getElem? (i := 234) rfl))) (Or.inr (hw _ (List.mem_of_getElem? (i := 36) rfl))) (by decide) (t := (.object "com/example/dropwire/dropwire/dnd/DropTargetVisit")) (t' := (.object "java/util/List")) (by decide) (by decide)))
  have f168 : Exa Z h159 b56 "java/util/ArrayList" := f151.wr W159
  have f169 : Fld Z h159 b56 "java/util/ArrayList" "size" "I" (.int (0 : Int32)) := f152.other W159 (Or.inl (Ne.symm ne57))
  have f170 : Fld Z h159 b56 "java/util/AbstractList" "modCount" "I" (.int (0 : Int32)) := f153.other W159 (Or.inl (Ne.symm ne57))
  have f171 : Fld Z h159 b56 "java/util/ArrayList" "elementData" "[Ljava/lang/Object;" (.ref w_s_DEFAULTCAPACITY_EMPTY_ELEMENTDATA) := f154.other W159 (Or.inl (Ne.symm ne57))
  have f172 : Fld Z h159 o0 "com/example/dropwire/dropwire/inprocess/InProcessPeer" "components" "Ljava/util/List;" (.ref b56) := f155.other W159 (Or.inr (slot_ne (Or.inr (hw _ (List.mem_of_getElem? (i := 34) rfl))) (Or.inr (hw _ (List.mem_of_getElem? (i := 36) rfl))) (by decide) (t := (.object "java/util/List")) (t' := (.object "java/util/List")) (by decide) (by decide)))
  have f173 : Exa Z h159 b112 "java/util/ArrayList" := p137.wr W159
  have f174 : Fld Z h159 b112 "java/util/ArrayList" "size" "I" (.int (0 : Int32)) := p138.other W159 (Or.inl (Ne.symm ne113))
  have f175 : Fld Z h159 b112 "java/util/AbstractList" "modCount" "I" (.int (0 : Int32)) := p139.other W159 (Or.inl (Ne.symm ne113))
  have f176 : Fld Z h159 b112 "java/util/ArrayList" "elementData" "[Ljava/lang/Object;" (.ref w_s_DEFAULTCAPACITY_EMPTY_ELEMENTDATA) := p140.other W159 (Or.inl (Ne.symm ne113))
  have f177 : Fld Z h159 o0 "com/example/dropwire/dropwire/inprocess/InProcessPeer" "recognizers" "Ljava/util/List;" (.ref b112) := f144.same W159
  have N178 := Fr.snoc X159 N141 g_o0
  have Z179 : n0 ≤ h159.size := Nat.le_trans Z157 (Keep.of_wr W159).1
  have K180 : Keep h0 h159 [o0] := K158.wr W159 (Or.inl (List.mem_of_getElem? (i := 0) rfl))
  refine own_go st159 ?_
  refine own_go (S' := T159.setTop (mkF m 27 #[.val (.ref o0)] [(.ref o0)])) (fun t k => ?_) ?_
  · show Steps p.tables e below (T159.setTop (mkF m 26 #[.val (.ref o0)] [])) t
    refine XS.aloadN X159.here hx rfl (hb hby d1_26) rfl rfl ?_
    exact k
  obtain ⟨T181, h181, X181, e181, E181, A181, D181, -, st181⟩ := newO X159 hx hZ hown (hw _ (List.mem_of_getElem? (i := 37) rfl)) (hw _ (List.mem_of_getElem? (i := 38) rfl)) (hw _ (List.mem_of_getElem? (i := 39) rfl)) e159 (g := (mkF m 27 #[.val (.ref o0)] [(.ref o0)])) rfl (hb hby d1_27) (by decide) (by decide)
  obtain ⟨b181, g181⟩ : ∃ z, z = h159.size := ⟨_, rfl⟩
  rw [← g181] at A181 D181 st181
  have ne182 : o0 ≠ b181 := Nat.ne_of_lt (Nat.lt_of_lt_of_le f161.lt (Nat.le_of_eq g181.symm))
  have ne183 : b56 ≠ b181 := Nat.ne_of_lt (Nat.lt_of_lt_of_le f168.lt (Nat.le_of_eq g181.symm))
  have ne184 : b112 ≠ b181 := Nat.ne_of_lt (Nat.lt_of_lt_of_le f173.lt (Nat.le_of_eq g181.symm))
  have g_b181 : n0 ≤ b181 := Nat.le_trans Z179 (Nat.le_of_eq g181.symm)
  have sz_b181 : h0.size ≤ b181 := Nat.le_trans K180.1 (Nat.le_of_eq g181.symm)
  have K185 : Keep h0 h181 [o0] := K180.ext E181
  have Z186 : n0 ≤ h181.size := Nat.le_trans Z179 E181.1
  have f187 : Sta Z h181 "java/util/ArrayList" "DEFAULTCAPACITY_EMPTY_ELEMENTDATA" "[Ljava/lang/Object;" (.ref w_s_DEFAULTCAPACITY_EMPTY_ELEMENTDATA) := Sta.ext E181 f160
  have f188 : Exa Z h181 o0 "com/example/dropwire/dropwire/inprocess/InProcessPeer" := Exa.ext E181 f161
  have f189 : Fld Z h181 o0 "com/example/dropwire/dropwire/inprocess/InProcessPeer" "hotspot" "Lcom/example/dropwire/dropwire/dnd/Point;" w_o0_hotspot := Fld.ext E181 f162
  have f190 : Fld Z h181 o0 "com/example/dropwire/dropwire/inprocess/InProcessPeer" "drag" "Lcom/example/dropwire/dropwire/dnd/DragSourceContext;" w_o0_drag := Fld.ext E181 f163
  have f191 : Fld Z h181 o0 "com/example/dropwire/dropwire/inprocess/InProcessPeer" "recognizing" "Lcom/example/dropwire/dropwire/inprocess/InProcessPeer$Recognizer;" w_o0_recognizing := Fld.ext E181 f164
  have f192 : Fld Z h181 o0 "com/example/dropwire/dropwire/inprocess/InProcessPeer" "plain" "Lcom/example/dropwire/dropwire/dnd/Actions;" w_o0_plain := Fld.ext E181 f165
  have f193 : Fld Z h181 o0 "com/example/dropwire/dropwire/inprocess/InProcessPeer" "under" "Lcom/example/dropwire/dropwire/inprocess/InProcessPeer$Component;" w_o0_under := Fld.ext E181 f166
  have f194 : Fld Z h181 o0 "com/example/dropwire/dropwire/inprocess/InProcessPeer" "visit" "Lcom/example/dropwire/dropwire/dnd/DropTargetVisit;" w_o0_visit := Fld.ext E181 f167
  have f195 : Exa Z h181 b56 "java/util/ArrayList" := Exa.ext E181 f168
  have f196 : Fld Z h181 b56 "java/util/ArrayList" "size" "I" (.int (0 : Int32)) := Fld.ext E181 f169
  have f197 : Fld Z h181 b56 "java/util/AbstractList" "modCount" "I" (.int (0 : Int32)) := Fld.ext E181 f170
  have f198 : Fld Z h181 b56 "java/util/ArrayList" "elementData" "[Ljava/lang/Object;" (.ref w_s_DEFAULTCAPACITY_EMPTY_ELEMENTDATA) := Fld.ext E181 f171
  have f199 : Fld Z h181 o0 "com/example/dropwire/dropwire/inprocess/InProcessPeer" "components" "Ljava/util/List;" (.ref b56) := Fld.ext E181 f172
  have f200 : Exa Z h181 b112 "java/util/ArrayList" := Exa.ext E181 f173
  have f201 : Fld Z h181 b112 "java/util/ArrayList" "size" "I" (.int (0 : Int32)) := Fld.ext E181 f174
  have f202 : Fld Z h181 b112 "java/util/AbstractList" "modCount" "I" (.int (0 : Int32)) := Fld.ext E181 f175
  have f203 : Fld Z h181 b112 "java/util/ArrayList" "elementData" "[Ljava/lang/Object;" (.ref w_s_DEFAULTCAPACITY_EMPTY_ELEMENTDATA) := Fld.ext E181 f176
  have f204 : Fld Z h181 o0 "com/example/dropwire/dropwire/inprocess/InProcessPeer" "recognizers" "Ljava/util/List;" (.ref b112) := Fld.ext E181 f177
  have f205 : Fld Z h181 b181 "com/example/dropwire/dropwire/dnd/Point" "x" "I" (.int (0 : Int32)) := D181 (Or.inr (hw _ (List.mem_of_getElem? (i := 50) rfl))) (ty := .int) (by decide)
  have f206 : Fld Z h181 b181 "com/example/dropwire/dropwire/dnd/Point" "y" "I" (.int (0 : Int32)) := D181 (Or.inr (hw _ (List.mem_of_getElem? (i := 52) rfl))) (ty := .int) (by decide)
  refine own_go st181 ?_
  refine own_go (S' := T181.setTop (mkF m 33 #[.val (.ref o0)] [(.int (0 : Int32)), (.int (0 : Int32)), (.ref b181), (.ref b181), (.ref o0)])) (fun t k => ?_) ?_
  · show Steps p.tables e below (T181.setTop (mkF m 30 #[.val (.ref o0)] [(.ref b181), (.ref o0)])) t
    refine XS.dup X181.here hx rfl (hb hby d1_30) rfl rfl ?_
    show Steps p.tables e below (T181.setTop (mkF m 31 #[.val (.ref o0)] [(.ref b181), (.ref b181), (.ref o0)])) t
    refine XS.iconst X181.here hx rfl (hb hby d1_31) ?_
    show Steps p.tables e below (T181.setTop (mkF m 32 #[.val (.ref o0)] [(.int (0 : Int32)), (.ref b181), (.ref b181), (.ref o0)])) t
    refine XS.iconst X181.here hx rfl (hb hby d1_32) ?_
    exact k
  obtain ⟨_, _, ⟨T207, L207, kk207, nn207⟩, -, X207, ⟨Lc207, hQ207, l207, y207, z207⟩, st207⟩ := X181.specialBack hx (y := (⟨"com/example/dropwire/dropwire/dnd/Point", "<init>", "(II)V"⟩ : MethodName)) rfl hown (mvT hZ (hw _ (List.mem_of_getElem? (i := 40) rfl))) (mvT hZ (hw _ (List.mem_of_getElem? (i := 41) rfl))) (mvT hZ (hw _ (List.mem_of_getElem? (i := 42) rfl))) (by decide) (backOf (W := 2) (ptInit l Z a0 hw [] b181 (0 : Int32) (0 : Int32) (0 : Int32) (0 : Int32) h181 n0 Z186 A181 f205 f206 g_b181) hZ (hw _ (List.mem_of_getElem? (i := 42) rfl)) (hw _ (List.mem_of_getElem? (i := 39) rfl)) (by decide) (by decide)) (g := (mkF m 33 #[.val (.ref o0)] [(.int (0 : Int32)), (.int (0 : Int32)), (.ref b181), (.ref b181), (.ref o0)])) rfl (by rw [hml]; rfl) (Steps.refl _) (a := b181) (argsL := [(.int (0 : Int32)), (.int (0 : Int32))]) (rest := [(.ref b181), (.ref o0)]) (lenOf pd_51 rfl) rfl (by show 2 * 0 + _ ≤ _; exact Nat.le_of_eq rfl) (hb hby d1_33) (fun _ _ => ⟨rfl, e181, (by decide : 3 + 0 ≤ _), (by decide : 8 + 0 ≤ _)⟩)
  dsimp only [Pt.U, Pt.locs, Pt.cells, Pt.slots] at X207 l207 y207 z207 st207 hQ207
  subst l207 y207 z207
  obtain ⟨rfl, N208, K209, p210, p211, p212⟩ := hQ207
  have N213 := Fr.app N178 N208
  have f214 : Sta Z T207.heap "java/util/ArrayList" "DEFAULTCAPACITY_EMPTY_ELEMENTDATA" "[Ljava/lang/Object;" (.ref w_s_DEFAULTCAPACITY_EMPTY_ELEMENTDATA) := own_sta_keep f187 K209 (allS (own_plain A181) all0)
  have f215 : Exa Z T207.heap o0 "com/example/dropwire/dropwire/inprocess/InProcessPeer" := f188.keep K209
  have f216 : Fld Z T207.heap o0 "com/example/dropwire/dropwire/inprocess/InProcessPeer" "hotspot" "Lcom/example/dropwire/dropwire/dnd/Point;" w_o0_hotspot := f189.keep K209 (ninS ne182 nin0)
  have f217 : Fld Z T207.heap o0 "com/example/dropwire/dropwire/inprocess/InProcessPeer" "drag" "Lcom/example/dropwire/dropwire/dnd/DragSourceContext;" w_o0_drag := f190.keep K209 (ninS ne182 nin0)
  have f218 : Fld Z T207.heap o0 "com/example/dropwire/dropwire/inprocess/InProcessPeer" "recognizing" "Lcom/example/dropwire/dropwire/inprocess/InProcessPeer$Recognizer;" w_o0_recognizing := f191.keep K209 (ninS ne182 nin0)
  have f219 : Fld Z T207.heap o0 "com/example/dropwire/dropwire/inprocess/InProcessPeer" "plain" "Lcom/example/dropwire/dropwire/dnd/Actions;" w_o0_plain := f192.keep K209 (ninS ne182 nin0)
  have f220 : Fld Z T207.heap o0 "com/example/dropwire/dropwire/inprocess/InProcessPeer" "under" "Lcom/example/dropwire/dropwire/inprocess/InProcessPeer$Component;" w_o0_under := f193.keep K209 (ninS ne182 nin0)
  have f221 : Fld Z T207.heap o0 "com/example/dropwire/dropwire/inprocess/InProcessPeer" "visit" "Lcom/example/dropwire/dropwire/dnd/DropTargetVisit;" w_o0_visit := f194.keep K209 (ninS ne182 nin0)
  have f222 : Exa Z T207.heap b56 "java/util/ArrayList" := f195.keep K209
  have f223 : Fld Z T207.heap b56 "java/util/ArrayList" "size" "I" (.int (0 : Int32)) := f196.keep K209 (ninS ne183 nin0)
  have f224 : Fld Z T207.heap b56 "java/util/AbstractList" "modCount" "I" (.int (0 : Int32)) := f197.keep K209 (ninS ne183 nin0)
  have f225 : Fld Z T207.heap b56 "java/util/ArrayList" "elementData" "[Ljava/lang/Object;" (.ref w_s_DEFAULTCAPACITY_EMPTY_ELEMENTDATA) := f198.keep K209 (ninS ne183 nin0)
  have f226 : Fld Z T207.heap o0 "com/example/dropwire/dropwire/inprocess/InProcessPeer" "components" "Ljava/util/List;" (.ref b56) := f199.keep K209 (ninS ne182 nin0)
  have f227 : Exa Z T207.heap b112 "java/util/ArrayList" := f200.keep K209
  have f228 : Fld Z T207.heap b112 "java/util/ArrayList" "size" "I" (.int (0 : Int32)) := f201.keep K209 (ninS ne184 nin0)
  have f229 : Fld Z T207.heap b112 "java/util/AbstractList" "modCount" "I" (.int (0 : Int32)) := f202.keep K209 (ninS ne184 nin0)
  have f230 : Fld Z T207.heap b112 "java/util/ArrayList" "elementData" "[Ljava/lang/Object;" (.ref w_s_DEFAULTCAPACITY_EMPTY_ELEMENTDATA) := f203.keep K209 (ninS ne184 nin0)
  have f231 : Fld Z T207.heap o0 "com/example/dropwire/dropwire/inprocess/InProcessPeer" "recognizers" "Ljava/util/List;" (.ref b112) := f204.keep K209 (ninS ne182 nin0)
  have f232 : Exa Z T207.heap b181 "com/example/dropwire/dropwire/dnd/Point" := A181.keep K209
  have Z233 : n0 ≤ T207.heap.size := Nat.le_trans Z186 K209.1
  have K234 : Keep h0 T207.heap [o0] := K185.trans K209 (allS (Or.inr sz_b181) all0)
  refine own_goT st207 ?_
  obtain ⟨T235, h235, X235, e235, W235, st235⟩ := putF X207 hx hZ hown (host := "") (Or.inl (hw _ (List.mem_of_getElem? (i := 53) rfl))) Via.refl rfl f216 f215 (Or.inl (hw _ (List.mem_of_getElem? (i := 54) rfl))) (hw _ (List.mem_of_getElem? (i := 1) rfl)) (ty := (.object "com/example/dropwire/dropwire/dnd/Point")) (by decide) rfl rfl (g := (mkF m 36 #[.val (.ref o0)] [(.ref b181), (.ref o0)])) rfl rfl (hb hby d1_36)
  have f236 : Sta Z h235 "java/util/ArrayList" "DEFAULTCAPACITY_EMPTY_ELEMENTDATA" "[Ljava/lang/Object;" (.ref w_s_DEFAULTCAPACITY_EMPTY_ELEMENTDATA) := f214.wr W235
  have f237 : Exa Z h235 o0 "com/example/dropwire/dropwire/inprocess/InProcessPeer" := f215.wr W235
  have f238 : Fld Z h235 o0 "com/example/dropwire/dropwire/inprocess/InProcessPeer" "drag" "Lcom/example/dropwire/dropwire/dnd/DragSourceContext;" w_o0_drag := f217.other W235 (Or.inr (slot_ne (Or.inl (hw _ (List.mem_of_getElem? (i := 61) rfl))) (Or.inl (hw _ (List.mem_of_getElem? (i := 54) rfl))) (by decide) (t := (.object "com/example/dropwire/dropwire/dnd/DragSourceContext")) (t' := (.object "com/example/dropwire/dropwire/dnd/Point")) (by decide) (by decide)))
  have f239 : Fld Z h235 o0 "com/example/dropwire/dropwire/inprocess/InProcessPeer" "recognizing" "Lcom/example/dropwire/dropwire/inprocess/InProcessPeer$Recognizer;" w_o0_recognizing := f218.other W235 (Or.inr (slot_ne (Or.inl (hw _ (List.mem_of_getElem? (i := 172) rfl))) (Or.inl (hw _ (List.mem_of_getElem? (i := 54) rfl))) (by decide) (t := (.object "com/example/dropwire/dropwire/inprocess/InProcessPeer$Recognizer")) (t' := (.object "com/example/dropwire/dropwire/dnd/Point")) (by decide) (by decide)))
  have f240 : Fld Z h235 o0 "com/example/dropwire/dropwire/inprocess/InProcessPeer" "plain" "Lcom/example/dropwire/dropwire/dnd/Actions;" w_o0_plain := f219.other W235 (Or.inr (slot_ne (Or.inl (hw _ (List.mem_of_getElem? (i := 179) rfl))) (Or.inl (hw _ (List.mem_of_getElem? (i := 54) rfl))) (by decide) (t := (.object "com/example/dropwire/dropwire/dnd/Actions")) (t' := (.object "com/example/dropwire/dropwire/dnd/Point")) (by decide) (by decide)))
  have f241 : Fld Z h235 o0 "com/example/dropwire/dropwire/inprocess/InProcessPeer" "under" "Lcom/example/dropwire/dropwire/inprocess/InProcessPeer$Component;" w_o0_under := f220.other W235 (Or.inr (slot_ne (Or.inl (hw _ (List.mem_of_getElem? (i := 232) rfl))) (Or.inl (hw _ (List.mem_of_getElem? (i := 54) rfl))) (by decide) (t := (.object "com/example/dropwire/dropwire/inprocess/InProcessPeer$Component")) (t' := (.object "com/example/dropwire/dropwire/dnd/Point")) (by decide) (by decide)))
  have f242 : Fld Z h235 o0 "com/example/dropwire/dropwire/inprocess/InProcessPeer" "visit" "Lcom/example/dropwire/dropwire/dnd/DropTargetVisit;" w_o0_visit := f221.other W235 (Or.inr (slot_ne (Or.inl (hw _ (List.mem_of_getElem? (i := 234) rfl))) (Or.inl (hw _ (List.mem_of_getElem? (i := 54) rfl))) (by decide) (t := (.object "com/example/dropwire/dropwire/dnd/DropTargetVisit")) (t' := (.object "com/example/dropwire/dropwire/dnd/Point")) (by decide) (by decide)))
  have f243 : Exa Z h235 b56 "java/util/ArrayList" := f222.wr W235
  have f244 : Fld Z h235 b56 "java/util/ArrayList" "size" "I" (.int (0 : Int32)) := f223.other W235 (Or.inl (Ne.symm ne57))
  have f245 : Fld Z h235 b56 "java/util/AbstractList" "modCount" "I" (.int (0 : Int32)) := f224.other W235 (Or.inl (Ne.symm ne57))
  have f246 : Fld Z h235 b56 "java/util/ArrayList" "elementData" "[Ljava/lang/Object;" (.ref w_s_DEFAULTCAPACITY_EMPTY_ELEMENTDATA) := f225.other W235 (Or.inl (Ne.symm ne57))
  have f247 : Fld Z h235 o0 "com/example/dropwire/dropwire/inprocess/InProcessPeer" "components" "Ljava/util/List;" (.ref b56) := f226.other W235 (Or.inr (slot_ne (Or.inr (hw _ (List.mem_of_getElem? (i := 34) rfl))) (Or.inl (hw _ (List.mem_of_getElem? (i := 54) rfl))) (by decide) (t := (.object "java/util/List")) (t' := (.object "com/example/dropwire/dropwire/dnd/Point")) (by decide) (by decide)))
  have f248 : Exa Z h235 b112 "java/util/ArrayList" := f227.wr W235
  have f249 : Fld Z h235 b112 "java/util/ArrayList" "size" "I" (.int (0 : Int32)) := f228.other W235 (Or.inl (Ne.symm ne113))
  have f250 : Fld Z h235 b112 "java/util/AbstractList" "modCount" "I" (.int (0 : Int32)) := f229.other W235 (Or.inl (Ne.symm ne113))
  have f251 : Fld Z h235 b112 "java/util/ArrayList" "elementData" "[Ljava/lang/Object;" (.ref w_s_DEFAULTCAPACITY_EMPTY_ELEMENTDATA) := f230.other W235 (Or.inl (Ne.symm ne113))
  have f252 : Fld Z h235 o0 "com/example/dropwire/dropwire/inprocess/InProcessPeer" "recognizers" "Ljava/util/List;" (.ref b112) := f231.other W235 (Or.inr (slot_ne (Or.inr (hw _ (List.mem_of_getElem? (i := 36) rfl))) (Or.inl (hw _ (List.mem_of_getElem? (i := 54) rfl))) (by decide) (t := (.object "java/util/List")) (t' := (.object "com/example/dropwire/dropwire/dnd/Point")) (by decide) (by decide)))
  have f253 : Exa Z h235 b181 "com/example/dropwire/dropwire/dnd/Point" := p210.wr W235
  have f254 : Fld Z h235 b181 "com/example/dropwire/dropwire/dnd/Point" "x" "I" (.int (0 : Int32)) := p211.other W235 (Or.inl (Ne.symm ne182))
  have f255 : Fld Z h235 b181 "com/example/dropwire/dropwire/dnd/Point" "y" "I" (.int (0 : Int32)) := p212.other W235 (Or.inl (Ne.symm ne182))
  have f256 : Fld Z h235 o0 "com/example/dropwire/dropwire/inprocess/InProcessPeer" "hotspot" "Lcom/example/dropwire/dropwire/dnd/Point;" (.ref b181) := f216.same W235
  have N257 := Fr.snoc X235 N213 g_o0
  have Z258 : n0 ≤ h235.size := Nat.le_trans Z233 (Keep.of_wr W235).1
  have K259 : Keep h0 h235 [o0] := K234.wr W235 (Or.inl (List.mem_of_getElem? (i := 0) rfl))
  refine own_go st235 ?_
  obtain ⟨fs, hr, hrun, hended, hW, hsame⟩ := X235.leave (v := none) (fun _ => rfl)
  refine own_end (v := none) ?_ hrun hended ?_ hW (hsame.mono (by decide) (by decide))
  · show Steps p.tables e below (T235.setTop (mkF m 39 #[.val (.ref o0)] [])) _
    exact X235.returnOut hx Bd.returns (hb hby d1_39) hr
  · show QipInit Z o0 w_s_DEFAULTCAPACITY_EMPTY_ELEMENTDATA w_o0_components w_o0_recognizers w_o0_hotspot w_o0_drag w_o0_recognizing w_o0_plain w_o0_under w_o0_visit h0 n0 _ T235.heap _
    rw [e235]
    exact ⟨b56, b112, b181, rfl, N257, K259, sz_b56, sz_b112, sz_b181, ne114, ne183, ne184, f237, f238, f239, f240, f241, f242, f247, f252, f256, f243, f244, f245, f246, f248, f249, f250, f251, f253, f254, f255⟩
theorem d8_0 : decode prog_44_method_7_code 0 = .ok (.aload_n 0, 1) := by decide +kernel
theorem d8_1 : decode prog_44_method_7_code 1 = .ok (.getfield 53, 3) := by decide +kernel
theorem d8_4 : decode prog_44_method_7_code 4 = .ok (.ifnull 7, 3) := by decide +kernel
theorem d8_11 : decode prog_44_method_7_code 11 = .ok (.iconst 0, 1) := by decide +kernel
theorem d8_12 : decode prog_44_method_7_code 12 = .ok (.ireturn, 1) := by decide +kernel
theorem ef_isDrag0 (m : MethodId) (x0 : Addr) : entryFrame m #[(.ref x0)] 1 = mkF m 0 #[.val (.ref x0)] [] := by first | (simp [entryFrame, mkF, argsToLocals, Value.category]; done) | rfl
def QisDrag0 (Z : State) (o0 : Addr) (h0 : Heap) (n0 : Nat) (v : Option Value) (h : Heap) (L : List Loc) : Prop := v = some (.int (0 : Int32)) ∧ Fr n0 L ∧ h = h0
set_option maxRecDepth 65536 in
set_option maxHeartbeats 40000000 in
theorem isDrag0 (l : Launch) (Z : State) (a0 : Array Value) (hw : ∀ d ∈ tables_1, d.before a0 Z = true) (ws : List Jvm.Cond) (o0 : Addr) (h0 : Heap) (n0 : Nat) (Z0 : n0 ≤ h0.size) (F_o0_drag : Fld Z h0 o0 "com/example/dropwire/dropwire/inprocess/InProcessPeer" "drag" "Lcom/example/dropwire/dropwire/dnd/DragSourceContext;" .null) :
    MetFree l (⟨"com/example/dropwire/dropwire/inprocess/InProcessPeer", "isDragging", "()Z"⟩ : MethodName) (head1 (Jvm.Cond.code (⟨"com/example/dropwire/dropwire/inprocess/InProcessPeer", "isDragging", "()Z"⟩ : MethodName) prog_44_method_7_code 1 (some .boolean) :: ws) ({ frames := 0, cells := 0, slots := 0, locals := 0 } : Room)) (fun a U => a = #[(.ref o0)] ∧ Z.Warmed39 U.vm ∧ U.heap = h0) (fun _ _ _ _ _ => True) (fun _ U o U' => ∃ v L, o = .returned v ∧ QisDrag0 Z o0 h0 n0 v U'.heap L ∧ FrameEnd U o U' L ({ frames := 0, cells := 0, slots := 0, locals := 0 } : Room).cells ({ frames := 0, cells := 0, slots := 0, locals := 0 } : Room).slots) := by
  refine MetFree.of_bodySF (plainFor_of_name pn_54) hisR ?_
  intro p e s m args below meth c s₁ Bd hml0 hP hK
  obtain ⟨rfl, hZ, hh⟩ := hP
  have hx := Bd.exec
  have hby := Bd.bytes
  have hml : c.maxLocals = 1 := hml0
  have hown : s.vm.findClass "com/example/dropwire/dropwire/inprocess/InProcessPeer" = some m.cls := findClass_of_methodNamed Bd.named
  have hnm := (name_of_methodNamed Bd.named Bd.method).1
  have X0 : Stand p l e ({ frames := 0, cells := 0, slots := 0, locals := 0 } : Room) s m #[(.ref o0)] below meth c s₁ [] 0 0 := Stand.of_body Bd
  have e0 : s₁.heap = h0 := by rw [← hh, Bd.state]; rfl
  have N0 := Fr.nil n0
  show own_Go p e below s (QisDrag0 Z o0 h0 n0) ({ frames := 0, cells := 0, slots := 0, locals := 0 } : Room).cells ({ frames := 0, cells := 0, slots := 0, locals := 0 } : Room).slots (s₁.setTop (entryFrame m #[(.ref o0)] 1))
  rw [ef_isDrag0 m o0]
  have K0 : Keep h0 h0 [] := Keep.refl h0 []
  refine own_go (S' := s₁.setTop (mkF m 1 #[.val (.ref o0)] [(.ref o0)])) (fun t k => ?_) ?_
  · show Steps p.tables e below (s₁.setTop (mkF m 0 #[.val (.ref o0)] [])) t
    refine XS.aloadN X0.here hx rfl (hb hby d8_0) rfl rfl ?_
    exact k
  obtain ⟨T260, X260, e260, st260⟩ := getF X0 hx hZ hown (host := "") (Or.inl (hw _ (List.mem_of_getElem? (i := 60) rfl))) Via.refl e0 F_o0_drag (g := (mkF m 1 #[.val (.ref o0)] [(.ref o0)])) rfl rfl (hb hby d8_1)
  refine own_go st260 ?_
  refine own_go (S' := T260.setTop (mkF m 12 #[.val (.ref o0)] [(.int (0 : Int32))])) (fun t k => ?_) ?_
  · show Steps p.tables e below (T260.setTop (mkF m 4 #[.val (.ref o0)] [.null])) t
    refine XS.ifnullYes X260.here hx rfl (pc0 := 4) (pc' := 11) rfl (hb hby d8_4) rfl (by decide) (by decide) ?_
    show Steps p.tables e below (T260.setTop (mkF m 11 #[.val (.ref o0)] [])) t
    refine XS.iconst X260.here hx rfl (hb hby d8_11) ?_
    exact k
  obtain ⟨fs, hr, hrun, hended, hW, hsame⟩ := X260.leave (v := some (.int (0 : Int32))) (fun h => by rw [Bd.returns] at h; cases h)
  refine own_end (v := some (.int (0 : Int32))) ?_ hrun hended ?_ hW (hsame.mono (by decide) (by decide))
  · show Steps p.tables e below (T260.setTop (mkF m 12 #[.val (.ref o0)] [(.int (0 : Int32))])) _
    exact retN X260 hx (t := .boolean) Bd.returns (by simp) (hb hby d8_12) hr
  · show QisDrag0 Z o0 h0 n0 _ T260.heap _
    rw [e260]
    exact ⟨rfl, N0, rfl⟩
theorem d8_7 : decode prog_44_method_7_code 7 = .ok (.iconst 1, 1) := by decide +kernel
theorem d8_8 : decode prog_44_method_7_code 8 = .ok (.goto 4, 3) := by decide +kernel
theorem ef_isDrag1 (m : MethodId) (x0 : Addr) : entryFrame m #[(.ref x0)] 1 = mkF m 0 #[.val (.ref x0)] [] := by first | (simp [entryFrame, mkF, argsToLocals, Value.category]; done) | rfl
def QisDrag1 (Z : State) (o0 : Addr) (w_o0_drag : Addr) (h0 : Heap) (n0 : Nat) (v : Option Value) (h : Heap) (L : List Loc) : Prop := v = some (.int (1 : Int32)) ∧ Fr n0 L ∧ h = h0
set_option maxRecDepth 65536 in
set_option maxHeartbeats 40000000 in
theorem isDrag1 (l : Launch) (Z : State) (a0 : Array Value) (hw : ∀ d ∈ tables_1, d.before a0 Z = true) (ws : List Jvm.Cond) (o0 : Addr) (w_o0_drag : Addr) (h0 : Heap) (n0 : Nat) (Z0 : n0 ≤ h0.size) (F_o0_drag : Fld Z h0 o0 "com/example/dropwire/dropwire/inprocess/InProcessPeer" "drag" "Lcom/example/dropwire/dropwire/dnd/DragSourceContext;" (.ref w_o0_drag)) :
    MetFree l (⟨"com/example/dropwire/dropwire/inprocess/InProcessPeer", "isDragging", "()Z"⟩ : MethodName) (head1 (Jvm.Cond.code (⟨"com/example/dropwire/dropwire/inprocess/InProcessPeer", "isDragging", "()Z"⟩ : MethodName) prog_44_method_7_code 1 (some .boolean) :: ws) ({ frames := 0, cells := 0, slots := 0, locals := 0 } : Room)) (fun a U => a = #[(.ref o0)] ∧ Z.Warmed39 U.vm ∧ U.heap = h0) (fun _ _ _ _ _ => True) (fun _ U o U' => ∃ v L, o = .returned v ∧ QisDrag1 Z o0 w_o0_drag h0 n0 v U'.heap L ∧ FrameEnd U o U' L ({ frames := 0, cells := 0, slots := 0, locals := 0 } : Room).cells ({ frames := 0, cells := 0, slots := 0, locals := 0 } : Room).slots) := by
  refine MetFree.of_bodySF (plainFor_of_name pn_54) hisR ?_
  intro p e s m args below meth c s₁ Bd hml0 hP hK
  obtain ⟨rfl, hZ, hh⟩ := hP
  have hx := Bd.exec
  have hby := Bd.bytes
  have hml : c.maxLocals = 1 := hml0
  have hown : s.vm.findClass "com/example/dropwire/dropwire/inprocess/InProcessPeer" = some m.cls := findClass_of_methodNamed Bd.named
  have hnm := (name_of_methodNamed Bd.named Bd.method).1
  have X0 : Stand p l e ({ frames := 0, cells := 0, slots := 0, locals := 0 } : Room) s m #[(.ref o0)] below meth c s₁ [] 0 0 := Stand.of_body Bd
  have e0 : s₁.heap = h0 := by rw [← hh, Bd.state]; rfl
  have N0 := Fr.nil n0
  show own_Go p e below s (QisDrag1 Z o0 w_o0_drag h0 n0) ({ frames := 0, cells := 0, slots := 0, locals := 0 } : Room).cells ({ frames := 0, cells := 0, slots := 0, locals := 0 } : Room).slots (s₁.setTop (entryFrame m #[(.ref o0)] 1))
  rw [ef_isDrag1 m o0]
  have K0 : Keep h0 h0 [] := Keep.refl h0 []
  refine own_go (S' := s₁.setTop (mkF m 1 #[.val (.ref o0)] [(.ref o0)])) (fun t k => ?_) ?_
  · show Steps p.tables e below (s₁.setTop (mkF m 0 #[.val (.ref o0)] [])) t
    refine XS.aloadN X0.here hx rfl (hb hby d8_0) rfl rfl ?_
    exact k
  obtain ⟨T261, X261, e261, st261⟩ := getF X0 hx hZ hown (host := "") (Or.inl (hw _ (List.mem_of_getElem? (i := 60) rfl))) Via.refl e0 F_o0_drag (g := (mkF m 1 #[.val (.ref o0)] [(.ref o0)])) rfl rfl (hb hby d8_1)
  refine own_go st261 ?_
  refine own_go (S' := T261.setTop (mkF m 12 #[.val (.ref o0)] [(.int (1 : Int32))])) (fun t k => ?_) ?_
  · show Steps p.tables e below (T261.setTop (mkF m 4 #[.val (.ref o0)] [(.ref w_o0_drag)])) t
    refine XS.ifnullNo X261.here hx rfl (hb hby d8_4) rfl ?_
    show Steps p.tables e below (T261.setTop (mkF m 7 #[.val (.ref o0)] [])) t
    refine XS.iconst X261.here hx rfl (hb hby d8_7) ?_
    show Steps p.tables e below (T261.setTop (mkF m 8 #[.val (.ref o0)] [(.int (1 : Int32))])) t
    refine XS.goto X261.here hx rfl (pc0 := 8) (pc' := 12) rfl (hb hby d8_8) (by decide) (by decide) ?_
    exact k
  obtain ⟨fs, hr, hrun, hended, hW, hsame⟩ := X261.leave (v := some (.int (1 : Int32))) (fun h => by rw [Bd.returns] at h; cases h)
  refine own_end (v := some (.int (1 : Int32))) ?_ hrun hended ?_ hW (hsame.mono (by decide) (by decide))
  · show Steps p.tables e below (T261.setTop (mkF m 12 #[.val (.ref o0)] [(.int (1 : Int32))])) _
    exact retN X261 hx (t := .boolean) Bd.returns (by simp) (hb hby d8_12) hr
  · show QisDrag1 Z o0 w_o0_drag h0 n0 _ T261.heap _
    rw [e261]
    exact ⟨rfl, N0, rfl⟩
theorem d28_0 : decode jdk_38_method_8_code 0 = .ok (.aload_n 0, 1) := by decide +kernel
theorem d28_1 : decode jdk_38_method_8_code 1 = .ok (.getfield 48, 3) := by decide +kernel
theorem d28_4 : decode jdk_38_method_8_code 4 = .ok (.ireturn, 1) := by decide +kernel
theorem ef_alSize (m : MethodId) (x0 : Addr) : entryFrame m #[(.ref x0)] 1 = mkF m 0 #[.val (.ref x0)] [] := by first | (simp [entryFrame, mkF, argsToLocals, Value.category]; done) | rfl
def QalSize (Z : State) (o0 : Addr) (w_o0_size : Int32) (h0 : Heap) (n0 : Nat) (v : Option Value) (h : Heap) (L : List Loc) : Prop := v = some (.int w_o0_size) ∧ Fr n0 L ∧ h = h0
set_option maxRecDepth 65536 in
set_option maxHeartbeats 40000000 in
theorem alSize (l : Launch) (Z : State) (a0 : Array Value) (hw : ∀ d ∈ tables_1, d.before a0 Z = true) (ws : List Jvm.Cond) (o0 : Addr) (w_o0_size : Int32) (h0 : Heap) (n0 : Nat) (Z0 : n0 ≤ h0.size) (F_o0_size : Fld Z h0 o0 "java/util/ArrayList" "size" "I" (.int w_o0_size)) :
    MetFree l (⟨"java/util/ArrayList", "size", "()I"⟩ : MethodName) (head1 (Jvm.Cond.code (⟨"java/util/ArrayList", "size", "()I"⟩ : MethodName) jdk_38_method_8_code 1 (some .int) :: ws) ({ frames := 0, cells := 0, slots := 0, locals := 0 } : Room)) (fun a U => a = #[(.ref o0)] ∧ Z.Warmed39 U.vm ∧ U.heap = h0) (fun _ _ _ _ _ => True) (fun _ U o U' => ∃ v L, o = .returned v ∧ QalSize Z o0 w_o0_size h0 n0 v U'.heap L ∧ FrameEnd U o U' L ({ frames := 0, cells := 0, slots := 0, locals := 0 } : Room).cells ({ frames := 0, cells := 0, slots := 0, locals := 0 } : Room).slots) := by
  refine MetFree.of_bodySF (plainFor_of_name pn_18) hisR ?_
  intro p e s m args below meth c s₁ Bd hml0 hP hK
  obtain ⟨rfl, hZ, hh⟩ := hP
  have hx := Bd.exec
  have hby := Bd.bytes
  have hml : c.maxLocals = 1 := hml0
  have hown : s.vm.findClass "java/util/ArrayList" = some m.cls := findClass_of_methodNamed Bd.named
  have hnm := (name_of_methodNamed Bd.named Bd.method).1
  have X0 : Stand p l e ({ frames := 0, cells := 0, slots := 0, locals := 0 } : Room) s m #[(.ref o0)] below meth c s₁ [] 0 0 := Stand.of_body Bd
  have e0 : s₁.heap = h0 := by rw [← hh, Bd.state]; rfl
  have N0 := Fr.nil n0
  show own_Go p e below s (QalSize Z o0 w_o0_size h0 n0) ({ frames := 0, cells := 0, slots := 0, locals := 0 } : Room).cells ({ frames := 0, cells := 0, slots := 0, locals := 0 } : Room).slots (s₁.setTop (entryFrame m #[(.ref o0)] 1))
  rw [ef_alSize m o0]
  have K0 : Keep h0 h0 [] := Keep.refl h0 []
  refine own_go (S' := s₁.setTop (mkF m 1 #[.val (.ref o0)] [(.ref o0)])) (fun t k => ?_) ?_
  · show Steps p.tables e below (s₁.setTop (mkF m 0 #[.val (.ref o0)] [])) t
    refine XS.aloadN X0.here hx rfl (hb hby d28_0) rfl rfl ?_
    exact k
  obtain ⟨T262, X262, e262, st262⟩ := getF X0 hx hZ hown (host := "") (Or.inl (hw _ (List.mem_of_getElem? (i := 230) rfl))) Via.refl e0 F_o0_size (g := (mkF m 1 #[.val (.ref o0)] [(.ref o0)])) rfl rfl (hb hby d28_1)
  refine own_go st262 ?_
  obtain ⟨fs, hr, hrun, hended, hW, hsame⟩ := X262.leave (v := some (.int w_o0_size)) (fun h => by rw [Bd.returns] at h; cases h)
  refine own_end (v := some (.int w_o0_size)) ?_ hrun hended ?_ hW (hsame.mono (by decide) (by decide))
  · show Steps p.tables e below (T262.setTop (mkF m 4 #[.val (.ref o0)] [(.int w_o0_size)])) _
    exact retI X262 hx Bd.returns (hb hby d28_4) hr
  · show QalSize Z o0 w_o0_size h0 n0 _ T262.heap _
    rw [e262]
    exact ⟨rfl, N0, rfl⟩
theorem d27_0 : decode prog_44_method_13_code 0 = .ok (.aload_n 0, 1) := by decide +kernel
theorem d27_1 : decode prog_44_method_13_code 1 = .ok (.getfield 10, 3) := by decide +kernel
theorem d27_4 : decode prog_44_method_13_code 4 = .ok (.invokeinterface 49 1, 5) := by decide +kernel
theorem pd_68 : parseMethodDescriptor "()I" = some ⟨[], some .int⟩ := by decide +kernel
theorem d27_9 : decode prog_44_method_13_code 9 = .ok (.iconst 1, 1) := by decide +kernel
theorem d27_10 : decode prog_44_method_13_code 10 = .ok (.isub, 1) := by decide +kernel
theorem d27_11 : decode prog_44_method_13_code 11 = .ok (.istore_n 2, 1) := by decide +kernel
theorem d27_12 : decode prog_44_method_13_code 12 = .ok (.iload_n 2, 1) := by decide +kernel
theorem d27_13 : decode prog_44_method_13_code 13 = .ok (.ifCond .lt 50, 3) := by decide +kernel
theorem d27_63 : decode prog_44_method_13_code 63 = .ok (.aconst_null, 1) := by decide +kernel
theorem d27_64 : decode prog_44_method_13_code 64 = .ok (.areturn, 1) := by decide +kernel
theorem ef_actComp (m : MethodId) (x0 : Addr) (x1 : Addr) : entryFrame m #[(.ref x0), (.ref x1)] 4 = mkF m 0 #[.val (.ref x0), .val (.ref x1), .unset, .unset] [] := by first | (simp [entryFrame, mkF, argsToLocals, Value.category]; done) | rfl
def QactComp (Z : State) (o0 : Addr) (o1 : Addr) (w_o0_components : Addr) (h0 : Heap) (n0 : Nat) (v : Option Value) (h : Heap) (L : List Loc) : Prop := v = some .null ∧ Fr n0 L ∧ h = h0
set_option maxRecDepth 65536 in
set_option maxHeartbeats 40000000 in
theorem actComp (l : Launch) (Z : State) (a0 : Array Value) (hw : ∀ d ∈ tables_1, d.before a0 Z = true) (ws : List Jvm.Cond) (o0 : Addr) (o1 : Addr) (w_o0_components : Addr) (h0 : Heap) (n0 : Nat) (Z0 : n0 ≤ h0.size) (F_o0_components : Fld Z h0 o0 "com/example/dropwire/dropwire/inprocess/InProcessPeer" "components" "Ljava/util/List;" (.ref w_o0_components)) (F_w_o0_components_size : Fld Z h0 w_o0_components "java/util/ArrayList" "size" "I" (.int (0 : Int32))) (E_w_o0_components : Exa Z h0 w_o0_components "java/util/ArrayList") :
    MetFree l (⟨"com/example/dropwire/dropwire/inprocess/InProcessPeer", "activeComponentAt", "(Lcom/example/dropwire/dropwire/dnd/Point;)Lcom/example/dropwire/dropwire/inprocess/InProcessPeer$Component;"⟩ : MethodName) (head1 (Jvm.Cond.code (⟨"com/example/dropwire/dropwire/inprocess/InProcessPeer", "activeComponentAt", "(Lcom/example/dropwire/dropwire/dnd/Point;)Lcom/example/dropwire/dropwire/inprocess/InProcessPeer$Component;"⟩ : MethodName) prog_44_method_13_code 4 (some (.object "com/example/dropwire/dropwire/inprocess/InProcessPeer$Component")) :: ws) ({ frames := 1, cells := 0, slots := 0, locals := 12 } : Room)) (fun a U => a = #[(.ref o0), (.ref o1)] ∧ Z.Warmed39 U.vm ∧ U.heap = h0) (fun _ _ _ _ _ => True) (fun _ U o U' => ∃ v L, o = .returned v ∧ QactComp Z o0 o1 w_o0_components h0 n0 v U'.heap L ∧ FrameEnd U o U' L ({ frames := 1, cells := 0, slots := 0, locals := 12 } : Room).cells ({ frames := 1, cells := 0, slots := 0, locals := 12 } : Room).slots) := by
  refine MetFree.of_bodySF (plainFor_of_name pn_54) hisR ?_
  intro p e s m args below meth c s₁ Bd hml0 hP hK
  obtain ⟨rfl, hZ, hh⟩ := hP
  have hx := Bd.exec
  have hby := Bd.bytes
  have hml : c.maxLocals = 4 := hml0
  have hown : s.vm.findClass "com/example/dropwire/dropwire/inprocess/InProcessPeer" = some m.cls := findClass_of_methodNamed Bd.named
  have hnm := (name_of_methodNamed Bd.named Bd.method).1
  have X0 : Stand p l e ({ frames := 1, cells := 0, slots := 0, locals := 12 } : Room) s m #[(.ref o0), (.ref o1)] below meth c s₁ [] 0 0 := Stand.of_body Bd
  have e0 : s₁.heap = h0 := by rw [← hh, Bd.state]; rfl
  have N0 := Fr.nil n0
  show own_Go p e below s (QactComp Z o0 o1 w_o0_components h0 n0) ({ frames := 1, cells := 0, slots := 0, locals := 12 } : Room).cells ({ frames := 1, cells := 0, slots := 0, locals := 12 } : Room).slots (s₁.setTop (entryFrame m #[(.ref o0), (.ref o1)] 4))
  rw [ef_actComp m o0 o1]
  have K0 : Keep h0 h0 [] := Keep.refl h0 []
  refine own_go (S' := s₁.setTop (mkF m 1 #[.val (.ref o0), .val (.ref o1), .unset, .unset] [(.ref o0)])) (fun t k => ?_) ?_
  · show Steps p.tables e below (s₁.setTop (mkF m 0 #[.val (.ref o0), .val (.ref o1), .unset, .unset] [])) t
    refine XS.aloadN X0.here hx rfl (hb hby d27_0) rfl rfl ?_
    exact k
  obtain ⟨T263, X263, e263, st263⟩ := getF X0 hx hZ hown (host := "") (Or.inl (hw _ (List.mem_of_getElem? (i := 33) rfl))) Via.refl e0 F_o0_components (g := (mkF m 1 #[.val (.ref o0), .val (.ref o1), .unset, .unset] [(.ref o0)])) rfl rfl (hb hby d27_1)
  refine own_go st263 ?_
  obtain ⟨cq264, kq264, qa264, qb264, qc264⟩ := isOf hZ e263 E_w_o0_components
  obtain ⟨_, _, ⟨T264, L264, kk264, nn264⟩, -, X264, ⟨Lc264, hQ264, l264, y264, z264⟩, st264⟩ := X263.interfaceBack hx (xi := (⟨"java/util/List", "size", "()I"⟩ : MethodName)) (y := (⟨"java/util/ArrayList", "size", "()I"⟩ : MethodName)) hown (mvT hZ (hw _ (List.mem_of_getElem? (i := 222) rfl))) (mvT hZ (hw _ (List.mem_of_getElem? (i := 223) rfl))) (mvT hZ (hw _ (List.mem_of_getElem? (i := 224) rfl))) (mvT hZ (hw _ (List.mem_of_getElem? (i := 225) rfl))) (mvT hZ (hw _ (List.mem_of_getElem? (i := 226) rfl))) (mvT hZ (hw _ (List.mem_of_getElem? (i := 227) rfl))) (mvT hZ (hw _ (List.mem_of_getElem? (i := 228) rfl))) (mvT hZ (hw _ (List.mem_of_getElem? (i := 187) rfl))) (by decide) (backOf (W := 0) (alSize l Z a0 hw [] w_o0_components (0 : Int32) h0 n0 Z0 F_w_o0_components_size) hZ (hw _ (List.mem_of_getElem? (i := 229) rfl)) (hw _ (List.mem_of_getElem? (i := 11) rfl)) (by decide) (by decide)) qa264 qb264 qc264 (g := (mkF m 4 #[.val (.ref o0), .val (.ref o1), .unset, .unset] [(.ref w_o0_components)])) rfl (by rw [hml]; rfl) (Steps.refl _) (argsL := []) (rest := []) (lenOf pd_68 rfl) rfl (by show 2 * 0 + _ ≤ _; exact Nat.le_of_eq rfl) (hb hby d27_4) (fun _ _ => ⟨rfl, e263, (by decide : 0 + 0 ≤ _), (by decide : 0 + 0 ≤ _)⟩)
  dsimp only [Pt.U, Pt.locs, Pt.cells, Pt.slots] at X264 l264 y264 z264 st264 hQ264
  subst l264 y264 z264
  obtain ⟨rfl, N265, e264⟩ := hQ264
  have N267 := Fr.app N0 N265
  refine own_goT st264 ?_
  refine own_go (S' := T264.setTop (mkF m 64 #[.val (.ref o0), .val (.ref o1), .val (.int ((0 : Int32) - (1 : Int32))), .unset] [.null])) (fun t k => ?_) ?_
  · show Steps p.tables e below (T264.setTop (mkF m 9 #[.val (.ref o0), .val (.ref o1), .unset, .unset] [(.int (0 : Int32))])) t
    refine XS.iconst X264.here hx rfl (hb hby d27_9) ?_
    show Steps p.tables e below (T264.setTop (mkF m 10 #[.val (.ref o0), .val (.ref o1), .unset, .unset] [(.int (1 : Int32)), (.int (0 : Int32))])) t
    refine XS.isub X264.here hx rfl (hb hby d27_10) rfl ?_
    show Steps p.tables e below (T264.setTop (mkF m 11 #[.val (.ref o0), .val (.ref o1), .unset, .unset] [(.int ((0 : Int32) - (1 : Int32)))])) t
    refine XS.istoreN X264.here hx rfl (hb hby d27_11) rfl (l' := #[.val (.ref o0), .val (.ref o1), .val (.int ((0 : Int32) - (1 : Int32))), .unset]) rfl ?_
    show Steps p.tables e below (T264.setTop (mkF m 12 #[.val (.ref o0), .val (.ref o1), .val (.int ((0 : Int32) - (1 : Int32))), .unset] [])) t
    refine XS.iloadN X264.here hx rfl (hb hby d27_12) rfl ?_
    show Steps p.tables e below (T264.setTop (mkF m 13 #[.val (.ref o0), .val (.ref o1), .val (.int ((0 : Int32) - (1 : Int32))), .unset] [(.int ((0 : Int32) - (1 : Int32)))])) t
    refine XS.ifYes X264.here hx rfl (pc0 := 13) (pc' := 63) rfl (hb hby d27_13) rfl ((if0 _ _).trans (tlt (by decide : ((0 : Int32) - (1 : Int32)) < (0 : Int32))).1) (by decide) (by decide) ?_
    show Steps p.tables e below (T264.setTop (mkF m 63 #[.val (.ref o0), .val (.ref o1), .val (.int ((0 : Int32) - (1 : Int32))), .unset] [])) t
    refine XS.aconstNull X264.here hx rfl (hb hby d27_63) ?_
    exact k
  obtain ⟨fs, hr, hrun, hended, hW, hsame⟩ := X264.leave (v := some .null) (fun h => by rw [Bd.returns] at h; cases h)
  refine own_end (v := some .null) ?_ hrun hended ?_ hW (hsame.mono (by decide) (by decide))
  · show Steps p.tables e below (T264.setTop (mkF m 64 #[.val (.ref o0), .val (.ref o1), .val (.int ((0 : Int32) - (1 : Int32))), .unset] [.null])) _
    jvm_step X264.here [X264.here.top, hx, (hb hby d27_64), X264.method', Bd.returns, Value.isRef, FieldType.isReference]
    first | (intro acts; rw [hr _ acts rfl rfl rfl]) | rw [hr _ _ rfl rfl rfl]
    exact Steps.refl _
  · show QactComp Z o0 o1 w_o0_components h0 n0 _ T264.heap _
    rw [e264]
    exact ⟨rfl, N267, rfl⟩
theorem d9_0 : decode prog_44_method_8_code 0 = .ok (.aload_n 0, 1) := by decide +kernel
theorem d9_1 : decode prog_44_method_8_code 1 = .ok (.aload_n 1, 1) := by decide +kernel
theorem d9_2 : decode prog_44_method_8_code 2 = .ok (.putfield 24, 3) := by decide +kernel
theorem d9_5 : decode prog_44_method_8_code 5 = .ok (.aload_n 0, 1) := by decide +kernel
theorem d9_6 : decode prog_44_method_8_code 6 = .ok (.getfield 53, 3) := by decide +kernel
theorem d9_9 : decode prog_44_method_8_code 9 = .ok (.ifnonnull 4, 3) := by decide +kernel
theorem d9_12 : decode prog_44_method_8_code 12 = .ok (.return_, 1) := by decide +kernel
theorem ef_moveTo0 (m : MethodId) (x0 : Addr) (x1 : Addr) : entryFrame m #[(.ref x0), (.ref x1)] 3 = mkF m 0 #[.val (.ref x0), .val (.ref x1), .unset] [] := by first | (simp [entryFrame, mkF, argsToLocals, Value.category]; done) | rfl
def QmoveTo0 (Z : State) (o0 : Addr) (o1 : Addr) (w_o0_components : Value) (w_o0_recognizers : Value) (w_o0_hotspot : Value) (w_o0_recognizing : Value) (w_o0_plain : Value) (w_o0_under : Value) (w_o0_visit : Value) (h0 : Heap) (n0 : Nat) (v : Option Value) (h : Heap) (L : List Loc) : Prop := v = none ∧ Fr n0 L ∧ Keep h0 h [o0] ∧ Exa Z h o0 "com/example/dropwire/dropwire/inprocess/InProcessPeer" ∧ Fld Z h o0 "com/example/dropwire/dropwire/inprocess/InProcessPeer" "components" "Ljava/util/List;" w_o0_components ∧ Fld Z h o0 "com/example/dropwire/dropwire/inprocess/InProcessPeer" "recognizers" "Ljava/util/List;" w_o0_recognizers ∧ Fld Z h o0 "com/example/dropwire/dropwire/inprocess/InProcessPeer" "drag" "Lcom/example/dropwire/dropwire/dnd/DragSourceContext;" .null ∧ Fld Z h o0 "com/example/dropwire/dropwire/inprocess/InProcessPeer" "recognizing" "Lcom/example/dropwire/dropwire/inprocess/InProcessPeer$Recognizer;" w_o0_recognizing ∧ Fld Z h o0 "com/example/dropwire/dropwire/inprocess/InProcessPeer" "plain" "Lcom/example/dropwire/dropwire/dnd/Actions;" w_o0_plain ∧ Fld Z h o0 "com/example/dropwire/dropwire/inprocess/InProcessPeer" "under" "Lcom/example/dropwire/dropwire/inprocess/InProcessPeer$Component;" w_o0_under ∧ Fld Z h o0 "com/example/dropwire/dropwire/inprocess/InProcessPeer" "visit" "Lcom/example/dropwire/dropwire/dnd/DropTargetVisit;" w_o0_visit ∧ Fld Z h o0 "com/example/dropwire/dropwire/inprocess/InProcessPeer" "hotspot" "Lcom/example/dropwire/dropwire/dnd/Point;" (.ref o1)
set_option maxRecDepth 65536 in
set_option maxHeartbeats 40000000 in
theorem moveTo0 (l : Launch) (Z : State) (a0 : Array Value) (hw : ∀ d ∈ tables_1, d.before a0 Z = true) (ws : List Jvm.Cond) (o0 : Addr) (o1 : Addr) (w_o0_components : Value) (w_o0_recognizers : Value) (w_o0_hotspot : Value) (w_o0_recognizing : Value) (w_o0_plain : Value) (w_o0_under : Value) (w_o0_visit : Value) (h0 : Heap) (n0 : Nat) (Z0 : n0 ≤ h0.size) (E_o0 : Exa Z h0 o0 "com/example/dropwire/dropwire/inprocess/InProcessPeer") (F_o0_components : Fld Z h0 o0 "com/example/dropwire/dropwire/inprocess/InProcessPeer" "components" "Ljava/util/List;" w_o0_components) (F_o0_recognizers : Fld Z h0 o0 "com/example/dropwire/dropwire/inprocess/InProcessPeer" "recognizers" "Ljava/util/List;" w_o0_recognizers) (F_o0_hotspot : Fld Z h0 o0 "com/example/dropwire/dropwire/inprocess/InProcessPeer" "hotspot" "Lcom/example/dropwire/dropwire/dnd/Point;" w_o0_hotspot) (F_o0_drag : Fld Z h0 o0 "com/example/dropwire/dropwire/inprocess/InProcessPeer" "drag" "Lcom/example/dropwire/dropwire/dnd/DragSourceContext;" .null) (F_o0_recognizing : Fld Z h0 o0 "com/example/dropwire/dropwire/inprocess/InProcessPeer" "recognizing" "Lcom/example/dropwire/dropwire/inprocess/InProcessPeer$Recognizer;" w_o0_recognizing) (F_o0_plain : Fld Z h0 o0 "com/example/dropwire/dropwire/inprocess/InProcessPeer" "plain" "Lcom/example/dropwire/dropwire/dnd/Actions;" w_o0_plain) (F_o0_under : Fld Z h0 o0 "com/example/dropwire/dropwire/inprocess/InProcessPeer" "under" "Lcom/example/dropwire/dropwire/inprocess/InProcessPeer$Component;" w_o0_under) (F_o0_visit : Fld Z h0 o0 "com/example/dropwire/dropwire/inprocess/InProcessPeer" "visit" "Lcom/example/dropwire/dropwire/dnd/DropTargetVisit;" w_o0_visit) (g_o0 : n0 ≤ o0) :
    MetFree l (⟨"com/example/dropwire/dropwire/inprocess/InProcessPeer", "moveTo", "(Lcom/example/dropwire/dropwire/dnd/Point;)V"⟩ : MethodName) (head1 (Jvm.Cond.code (⟨"com/example/dropwire/dropwire/inprocess/InProcessPeer", "moveTo", "(Lcom/example/dropwire/dropwire/dnd/Point;)V"⟩ : MethodName) prog_44_method_8_code 3 none :: ws) ({ frames := 0, cells := 0, slots := 0, locals := 0 } : Room)) (fun a U => a = #[(.ref o0), (.ref o1)] ∧ Z.Warmed39 U.vm ∧ U.heap = h0) (fun _ _ _ _ _ => True) (fun _ U o U' => ∃ v L, o = .returned v ∧ QmoveTo0 Z o0 o1 w_o0_components w_o0_recognizers w_o0_hotspot w_o0_recognizing w_o0_plain w_o0_under w_o0_visit h0 n0 v U'.heap L ∧ FrameEnd U o U' L ({ frames := 0, cells := 0, slots := 0, locals := 0 } : Room).cells ({ frames := 0, cells := 0, slots := 0, locals := 0 } : Room).slots) := by
  refine MetFree.of_bodySF (plainFor_of_name pn_54) hisR ?_
  intro p e s m args below meth c s₁ Bd hml0 hP hK
  obtain ⟨rfl, hZ, hh⟩ := hP
  have hx := Bd.exec
  have hby := Bd.bytes
  have hml : c.maxLocals = 3 := hml0
  have hown : s.vm.findClass "com/example/dropwire/dropwire/inprocess/InProcessPeer" = some m.cls := findClass_of_methodNamed Bd.named
  have hnm := (name_of_methodNamed Bd.named Bd.method).1
  have X0 : Stand p l e ({ frames := 0, cells := 0, slots := 0, locals := 0 } : Room) s m #[(.ref o0), (.ref o1)] below meth c s₁ [] 0 0 := Stand.of_body Bd
  have e0 : s₁.heap = h0 := by rw [← hh, Bd.state]; rfl
  have N0 := Fr.nil n0
  show own_Go p e below s (QmoveTo0 Z o0 o1 w_o0_components w_o0_recognizers w_o0_hotspot w_o0_recognizing w_o0_plain w_o0_under w_o0_visit h0 n0) ({ frames := 0, cells := 0, slots := 0, locals := 0 } : Room).cells ({ frames := 0, cells := 0, slots := 0, locals := 0 } : Room).slots (s₁.setTop (entryFrame m #[(.ref o0), (.ref o1)] 3))
  rw [ef_moveTo0 m o0 o1]
  have K0 : Keep h0 h0 [o0] := Keep.refl h0 [o0]
  refine own_go (S' := s₁.setTop (mkF m 2 #[.val (.ref o0), .val (.ref o1), .unset] [(.ref o1), (.ref o0)])) (fun t k => ?_) ?_
  · show Steps p.tables e below (s₁.setTop (mkF m 0 #[.val (.ref o0), .val (.ref o1), .unset] [])) t
    refine XS.aloadN X0.here hx rfl (hb hby d9_0) rfl rfl ?_
    show Steps p.tables e below (s₁.setTop (mkF m 1 #[.val (.ref o0), .val (.ref o1), .unset] [(.ref o0)])) t
    refine XS.aloadN X0.here hx rfl (hb hby d9_1) rfl rfl ?_
    exact k
  obtain ⟨T268, h268, X268, e268, W268, st268⟩ := putF X0 hx hZ hown (host := "") (Or.inl (hw _ (List.mem_of_getElem? (i := 53) rfl))) Via.refl e0 F_o0_hotspot E_o0 (Or.inl (hw _ (List.mem_of_getElem? (i := 54) rfl))) (hw _ (List.mem_of_getElem? (i := 1) rfl)) (ty := (.object "com/example/dropwire/dropwire/dnd/Point")) (by decide) rfl rfl (g := (mkF m 2 #[.val (.ref o0), .val (.ref o1), .unset] [(.ref o1), (.ref o0)])) rfl rfl (hb hby d9_2)
  have f269 : Exa Z h268 o0 "com/example/dropwire/dropwire/inprocess/InProcessPeer" := E_o0.wr W268
  have f270 : Fld Z h268 o0 "com/example/dropwire/dropwire/inprocess/InProcessPeer" "components" "Ljava/util/List;" w_o0_components := F_o0_components.other W268 (Or.inr (slot_ne (Or.inr (hw _ (List.mem_of_getElem? (i := 34) rfl))) (Or.inl (hw _ (List.mem_of_getElem? (i := 54) rfl))) (by decide) (t := (.object "java/util/List")) (t' := (.object "com/example/dropwire/dropwire/dnd/Point")) (by decide) (by decide)))
  have f271 : Fld Z h268 o0 "com/example/dropwire/dropwire/inprocess/InProcessPeer" "recognizers" "Ljava/util/List;" w_o0_recognizers := F_o0_recognizers.other W268 (Or.inr (slot_ne (Or.inr (hw _ (List.mem_of_getElem? (i := 36) rfl))) (Or.inl (hw _ (List.mem_of_getElem? (i := 54) rfl))) (by decide) (t := (.object "java/util/List")) (t' := (.object "com/example/dropwire/dropwire/dnd/Point")) (by decide) (by decide)))
  have f272 : Fld Z h268 o0 "com/example/dropwire/dropwire/inprocess/InProcessPeer" "drag" "Lcom/example/dropwire/dropwire/dnd/DragSourceContext;" .null := F_o0_drag.other W268 (Or.inr (slot_ne (Or.inl (hw _ (List.mem_of_getElem? (i := 61) rfl))) (Or.inl (hw _ (List.mem_of_getElem? (i := 54) rfl))) (by decide) (t := (.object "com/example/dropwire/dropwire/dnd/DragSourceContext")) (t' := (.object "com/example/dropwire/dropwire/dnd/Point")) (by decide) (by decide)))
  have f273 : Fld Z h268 o0 "com/example/dropwire/dropwire/inprocess/InProcessPeer" "recognizing" "Lcom/example/dropwire/dropwire/inprocess/InProcessPeer$Recognizer;" w_o0_recognizing := F_o0_recognizing.other W268 (Or.inr (slot_ne (Or.inl (hw _ (List.mem_of_getElem? (i := 172) rfl))) (Or.inl (hw _ (List.mem_of_getElem? (i := 54) rfl))) (by decide) (t := (.object "com/example/dropwire/dropwire/inprocess/InProcessPeer$Recognizer")) (t' := (.object "com/example/dropwire/dropwire/dnd/Point")) (by decide) (by decide)))
  have f274 : Fld Z h268 o0 "com/example/dropwire/dropwire/inprocess/InProcessPeer" "plain" "Lcom/example/dropwire/dropwire/dnd/Actions;" w_o0_plain := F_o0_plain.other W268 (Or.inr (slot_ne (Or.inl (hw _ (List.mem_of_getElem? (i := 179) rfl))) (Or.inl (hw _ (List.mem_of_getElem? (i := 54) rfl))) (by decide) (t := (.object "com/example/dropwire/dropwire/dnd/Actions")) (t' := (.object "com/example/dropwire/dropwire/dnd/Point")) (by decide) (by decide)))
  have f275 : Fld Z h268 o0 "com/example/dropwire/dropwire/inprocess/InProcessPeer" "under" "Lcom/example/dropwire/dropwire/inprocess/InProcessPeer$Component;" w_o0_under := F_o0_under.other W268 (Or.inr (slot_ne (Or.inl (hw _ (List.mem_of_getElem? (i := 232) rfl))) (Or.inl (hw _ (List.mem_of_getElem? (i := 54) rfl))) (by decide) (t := (.object "com/example/dropwire/dropwire/inprocess/InProcessPeer$Component")) (t' := (.object "com/example/dropwire/dropwire/dnd/Point")) (by decide) (by decide)))
  have f276 : Fld Z h268 o0 "com/example/dropwire/dropwire/inprocess/InProcessPeer" "visit" "Lcom/example/dropwire/dropwire/dnd/DropTargetVisit;" w_o0_visit := F_o0_visit.other W268 (Or.inr (slot_ne (Or.inl (hw _ (List.mem_of_getElem? (i := 234) rfl))) (Or.inl (hw _ (List.mem_of_getElem? (i := 54) rfl))) (by decide) (t := (.object "com/example/dropwire/dropwire/dnd/DropTargetVisit")) (t' := (.object "com/example/dropwire/dropwire/dnd/Point")) (by decide) (by decide)))
  have f277 : Fld Z h268 o0 "com/example/dropwire/dropwire/inprocess/InProcessPeer" "hotspot" "Lcom/example/dropwire/dropwire/dnd/Point;" (.ref o1) := F_o0_hotspot.same W268
  have N278 := Fr.snoc X268 N0 g_o0
  have Z279 : n0 ≤ h268.size := Nat.le_trans Z0 (Keep.of_wr W268).1
  have K280 : Keep h0 h268 [o0] := K0.wr W268 (Or.inl (List.mem_of_getElem? (i := 0) rfl))
  refine own_go st268 ?_
  refine own_go (S' := T268.setTop (mkF m 6 #[.val (.ref o0), .val (.ref o1), .unset] [(.ref o0)])) (fun t k => ?_) ?_
  · show Steps p.tables e below (T268.setTop (mkF m 5 #[.val (.ref o0), .val (.ref o1), .unset] [])) t
    refine XS.aloadN X268.here hx rfl (hb hby d9_5) rfl rfl ?_
    exact k
  obtain ⟨T281, X281, e281, st281⟩ := getF X268 hx hZ hown (host := "") (Or.inl (hw _ (List.mem_of_getElem? (i := 60) rfl))) Via.refl e268 f272 (g := (mkF m 6 #[.val (.ref o0), .val (.ref o1), .unset] [(.ref o0)])) rfl rfl (hb hby d9_6)
  refine own_go st281 ?_
  refine own_go (S' := T281.setTop (mkF m 12 #[.val (.ref o0), .val (.ref o1), .unset] [])) (fun t k => ?_) ?_
  · show Steps p.tables e below (T281.setTop (mkF m 9 #[.val (.ref o0), .val (.ref o1), .unset] [.null])) t
    refine XS.ifnonnullNo X281.here hx rfl (hb hby d9_9) rfl ?_
    exact k
  obtain ⟨fs, hr, hrun, hended, hW, hsame⟩ := X281.leave (v := none) (fun _ => rfl)
  refine own_end (v := none) ?_ hrun hended ?_ hW (hsame.mono (by decide) (by decide))
  · show Steps p.tables e below (T281.setTop (mkF m 12 #[.val (.ref o0), .val (.ref o1), .unset] [])) _
    exact X281.returnOut hx Bd.returns (hb hby d9_12) hr
  · show QmoveTo0 Z o0 o1 w_o0_components w_o0_recognizers w_o0_hotspot w_o0_recognizing w_o0_plain w_o0_under w_o0_visit h0 n0 _ T281.heap _
    rw [e281]
    exact ⟨rfl, N278, K280, f269, f270, f271, f272, f273, f274, f275, f276, f277⟩
theorem d9_13 : decode prog_44_method_8_code 13 = .ok (.aload_n 0, 1) := by decide +kernel
theorem d9_14 : decode prog_44_method_8_code 14 = .ok (.aload_n 1, 1) := by decide +kernel
theorem d9_15 : decode prog_44_method_8_code 15 = .ok (.invokevirtual 152, 3) := by decide +kernel
theorem pd_86 : parseMethodDescriptor "(Lcom/example/dropwire/dropwire/dnd/Point;)Lcom/example/dropwire/dropwire/inprocess/InProcessPeer$Component;" = some ⟨[(.object "com/example/dropwire/dropwire/dnd/Point")], some (.object "com/example/dropwire/dropwire/inprocess/InProcessPeer$Component")⟩ := by decide +kernel
theorem d9_18 : decode prog_44_method_8_code 18 = .ok (.astore_n 2, 1) := by decide +kernel
theorem d9_19 : decode prog_44_method_8_code 19 = .ok (.aload_n 2, 1) := by decide +kernel
theorem d9_20 : decode prog_44_method_8_code 20 = .ok (.aload_n 0, 1) := by decide +kernel
theorem d9_21 : decode prog_44_method_8_code 21 = .ok (.getfield 156, 3) := by decide +kernel
theorem d9_24 : decode prog_44_method_8_code 24 = .ok (.if_acmp .eq 26, 3) := by decide +kernel
theorem d9_50 : decode prog_44_method_8_code 50 = .ok (.aload_n 0, 1) := by decide +kernel
theorem d9_51 : decode prog_44_method_8_code 51 = .ok (.getfield 156, 3) := by decide +kernel
theorem d9_54 : decode prog_44_method_8_code 54 = .ok (.ifnull 29, 3) := by decide +kernel
theorem d9_83 : decode prog_44_method_8_code 83 = .ok (.return_, 1) := by decide +kernel
theorem ef_moveTo1 (m : MethodId) (x0 : Addr) (x1 : Addr) : entryFrame m #[(.ref x0), (.ref x1)] 3 = mkF m 0 #[.val (.ref x0), .val (.ref x1), .unset] [] := by first | (simp [entryFrame, mkF, argsToLocals, Value.category]; done) | rfl
def QmoveTo1 (Z : State) (o0 : Addr) (o1 : Addr) (w_o0_components : Addr) (w_o0_recognizers : Value) (w_o0_hotspot : Value) (w_o0_drag : Addr) (w_o0_recognizing : Value) (w_o0_plain : Value) (w_o0_visit : Value) (h0 : Heap) (n0 : Nat) (v : Option Value) (h : Heap) (L : List Loc) : Prop := v = none ∧ Fr n0 L ∧ Keep h0 h [o0] ∧ Exa Z h o0 "com/example/dropwire/dropwire/inprocess/InProcessPeer" ∧ Fld Z h o0 "com/example/dropwire/dropwire/inprocess/InProcessPeer" "components" "Ljava/util/List;" (.ref w_o0_components) ∧ Fld Z h o0 "com/example/dropwire/dropwire/inprocess/InProcessPeer" "recognizers" "Ljava/util/List;" w_o0_recognizers ∧ Fld Z h o0 "com/example/dropwire/dropwire/inprocess/InProcessPeer" "drag" "Lcom/example/dropwire/dropwire/dnd/DragSourceContext;" (.ref w_o0_drag) ∧ Fld Z h o0 "com/example/dropwire/dropwire/inprocess/InProcessPeer" "recognizing" "Lcom/example/dropwire/dropwire/inprocess/InProcessPeer$Recognizer;" w_o0_recognizing ∧ Fld Z h o0 "com/example/dropwire/dropwire/inprocess/InProcessPeer" "plain" "Lcom/example/dropwire/dropwire/dnd/Actions;" w_o0_plain ∧ Fld Z h o0 "com/example/dropwire/dropwire/inprocess/InProcessPeer" "under" "Lcom/example/dropwire/dropwire/inprocess/InProcessPeer$Component;" .null ∧ Fld Z h o0 "com/example/dropwire/dropwire/inprocess/InProcessPeer" "visit" "Lcom/example/dropwire/dropwire/dnd/DropTargetVisit;" w_o0_visit ∧ Fld Z h o0 "com/example/dropwire/dropwire/inprocess/InProcessPeer" "hotspot" "Lcom/example/dropwire/dropwire/dnd/Point;" (.ref o1)
set_option maxRecDepth 65536 in
set_option maxHeartbeats 40000000 in
theorem moveTo1 (l : Launch) (Z : State) (a0 : Array Value) (hw : ∀ d ∈ tables_1, d.before a0 Z = true) (ws : List Jvm.Cond) (o0 : Addr) (o1 : Addr) (w_o0_components : Addr) (w_o0_recognizers : Value) (w_o0_hotspot : Value) (w_o0_drag : Addr) (w_o0_recognizing : Value) (w_o0_plain : Value) (w_o0_visit : Value) (h0 : Heap) (n0 : Nat) (Z0 : n0 ≤ h0.size) (E_o0 : Exa Z h0 o0 "com/example/dropwire/dropwire/inprocess/InProcessPeer") (F_o0_components : Fld Z h0 o0 "com/example/dropwire/dropwire/inprocess/InProcessPeer" "components" "Ljava/util/List;" (.ref w_o0_components)) (F_o0_recognizers : Fld Z h0 o0 "com/example/dropwire/dropwire/inprocess/InProcessPeer" "recognizers" "Ljava/util/List;" w_o0_recognizers) (F_o0_hotspot : Fld Z h0 o0 "com/example/dropwire/dropwire/inprocess/InProcessPeer" "hotspot" "Lcom/example/dropwire/dropwire/dnd/Point;" w_o0_hotspot) (F_o0_drag : Fld Z h0 o0 "com/example/dropwire/dropwire/inprocess/InProcessPeer" "drag" "Lcom/example/dropwire/dropwire/dnd/DragSourceContext;" (.ref w_o0_drag)) (F_o0_recognizing : Fld Z h0 o0 "com/example/dropwire/dropwire/inprocess/InProcessPeer" "recognizing" "Lcom/example/dropwire/dropwire/inprocess/InProcessPeer$Recognizer;" w_o0_recognizing) (F_o0_plain : Fld Z h0 o0 "com/example/dropwire/dropwire/inprocess/InProcessPeer" "plain" "Lcom/example/dropwire/dropwire/dnd/Actions;" w_o0_plain) (F_o0_under : Fld Z h0 o0 "com/example/dropwire/dropwire/inprocess/InProcessPeer" "under" "Lcom/example/dropwire/dropwire/inprocess/InProcessPeer$Component;" .null) (F_o0_visit : Fld Z h0 o0 "com/example/dropwire/dropwire/inprocess/InProcessPeer" "visit" "Lcom/example/dropwire/dropwire/dnd/DropTargetVisit;" w_o0_visit) (g_o0 : n0 ≤ o0) (F_w_o0_components_size : Fld Z h0 w_o0_components "java/util/ArrayList" "size" "I" (.int (0 : Int32))) (ne_w_o0_components_o0 : w_o0_components ≠ o0) (E_w_o0_components : Exa Z h0 w_o0_components "java/util/ArrayList") :
    MetFree l (⟨"com/example/dropwire/dropwire/inprocess/InProcessPeer", "moveTo", "(Lcom/example/dropwire/dropwire/dnd/Point;)V"⟩ : MethodName) (head1 (Jvm.Cond.code (⟨"com/example/dropwire/dropwire/inprocess/InProcessPeer", "moveTo", "(Lcom/example/dropwire/dropwire/dnd/Point;)V"⟩ : MethodName) prog_44_method_8_code 3 none :: ws) ({ frames := 2, cells := 0, slots := 0, locals := 27 } : Room)) (fun a U => a = #[(.ref o0), (.ref o1)] ∧ Z.Warmed39 U.vm ∧ U.heap = h0) (fun _ _ _ _ _ => True) (fun _ U o U' => ∃ v L, o = .returned v ∧ QmoveTo1 Z o0 o1 w_o0_components w_o0_recognizers w_o0_hotspot w_o0_drag w_o0_recognizing w_o0_plain w_o0_visit h0 n0 v U'.heap L ∧ FrameEnd U o U' L ({ frames := 2, cells := 0, slots := 0, locals := 27 } : Room).cells ({ frames := 2, cells := 0, slots := 0, locals := 27 } : Room).slots) := by
  refine MetFree.of_bodySF (plainFor_of_name pn_54) hisR ?_
  intro p e s m args below meth c s₁ Bd hml0 hP hK
  obtain ⟨rfl, hZ, hh⟩ := hP
  have hx := Bd.exec
  have hby := Bd.bytes
  have hml : c.maxLocals = 3 := hml0
  have hown : s.vm.findClass "com/example/dropwire/dropwire/inprocess/InProcessPeer" = some m.cls := findClass_of_methodNamed Bd.named
  have hnm := (name_of_methodNamed Bd.named Bd.method).1
  have X0 : Stand p l e ({ frames := 2, cells := 0, slots := 0, locals := 27 } : Room) s m #[(.ref o0), (.ref o1)] below meth c s₁ [] 0 0 := Stand.of_body Bd
  have e0 : s₁.heap = h0 := by rw [← hh, Bd.state]; rfl
  have N0 := Fr.nil n0
  show own_Go p e below s (QmoveTo1 Z o0 o1 w_o0_components w_o0_recognizers w_o0_hotspot w_o0_drag w_o0_recognizing w_o0_plain w_o0_visit h0 n0) ({ frames := 2, cells := 0, slots := 0, locals := 27 } : Room).cells ({ frames := 2, cells := 0, slots := 0, locals := 27 } : Room).slots (s₁.setTop (entryFrame m #[(.ref o0), (.ref o1)] 3))
  rw [ef_moveTo1 m o0 o1]
  have K0 : Keep h0 h0 [o0] := Keep.refl h0 [o0]
  refine own_go (S' := s₁.setTop (mkF m 2 #[.val (.ref o0), .val (.ref o1), .unset] [(.ref o1), (.ref o0)])) (fun t k => ?_) ?_
  · show Steps p.tables e below (s₁.setTop (mkF m 0 #[.val (.ref o0), .val (.ref o1), .unset] [])) t
    refine XS.aloadN X0.here hx rfl (hb hby d9_0) rfl rfl ?_
    show Steps p.tables e below (s₁.setTop (mkF m 1 #[.val (.ref o0), .val (.ref o1), .unset] [(.ref o0)])) t
    refine XS.aloadN X0.here hx rfl (hb hby d9_1) rfl rfl ?_
    exact k
  obtain ⟨T282, h282, X282, e282, W282, st282⟩ := putF X0 hx hZ hown (host := "") (Or.inl (hw _ (List.mem_of_getElem? (i := 53) rfl))) Via.refl e0 F_o0_hotspot E_o0 (Or.inl (hw _ (List.mem_of_getElem? (i := 54) rfl))) (hw _ (List.mem_of_getElem? (i := 1) rfl)) (ty := (.object "com/example/dropwire/dropwire/dnd/Point")) (by decide) rfl rfl (g := (mkF m 2 #[.val (.ref o0), .val (.ref o1), .unset] [(.ref o1), (.ref o0)])) rfl rfl (hb hby d9_2)
  have f283 : Exa Z h282 o0 "com/example/dropwire/dropwire/inprocess/InProcessPeer" := E_o0.wr W282
  have f284 : Fld Z h282 o0 "com/example/dropwire/dropwire/inprocess/InProcessPeer" "components" "Ljava/util/List;" (.ref w_o0_components) := F_o0_components.other W282 (Or.inr (slot_ne (Or.inr (hw _ (List.mem_of_getElem? (i := 34) rfl))) (Or.inl (hw _ (List.mem_of_getElem? (i := 54) rfl))) (by decide) (t := (.object "java/util/List")) (t' := (.object "com/example/dropwire/dropwire/dnd/Point")) (by decide) (by decide)))
  have f285 : Fld Z h282 o0 "com/example/dropwire/dropwire/inprocess/InProcessPeer" "recognizers" "Ljava/util/List;" w_o0_recognizers := F_o0_recognizers.other W282 (Or.inr (slot_ne (Or.inr (hw _ (List.mem_of_getElem? (i := 36) rfl))) (Or.inl (hw _ (List.mem_of_getElem? (i := 54) rfl))) (by decide) (t := (.object "java/util/List")) (t' := (.object "com/example/dropwire/dropwire/dnd/Point")) (by decide) (by decide)))
  have f286 : Fld Z h282 o0 "com/example/dropwire/dropwire/inprocess/InProcessPeer" "drag" "Lcom/example/dropwire/dropwire/dnd/DragSourceContext;" (.ref w_o0_drag) := F_o0_drag.other W282 (Or.inr (slot_ne (Or.inl (hw _ (List.mem_of_getElem? (i := 61) rfl))) (Or.inl (hw _ (List.mem_of_getElem? (i := 54) rfl))) (by decide) (t := (.object "com/example/dropwire/dropwire/dnd/DragSourceContext")) (t' := (.object "com/example/dropwire/dropwire/dnd/Point")) (by decide) (by decide)))
  have f287 : Fld Z h282 o0 "com/example/dropwire/dropwire/inprocess/InProcessPeer" "recognizing" "Lcom/example/dropwire/dropwire/inprocess/InProcessPeer$Recognizer;" w_o0_recognizing := F_o0_recognizing.other W282 (Or.inr (slot_ne (Or.inl (hw _ (List.mem_of_getElem? (i := 172) rfl))) (Or.inl (hw _ (List.mem_of_getElem? (i := 54) rfl))) (by decide) (t := (.object "com/example/dropwire/dropwire/inprocess/InProcessPeer$Recognizer")) (t' := (.object "com/example/dropwire/dropwire/dnd/Point")) (by decide) (by decide)))
  have f288 : Fld Z h282 o0 "com/example/dropwire/dropwire/inprocess/InProcessPeer" "plain" "Lcom/example/dropwire/dropwire/dnd/Actions;" w_o0_plain := F_o0_plain.other W282 (Or.inr (slot_ne (Or.inl (hw _ (List.mem_of_getElem? (i := 179) rfl))) (Or.inl (hw _ (List.mem_of_getElem? (i := 54) rfl))) (by decide) (t := (.object "com/example/dropwire/dropwire/dnd/Actions")) (t' := (.object "com/example/dropwire/dropwire/dnd/Point")) (by decide) (by decide)))
  have f289 : Fld Z h282 o0 "com/example/dropwire/dropwire/inprocess/InProcessPeer" "under" "Lcom/example/dropwire/dropwire/inprocess/InProcessPeer$Component;" .null := F_o0_under.other W282 (Or.inr (slot_ne (Or.inl (hw _ (List.mem_of_getElem? (i := 232) rfl))) (Or.inl (hw _ (List.mem_of_getElem? (i := 54) rfl))) (by decide) (t := (.object "com/example/dropwire/dropwire/inprocess/InProcessPeer$Component")) (t' := (.object "com/example/dropwire/dropwire/dnd/Point")) (by decide) (by decide)))
  have f290 : Fld Z h282 o0 "com/example/dropwire/dropwire/inprocess/InProcessPeer" "visit" "Lcom/example/dropwire/dropwire/dnd/DropTargetVisit;" w_o0_visit := F_o0_visit.other W282 (Or.inr (slot_ne (Or.inl (hw _ (List.mem_of_getElem? (i := 234) rfl))) (Or.inl (hw _ (List.mem_of_getElem? (i := 54) rfl))) (by decide) (t := (.object "com/example/dropwire/dropwire/dnd/DropTargetVisit")) (t' := (.object "com/example/dropwire/dropwire/dnd/Point")) (by decide) (by decide)))
  have f291 : Fld Z h282 w_o0_components "java/util/ArrayList" "size" "I" (.int (0 : Int32)) := F_w_o0_components_size.other W282 (Or.inl ne_w_o0_components_o0)
  have f292 : Exa Z h282 w_o0_components "java/util/ArrayList" := E_w_o0_components.wr W282
  have f293 : Fld Z h282 o0 "com/example/dropwire/dropwire/inprocess/InProcessPeer" "hotspot" "Lcom/example/dropwire/dropwire/dnd/Point;" (.ref o1) := F_o0_hotspot.same W282
  have N294 := Fr.snoc X282 N0 g_o0
  have Z295 : n0 ≤ h282.size := Nat.le_trans Z0 (Keep.of_wr W282).1
  have K296 : Keep h0 h282 [o0] := K0.wr W282 (Or.inl (List.mem_of_getElem? (i := 0) rfl))
  refine own_go st282 ?_
  refine own_go (S' := T282.setTop (mkF m 6 #[.val (.ref o0), .val (.ref o1), .unset] [(.ref o0)])) (fun t k => ?_) ?_
  · show Steps p.tables e below (T282.setTop (mkF m 5 #[.val (.ref o0), .val (.ref o1), .unset] [])) t
    refine XS.aloadN X282.here hx rfl (hb hby d9_5) rfl rfl ?_
    exact k
  obtain ⟨T297, X297, e297, st297⟩ := getF X282 hx hZ hown (host := "") (Or.inl (hw _ (List.mem_of_getElem? (i := 60) rfl))) Via.refl e282 f286 (g := (mkF m 6 #[.val (.ref o0), .val (.ref o1), .unset] [(.ref o0)])) rfl rfl (hb hby d9_6)
  refine own_go st297 ?_
  refine own_go (S' := T297.setTop (mkF m 15 #[.val (.ref o0), .val (.ref o1), .unset] [(.ref o1), (.ref o0)])) (fun t k => ?_) ?_
  · show Steps p.tables e below (T297.setTop (mkF m 9 #[.val (.ref o0), .val (.ref o1), .unset] [(.ref w_o0_drag)])) t
    refine XS.ifnonnullYes X297.here hx rfl (pc0 := 9) (pc' := 13) rfl (hb hby d9_9) rfl (by decide) (by decide) ?_
    show Steps p.tables e below (T297.setTop (mkF m 13 #[.val (.ref o0), .val (.ref o1), .unset] [])) t
    refine XS.aloadN X297.here hx rfl (hb hby d9_13) rfl rfl ?_
    show Steps p.tables e below (T297.setTop (mkF m 14 #[.val (.ref o0), .val (.ref o1), .unset] [(.ref o0)])) t
    refine XS.aloadN X297.here hx rfl (hb hby d9_14) rfl rfl ?_
    exact k
  obtain ⟨cq298, qa298, qb298⟩ := f283.cell
  obtain ⟨_, _, ⟨T298, L298, kk298, nn298⟩, -, X298, ⟨Lc298, hQ298, l298, y298, z298⟩, st298⟩ := X297.privateBack hx (y := (⟨"com/example/dropwire/dropwire/inprocess/InProcessPeer", "activeComponentAt", "(Lcom/example/dropwire/dropwire/dnd/Point;)Lcom/example/dropwire/dropwire/inprocess/InProcessPeer$Component;"⟩ : MethodName)) hown (mvT hZ (hw _ (List.mem_of_getElem? (i := 218) rfl))) (mvT hZ (hw _ (List.mem_of_getElem? (i := 219) rfl))) (Jvm.Kit.selects_private (by decide) (mvT hZ (hw _ (List.mem_of_getElem? (i := 1) rfl))) (mvP hZ (hw _ (List.mem_of_getElem? (i := 220) rfl))) (mvT hZ (hw _ (List.mem_of_getElem? (i := 219) rfl)))) (Cond.privateMethod_at (mvP hZ (hw _ (List.mem_of_getElem? (i := 220) rfl)) (args := #[]))) (mvT hZ (hw _ (List.mem_of_getElem? (i := 221) rfl))) (by decide) (backOf (W := 0) (actComp l Z a0 hw [] o0 o1 w_o0_components h282 n0 Z295 f284 f291 f292) hZ (hw _ (List.mem_of_getElem? (i := 221) rfl)) (hw _ (List.mem_of_getElem? (i := 2) rfl)) (by decide) (by decide)) (g := (mkF m 15 #[.val (.ref o0), .val (.ref o1), .unset] [(.ref o1), (.ref o0)])) rfl (by rw [hml]; rfl) (Steps.refl _) (a := o0) (by (try rw [e297]); exact qa298) qb298 (argsL := [(.ref o1)]) (rest := []) (lenOf pd_86 rfl) rfl (by show 2 * 0 + _ ≤ _; exact Nat.le_of_eq rfl) (hb hby d9_15) (fun _ _ => ⟨rfl, e297, (by decide : 0 + 0 ≤ _), (by decide : 0 + 0 ≤ _)⟩)
  dsimp only [Pt.U, Pt.locs, Pt.cells, Pt.slots] at X298 l298 y298 z298 st298 hQ298
  subst l298 y298 z298
  obtain ⟨rfl, N299, e298⟩ := hQ298
  have N301 := Fr.app N294 N299
  refine own_goT st298 ?_
  refine own_go (S' := T298.setTop (mkF m 21 #[.val (.ref o0), .val (.ref o1), .val .null] [(.ref o0), .null])) (fun t k => ?_) ?_
  · show Steps p.tables e below (T298.setTop (mkF m 18 #[.val (.ref o0), .val (.ref o1), .unset] [.null])) t
    refine XS.astoreN X298.here hx rfl (hb hby d9_18) rfl rfl (l' := #[.val (.ref o0), .val (.ref o1), .val .null]) rfl ?_
    show Steps p.tables e below (T298.setTop (mkF m 19 #[.val (.ref o0), .val (.ref o1), .val .null] [])) t
    refine XS.aloadN X298.here hx rfl (hb hby d9_19) rfl rfl ?_
    show Steps p.tables e below (T298.setTop (mkF m 20 #[.val (.ref o0), .val (.ref o1), .val .null] [.null])) t
    refine XS.aloadN X298.here hx rfl (hb hby d9_20) rfl rfl ?_
    exact k
  obtain ⟨T302, X302, e302, st302⟩ := getF X298 hx hZ hown (host := "") (Or.inl (hw _ (List.mem_of_getElem? (i := 231) rfl))) Via.refl e298 f289 (g := (mkF m 21 #[.val (.ref o0), .val (.ref o1), .val .null] [(.ref o0), .null])) rfl rfl (hb hby d9_21)
  refine own_go st302 ?_
  refine own_go (S' := T302.setTop (mkF m 51 #[.val (.ref o0), .val (.ref o1), .val .null] [(.ref o0)])) (fun t k => ?_) ?_
  · show Steps p.tables e below (T302.setTop (mkF m 24 #[.val (.ref o0), .val (.ref o1), .val .null] [.null, .null])) t
    refine Jvm.RoadKit.acmp (g := (mkF m 24 #[.val (.ref o0), .val (.ref o1), .val .null] [.null, .null])) X302 hx rfl rfl rfl (pc0 := 24) (pc' := 50) (same := true) rfl (hb hby d9_24) rfl (decide_eq_true rfl) (by decide) (by decide) ?_
    show Steps p.tables e below (T302.setTop (mkF m 50 #[.val (.ref o0), .val (.ref o1), .val .null] [])) t
    refine XS.aloadN X302.here hx rfl (hb hby d9_50) rfl rfl ?_
    exact k
  obtain ⟨T303, X303, e303, st303⟩ := getF X302 hx hZ hown (host := "") (Or.inl (hw _ (List.mem_of_getElem? (i := 231) rfl))) Via.refl e302 f289 (g := (mkF m 51 #[.val (.ref o0), .val (.ref o1), .val .null] [(.ref o0)])) rfl rfl (hb hby d9_51)
  refine own_go st303 ?_
  refine own_go (S' := T303.setTop (mkF m 83 #[.val (.ref o0), .val (.ref o1), .val .null] [])) (fun t k => ?_) ?_
  · show Steps p.tables e below (T303.setTop (mkF m 54 #[.val (.ref o0), .val (.ref o1), .val .null] [.null])) t
    refine XS.ifnullYes X303.here hx rfl (pc0 := 54) (pc' := 83) rfl (hb hby d9_54) rfl (by decide) (by decide) ?_
    exact k
  obtain ⟨fs, hr, hrun, hended, hW, hsame⟩ := X303.leave (v := none) (fun _ => rfl)
  refine own_end (v := none) ?_ hrun hended ?_ hW (hsame.mono (by decide) (by decide))
  · show Steps p.tables e below (T303.setTop (mkF m 83 #[.val (.ref o0), .val (.ref o1), .val .null] [])) _
    exact X303.returnOut hx Bd.returns (hb hby d9_83) hr
  · show QmoveTo1 Z o0 o1 w_o0_components w_o0_recognizers w_o0_hotspot w_o0_drag w_o0_recognizing w_o0_plain w_o0_visit h0 n0 _ T303.heap _
    rw [e303]
    exact ⟨rfl, N301, K296, f283, f284, f285, f286, f287, f288, f289, f290, f293⟩
theorem d11_0 : decode prog_10_method_1_code 0 = .ok (.aload_n 0, 1) := by decide +kernel
theorem d11_1 : decode prog_10_method_1_code 1 = .ok (.invokespecial 1, 3) := by decide +kernel
theorem d11_4 : decode prog_10_method_1_code 4 = .ok (.aload_n 0, 1) := by decide +kernel
theorem d11_5 : decode prog_10_method_1_code 5 = .ok (.iload_n 1, 1) := by decide +kernel
theorem d11_6 : decode prog_10_method_1_code 6 = .ok (.putfield 7, 3) := by decide +kernel
theorem d11_9 : decode prog_10_method_1_code 9 = .ok (.return_, 1) := by decide +kernel
theorem pn_102 : plainName "com/example/dropwire/dropwire/dnd/Actions" = true := by first | (simp [plainName, overriddenIn]; done) | decide +kernel
theorem ef_acsInit (m : MethodId) (x0 : Addr) (x1 : Int32) : entryFrame m #[(.ref x0), (.int x1)] 2 = mkF m 0 #[.val (.ref x0), .val (.int x1)] [] := by first | (simp [entryFrame, mkF, argsToLocals, Value.category]; done) | rfl
def QacsInit (Z : State) (o0 : Addr) (p1 : Int32) (w_o0_bits : Int32) (h0 : Heap) (n0 : Nat) (v : Option Value) (h : Heap) (L : List Loc) : Prop := v = none ∧ Fr n0 L ∧ Keep h0 h [o0] ∧ Exa Z h o0 "com/example/dropwire/dropwire/dnd/Actions" ∧ Fld Z h o0 "com/example/dropwire/dropwire/dnd/Actions" "bits" "I" (.int p1)
set_option maxRecDepth 65536 in
set_option maxHeartbeats 40000000 in
theorem acsInit (l : Launch) (Z : State) (a0 : Array Value) (hw : ∀ d ∈ tables_1, d.before a0 Z = true) (ws : List Jvm.Cond) (o0 : Addr) (p1 : Int32) (w_o0_bits : Int32) (h0 : Heap) (n0 : Nat) (Z0 : n0 ≤ h0.size) (E_o0 : Exa Z h0 o0 "com/example/dropwire/dropwire/dnd/Actions") (F_o0_bits : Fld Z h0 o0 "com/example/dropwire/dropwire/dnd/Actions" "bits" "I" (.int w_o0_bits)) (g_o0 : n0 ≤ o0) :
    MetFree l (⟨"com/example/dropwire/dropwire/dnd/Actions", "<init>", "(I)V"⟩ : MethodName) (head1 (Jvm.Cond.code (⟨"com/example/dropwire/dropwire/dnd/Actions", "<init>", "(I)V"⟩ : MethodName) prog_10_method_1_code 2 none :: ws) ({ frames := 1, cells := 0, slots := 0, locals := 12 } : Room)) (fun a U => a = #[(.ref o0), (.int p1)] ∧ Z.Warmed39 U.vm ∧ U.heap = h0) (fun _ _ _ _ _ => True) (fun _ U o U' => ∃ v L, o = .returned v ∧ QacsInit Z o0 p1 w_o0_bits h0 n0 v U'.heap L ∧ FrameEnd U o U' L ({ frames := 1, cells := 0, slots := 0, locals := 12 } : Room).cells ({ frames := 1, cells := 0, slots := 0, locals := 12 } : Room).slots) := by
  refine MetFree.of_bodySF (plainFor_of_name pn_102) hisR ?_
  intro p e s m args below meth c s₁ Bd hml0 hP hK
  obtain ⟨rfl, hZ, hh⟩ := hP
  have hx := Bd.exec
  have hby := Bd.bytes
  have hml : c.maxLocals = 2 := hml0
  have hown : s.vm.findClass "com/example/dropwire/dropwire/dnd/Actions" = some m.cls := findClass_of_methodNamed Bd.named
  have hnm := (name_of_methodNamed Bd.named Bd.method).1
  have X0 : Stand p l e ({ frames := 1, cells := 0, slots := 0, locals := 12 } : Room) s m #[(.ref o0), (.int p1)] below meth c s₁ [] 0 0 := Stand.of_body Bd
  have e0 : s₁.heap = h0 := by rw [← hh, Bd.state]; rfl
  have N0 := Fr.nil n0
  show own_Go p e below s (QacsInit Z o0 p1 w_o0_bits h0 n0) ({ frames := 1, cells := 0, slots := 0, locals := 12 } : Room).cells ({ frames := 1, cells := 0, slots := 0, locals := 12 } : Room).slots (s₁.setTop (entryFrame m #[(.ref o0), (.int p1)] 2))
  rw [ef_acsInit m o0 p1]
  have K0 : Keep h0 h0 [o0] := Keep.refl h0 [o0]
  refine own_go (S' := s₁.setTop (mkF m 1 #[.val (.ref o0), .val (.int p1)] [(.ref o0)])) (fun t k => ?_) ?_
  · show Steps p.tables e below (s₁.setTop (mkF m 0 #[.val (.ref o0), .val (.int p1)] [])) t
    refine XS.aloadN X0.here hx rfl (hb hby d11_0) rfl rfl ?_
    exact k
  obtain ⟨T304, X304, e304, st304⟩ := initO X0 hx hZ hown (hw _ (List.mem_of_getElem? (i := 79) rfl)) (hw _ (List.mem_of_getElem? (i := 7) rfl)) (hw _ (List.mem_of_getElem? (i := 8) rfl)) e0 (g := (mkF m 1 #[.val (.ref o0), .val (.int p1)] [(.ref o0)])) rfl (by rw [hml]; rfl) rfl (hb hby d11_1) (by decide) (W := 0) (by show 2 * 0 + _ ≤ _; exact Nat.le_of_eq rfl) (by decide)
  refine own_go st304 ?_
  refine own_go (S' := T304.setTop (mkF m 6 #[.val (.ref o0), .val (.int p1)] [(.int p1), (.ref o0)])) (fun t k => ?_) ?_
  · show Steps p.tables e below (T304.setTop (mkF m 4 #[.val (.ref o0), .val (.int p1)] [])) t
    refine XS.aloadN X304.here hx rfl (hb hby d11_4) rfl rfl ?_
    show Steps p.tables e below (T304.setTop (mkF m 5 #[.val (.ref o0), .val (.int p1)] [(.ref o0)])) t
    refine XS.iloadN X304.here hx rfl (hb hby d11_5) rfl ?_
    exact k
  obtain ⟨T305, h305, X305, e305, W305, st305⟩ := putF X304 hx hZ hown (host := "") (Or.inl (hw _ (List.mem_of_getElem? (i := 80) rfl))) Via.refl e304 F_o0_bits E_o0 (Or.inr ⟨(hw _ (List.mem_of_getElem? (i := 81) rfl)), rfl, hnm⟩) (hw _ (List.mem_of_getElem? (i := 75) rfl)) (ty := .int) (by decide) rfl rfl (g := (mkF m 6 #[.val (.ref o0), .val (.int p1)] [(.int p1), (.ref o0)])) rfl rfl (hb hby d11_6)
  have f306 : Exa Z h305 o0 "com/example/dropwire/dropwire/dnd/Actions" := E_o0.wr W305
  have f307 : Fld Z h305 o0 "com/example/dropwire/dropwire/dnd/Actions" "bits" "I" (.int p1) := F_o0_bits.same W305
  have N308 := Fr.snoc X305 N0 g_o0
  have Z309 : n0 ≤ h305.size := Nat.le_trans Z0 (Keep.of_wr W305).1
  have K310 : Keep h0 h305 [o0] := K0.wr W305 (Or.inl (List.mem_of_getElem? (i := 0) rfl))
  refine own_go st305 ?_
  obtain ⟨fs, hr, hrun, hended, hW, hsame⟩ := X305.leave (v := none) (fun _ => rfl)
  refine own_end (v := none) ?_ hrun hended ?_ hW (hsame.mono (by decide) (by decide))
  · show Steps p.tables e below (T305.setTop (mkF m 9 #[.val (.ref o0), .val (.int p1)] [])) _
    exact X305.returnOut hx Bd.returns (hb hby d11_9) hr
  · show QacsInit Z o0 p1 w_o0_bits h0 n0 _ T305.heap _
    rw [e305]
    exact ⟨rfl, N308, K310, f306, f307⟩
theorem d10_0 : decode prog_10_method_3_code 0 = .ok (.iload_n 0, 1) := by decide +kernel
theorem d10_1 : decode prog_10_method_3_code 1 = .ok (.bipush (-8), 2) := by decide +kernel
theorem d10_3 : decode prog_10_method_3_code 3 = .ok (.iand, 1) := by decide +kernel
theorem d10_4 : decode prog_10_method_3_code 4 = .ok (.ifCond .eq 20, 3) := by decide +kernel
theorem d10_24 : decode prog_10_method_3_code 24 = .ok (.new 8, 3) := by decide +kernel
theorem d10_27 : decode prog_10_method_3_code 27 = .ok (.dup, 1) := by decide +kernel
theorem d10_28 : decode prog_10_method_3_code 28 = .ok (.iload_n 0, 1) := by decide +kernel
theorem d10_29 : decode prog_10_method_3_code 29 = .ok (.invokespecial 58, 3) := by decide +kernel
theorem pd_111 : parseMethodDescriptor "(I)V" = some ⟨[.int], none⟩ := by decide +kernel
theorem d10_32 : decode prog_10_method_3_code 32 = .ok (.areturn, 1) := by decide +kernel
theorem ef_fromBits (m : MethodId) (x0 : Int32) : entryFrame m #[(.int x0)] 1 = mkF m 0 #[.val (.int x0)] [] := by first | (simp [entryFrame, mkF, argsToLocals, Value.category]; done) | rfl
def QfromBits (Z : State) (p0 : Int32) (h0 : Heap) (n0 : Nat) (v : Option Value) (h : Heap) (L : List Loc) : Prop := ∃ x0_ : Addr, v = some (.ref x0_) ∧ Fr n0 L ∧ Keep h0 h [] ∧ h0.size ≤ x0_ ∧ Exa Z h x0_ "com/example/dropwire/dropwire/dnd/Actions" ∧ Fld Z h x0_ "com/example/dropwire/dropwire/dnd/Actions" "bits" "I" (.int p0)
set_option maxRecDepth 65536 in
set_option maxHeartbeats 40000000 in
theorem fromBits (l : Launch) (Z : State) (a0 : Array Value) (hw : ∀ d ∈ tables_1, d.before a0 Z = true) (ws : List Jvm.Cond) (p0 : Int32) (h0 : Heap) (n0 : Nat) (Z0 : n0 ≤ h0.size) (hc4 : (p0 &&& (-8 : Int32)) = (0 : Int32)) :
    MetFree l (⟨"com/example/dropwire/dropwire/dnd/Actions", "fromBits", "(I)Lcom/example/dropwire/dropwire/dnd/Actions;"⟩ : MethodName) (head1 (Jvm.Cond.code (⟨"com/example/dropwire/dropwire/dnd/Actions", "fromBits", "(I)Lcom/example/dropwire/dropwire/dnd/Actions;"⟩ : MethodName) prog_10_method_3_code 1 (some (.object "com/example/dropwire/dropwire/dnd/Actions")) :: ws) ({ frames := 2, cells := 1, slots := 1, locals := 26 } : Room)) (fun a U => a = #[(.int p0)] ∧ Z.Warmed39 U.vm ∧ U.heap = h0) (fun _ _ _ _ _ => True) (fun _ U o U' => ∃ v L, o = .returned v ∧ QfromBits Z p0 h0 n0 v U'.heap L ∧ FrameEnd U o U' L ({ frames := 2, cells := 1, slots := 1, locals := 26 } : Room).cells ({ frames := 2, cells := 1, slots := 1, locals := 26 } : Room).slots) := by
  refine MetFree.of_bodySF (plainFor_of_name pn_102) hisR ?_
  intro p e s m args below meth c s₁ Bd hml0 hP hK
  obtain ⟨rfl, hZ, hh⟩ := hP
  have hx := Bd.exec
  have hby := Bd.bytes
  have hml : c.maxLocals = 1 := hml0
  have hown : s.vm.findClass "com/example/dropwire/dropwire/dnd/Actions" = some m.cls := findClass_of_methodNamed Bd.named
  have hnm := (name_of_methodNamed Bd.named Bd.method).1
  have X0 : Stand p l e ({ frames := 2, cells := 1, slots := 1, locals := 26 } : Room) s m #[(.int p0)] below meth c s₁ [] 0 0 := Stand.of_body Bd
  have e0 : s₁.heap = h0 := by rw [← hh, Bd.state]; rfl
  have N0 := Fr.nil n0
  show own_Go p e below s (QfromBits Z p0 h0 n0) ({ frames := 2, cells := 1, slots := 1, locals := 26 } : Room).cells ({ frames := 2, cells := 1, slots := 1, locals := 26 } : Room).slots (s₁.setTop (entryFrame m #[(.int p0)] 1))
  rw [ef_fromBits m p0]
  have K0 : Keep h0 h0 [] := Keep.refl h0 []
  refine own_go (S' := s₁.setTop (mkF m 24 #[.val (.int p0)] [])) (fun t k => ?_) ?_
  · show Steps p.tables e below (s₁.setTop (mkF m 0 #[.val (.int p0)] [])) t
    refine XS.iloadN X0.here hx rfl (hb hby d10_0) rfl ?_
    show Steps p.tables e below (s₁.setTop (mkF m 1 #[.val (.int p0)] [(.int p0)])) t
    refine XS.bipush X0.here hx rfl (hb hby d10_1) ?_
    show Steps p.tables e below (s₁.setTop (mkF m 3 #[.val (.int p0)] [(.int (-8 : Int32)), (.int p0)])) t
    refine XS.iand X0.here hx rfl (hb hby d10_3) rfl ?_
    show Steps p.tables e below (s₁.setTop (mkF m 4 #[.val (.int p0)] [(.int (p0 &&& (-8 : Int32)))])) t
    refine XS.ifYes X0.here hx rfl (pc0 := 4) (pc' := 24) rfl (hb hby d10_4) rfl ((if0 _ _).trans (teq hc4).1) (by decide) (by decide) ?_
    exact k
  obtain ⟨T311, h311, X311, e311, E311, A311, D311, -, st311⟩ := newO X0 hx hZ hown (hw _ (List.mem_of_getElem? (i := 74) rfl)) (hw _ (List.mem_of_getElem? (i := 75) rfl)) (hw _ (List.mem_of_getElem? (i := 72) rfl)) e0 (g := (mkF m 24 #[.val (.int p0)] [])) rfl (hb hby d10_24) (by decide) (by decide)
  obtain ⟨b311, g311⟩ : ∃ z, z = h0.size := ⟨_, rfl⟩
  rw [← g311] at A311 D311 st311
  have g_b311 : n0 ≤ b311 := Nat.le_trans Z0 (Nat.le_of_eq g311.symm)
  have sz_b311 : h0.size ≤ b311 := Nat.le_trans K0.1 (Nat.le_of_eq g311.symm)
  have K312 : Keep h0 h311 [] := K0.ext E311
  have Z313 : n0 ≤ h311.size := Nat.le_trans Z0 E311.1
  have f314 : Fld Z h311 b311 "com/example/dropwire/dropwire/dnd/Actions" "bits" "I" (.int (0 : Int32)) := D311 (Or.inr (hw _ (List.mem_of_getElem? (i := 81) rfl))) (ty := .int) (by decide)
  refine own_go st311 ?_
  refine own_go (S' := T311.setTop (mkF m 29 #[.val (.int p0)] [(.int p0), (.ref b311), (.ref b311)])) (fun t k => ?_) ?_
  · show Steps p.tables e below (T311.setTop (mkF m 27 #[.val (.int p0)] [(.ref b311)])) t
    refine XS.dup X311.here hx rfl (hb hby d10_27) rfl rfl ?_
    show Steps p.tables e below (T311.setTop (mkF m 28 #[.val (.int p0)] [(.ref b311), (.ref b311)])) t
    refine XS.iloadN X311.here hx rfl (hb hby d10_28) rfl ?_
    exact k
  obtain ⟨_, _, ⟨T315, L315, kk315, nn315⟩, -, X315, ⟨Lc315, hQ315, l315, y315, z315⟩, st315⟩ := X311.specialBack hx (y := (⟨"com/example/dropwire/dropwire/dnd/Actions", "<init>", "(I)V"⟩ : MethodName)) rfl hown (mvT hZ (hw _ (List.mem_of_getElem? (i := 76) rfl))) (mvT hZ (hw _ (List.mem_of_getElem? (i := 77) rfl))) (mvT hZ (hw _ (List.mem_of_getElem? (i := 78) rfl))) (by decide) (backOf (W := 1) (acsInit l Z a0 hw [] b311 p0 (0 : Int32) h311 n0 Z313 A311 f314 g_b311) hZ (hw _ (List.mem_of_getElem? (i := 78) rfl)) (hw _ (List.mem_of_getElem? (i := 72) rfl)) (by decide) (by decide)) (g := (mkF m 29 #[.val (.int p0)] [(.int p0), (.ref b311), (.ref b311)])) rfl (by rw [hml]; rfl) (Steps.refl _) (a := b311) (argsL := [(.int p0)]) (rest := [(.ref b311)]) (lenOf pd_111 rfl) rfl (by show 2 * 0 + _ ≤ _; exact Nat.le_of_eq rfl) (hb hby d10_29) (fun _ _ => ⟨rfl, e311, (by decide : 1 + 0 ≤ _), (by decide : 1 + 0 ≤ _)⟩)
  dsimp only [Pt.U, Pt.locs, Pt.cells, Pt.slots] at X315 l315 y315 z315 st315 hQ315
  subst l315 y315 z315
  obtain ⟨rfl, N316, K317, p318, p319⟩ := hQ315
  have N320 := Fr.app N0 N316
  have f321 : Exa Z T315.heap b311 "com/example/dropwire/dropwire/dnd/Actions" := A311.keep K317
  have Z322 : n0 ≤ T315.heap.size := Nat.le_trans Z313 K317.1
  have K323 : Keep h0 T315.heap [] := K312.trans K317 (allS (Or.inr sz_b311) all0)
  refine own_goT st315 ?_
  obtain ⟨fs, hr, hrun, hended, hW, hsame⟩ := X315.leave (v := some (.ref b311)) (fun h => by rw [Bd.returns] at h; cases h)
  refine own_end (v := some (.ref b311)) ?_ hrun hended ?_ hW (hsame.mono (by decide) (by decide))
  · show Steps p.tables e below (T315.setTop (mkF m 32 #[.val (.int p0)] [(.ref b311)])) _
    jvm_step X315.here [X315.here.top, hx, (hb hby d10_32), X315.method', Bd.returns, Value.isRef, FieldType.isReference]
    first | (intro acts; rw [hr _ acts rfl rfl rfl]) | rw [hr _ _ rfl rfl rfl]
    exact Steps.refl _
  · show QfromBits Z p0 h0 n0 _ T315.heap _
    exact ⟨b311, rfl, N320, K323, sz_b311, p318, p319⟩
theorem d12_0 : decode prog_16_method_1_code 0 = .ok (.aload_n 0, 1) := by decide +kernel
theorem d12_1 : decode prog_16_method_1_code 1 = .ok (.invokespecial 1, 3) := by decide +kernel
theorem d12_4 : decode prog_16_method_1_code 4 = .ok (.return_, 1) := by decide +kernel
theorem pn_116 : plainName "com/example/dropwire/dropwire/dnd/DragSource" = true := by first | (simp [plainName, overriddenIn]; done) | decide +kernel
theorem ef_dsInit (m : MethodId) (x0 : Addr) : entryFrame m #[(.ref x0)] 1 = mkF m 0 #[.val (.ref x0)] [] := by first | (simp [entryFrame, mkF, argsToLocals, Value.category]; done) | rfl
def QdsInit (Z : State) (o0 : Addr) (h0 : Heap) (n0 : Nat) (v : Option Value) (h : Heap) (L : List Loc) : Prop := v = none ∧ Fr n0 L ∧ h = h0
set_option maxRecDepth 65536 in
set_option maxHeartbeats 40000000 in
theorem dsInit (l : Launch) (Z : State) (a0 : Array Value) (hw : ∀ d ∈ tables_1, d.before a0 Z = true) (ws : List Jvm.Cond) (o0 : Addr) (h0 : Heap) (n0 : Nat) (Z0 : n0 ≤ h0.size) :
    MetFree l (⟨"com/example/dropwire/dropwire/dnd/DragSource", "<init>", "()V"⟩ : MethodName) (head1 (Jvm.Cond.code (⟨"com/example/dropwire/dropwire/dnd/DragSource", "<init>", "()V"⟩ : MethodName) prog_16_method_1_code 1 none :: ws) ({ frames := 1, cells := 0, slots := 0, locals := 12 } : Room)) (fun a U => a = #[(.ref o0)] ∧ Z.Warmed39 U.vm ∧ U.heap = h0) (fun _ _ _ _ _ => True) (fun _ U o U' => ∃ v L, o = .returned v ∧ QdsInit Z o0 h0 n0 v U'.heap L ∧ FrameEnd U o U' L ({ frames := 1, cells := 0, slots := 0, locals := 12 } : Room).cells ({ frames := 1, cells := 0, slots := 0, locals := 12 } : Room).slots) := by
  refine MetFree.of_bodySF (plainFor_of_name pn_116) hisR ?_
  intro p e s m args below meth c s₁ Bd hml0 hP hK
  obtain ⟨rfl, hZ, hh⟩ := hP
  have hx := Bd.exec
  have hby := Bd.bytes
  have hml : c.maxLocals = 1 := hml0
  have hown : s.vm.findClass "com/example/dropwire/dropwire/dnd/DragSource" = some m.cls := findClass_of_methodNamed Bd.named
  have hnm := (name_of_methodNamed Bd.named Bd.method).1
  have X0 : Stand p l e ({ frames := 1, cells := 0, slots := 0, locals := 12 } : Room) s m #[(.ref o0)] below meth c s₁ [] 0 0 := Stand.of_body Bd
  have e0 : s₁.heap = h0 := by rw [← hh, Bd.state]; rfl
  have N0 := Fr.nil n0
  show own_Go p e below s (QdsInit Z o0 h0 n0) ({ frames := 1, cells := 0, slots := 0, locals := 12 } : Room).cells ({ frames := 1, cells := 0, slots := 0, locals := 12 } : Room).slots (s₁.setTop (entryFrame m #[(.ref o0)] 1))
  rw [ef_dsInit m o0]
  have K0 : Keep h0 h0 [] := Keep.refl h0 []
  refine own_go (S' := s₁.setTop (mkF m 1 #[.val (.ref o0)] [(.ref o0)])) (fun t k => ?_) ?_
  · show Steps p.tables e below (s₁.setTop (mkF m 0 #[.val (.ref o0)] [])) t
    refine XS.aloadN X0.here hx rfl (hb hby d12_0) rfl rfl ?_
    exact k
  obtain ⟨T324, X324, e324, st324⟩ := initO X0 hx hZ hown (hw _ (List.mem_of_getElem? (i := 88) rfl)) (hw _ (List.mem_of_getElem? (i := 7) rfl)) (hw _ (List.mem_of_getElem? (i := 8) rfl)) e0 (g := (mkF m 1 #[.val (.ref o0)] [(.ref o0)])) rfl (by rw [hml]; rfl) rfl (hb hby d12_1) (by decide) (W := 0) (by show 2 * 0 + _ ≤ _; exact Nat.le_of_eq rfl) (by decide)
  refine own_go st324 ?_
  obtain ⟨fs, hr, hrun, hended, hW, hsame⟩ := X324.leave (v := none) (fun _ => rfl)
  refine own_end (v := none) ?_ hrun hended ?_ hW (hsame.mono (by decide) (by decide))
  · show Steps p.tables e below (T324.setTop (mkF m 4 #[.val (.ref o0)] [])) _
    exact X324.returnOut hx Bd.returns (hb hby d12_4) hr
  · show QdsInit Z o0 h0 n0 _ T324.heap _
    rw [e324]
    exact ⟨rfl, N0, rfl⟩
theorem d16_0 : decode jdk_33_method_49_code 0 = .ok (.iload_n 0, 1) := by decide +kernel
theorem d16_1 : decode jdk_33_method_49_code 1 = .ok (.iload_n 0, 1) := by decide +kernel
theorem d16_2 : decode jdk_33_method_49_code 2 = .ok (.iconst 1, 1) := by decide +kernel
theorem d16_3 : decode jdk_33_method_49_code 3 = .ok (.iushr, 1) := by decide +kernel
theorem d16_4 : decode jdk_33_method_49_code 4 = .ok (.ldc_w 265, 3) := by decide +kernel
theorem d16_7 : decode jdk_33_method_49_code 7 = .ok (.iand, 1) := by decide +kernel
theorem d16_8 : decode jdk_33_method_49_code 8 = .ok (.isub, 1) := by decide +kernel
theorem d16_9 : decode jdk_33_method_49_code 9 = .ok (.istore_n 0, 1) := by decide +kernel
theorem d16_10 : decode jdk_33_method_49_code 10 = .ok (.iload_n 0, 1) := by decide +kernel
theorem d16_11 : decode jdk_33_method_49_code 11 = .ok (.ldc_w 266, 3) := by decide +kernel
theorem d16_14 : decode jdk_33_method_49_code 14 = .ok (.iand, 1) := by decide +kernel
theorem d16_15 : decode jdk_33_method_49_code 15 = .ok (.iload_n 0, 1) := by decide +kernel
theorem d16_16 : decode jdk_33_method_49_code 16 = .ok (.iconst 2, 1) := by decide +kernel
theorem d16_17 : decode jdk_33_method_49_code 17 = .ok (.iushr, 1) := by decide +kernel
theorem d16_18 : decode jdk_33_method_49_code 18 = .ok (.ldc_w 266, 3) := by decide +kernel
theorem d16_21 : decode jdk_33_method_49_code 21 = .ok (.iand, 1) := by decide +kernel
theorem d16_22 : decode jdk_33_method_49_code 22 = .ok (.iadd, 1) := by decide +kernel
theorem d16_23 : decode jdk_33_method_49_code 23 = .ok (.istore_n 0, 1) := by decide +kernel
theorem d16_24 : decode jdk_33_method_49_code 24 = .ok (.iload_n 0, 1) := by decide +kernel
theorem d16_25 : decode jdk_33_method_49_code 25 = .ok (.iload_n 0, 1) := by decide +kernel
theorem d16_26 : decode jdk_33_method_49_code 26 = .ok (.iconst 4, 1) := by decide +kernel
theorem d16_27 : decode jdk_33_method_49_code 27 = .ok (.iushr, 1) := by decide +kernel
theorem d16_28 : decode jdk_33_method_49_code 28 = .ok (.iadd, 1) := by decide +kernel
theorem d16_29 : decode jdk_33_method_49_code 29 = .ok (.ldc_w 267, 3) := by decide +kernel
theorem d16_32 : decode jdk_33_method_49_code 32 = .ok (.iand, 1) := by decide +kernel
theorem d16_33 : decode jdk_33_method_49_code 33 = .ok (.istore_n 0, 1) := by decide +kernel
theorem d16_34 : decode jdk_33_method_49_code 34 = .ok (.iload_n 0, 1) := by decide +kernel
theorem d16_35 : decode jdk_33_method_49_code 35 = .ok (.iload_n 0, 1) := by decide +kernel
theorem d16_36 : decode jdk_33_method_49_code 36 = .ok (.bipush 8, 2) := by decide +kernel
theorem d16_38 : decode jdk_33_method_49_code 38 = .ok (.iushr, 1) := by decide +kernel
theorem d16_39 : decode jdk_33_method_49_code 39 = .ok (.iadd, 1) := by decide +kernel
theorem d16_40 : decode jdk_33_method_49_code 40 = .ok (.istore_n 0, 1) := by decide +kernel
theorem d16_41 : decode jdk_33_method_49_code 41 = .ok (.iload_n 0, 1) := by decide +kernel
theorem d16_42 : decode jdk_33_method_49_code 42 = .ok (.iload_n 0, 1) := by decide +kernel
theorem d16_43 : decode jdk_33_method_49_code 43 = .ok (.bipush 16, 2) := by decide +kernel
theorem d16_45 : decode jdk_33_method_49_code 45 = .ok (.iushr, 1) := by decide +kernel
theorem d16_46 : decode jdk_33_method_49_code 46 = .ok (.iadd, 1) := by decide +kernel
theorem d16_47 : decode jdk_33_method_49_code 47 = .ok (.istore_n 0, 1) := by decide +kernel
theorem d16_48 : decode jdk_33_method_49_code 48 = .ok (.iload_n 0, 1) := by decide +kernel
theorem d16_49 : decode jdk_33_method_49_code 49 = .ok (.bipush 63, 2) := by decide +kernel
theorem d16_51 : decode jdk_33_method_49_code 51 = .ok (.iand, 1) := by decide +kernel
theorem d16_52 : decode jdk_33_method_49_code 52 = .ok (.ireturn, 1) := by decide +kernel
theorem pn_159 : plainName "java/lang/Integer" = true := by first | (simp [plainName, overriddenIn]; done) | decide +kernel
theorem ef_bitCount (m : MethodId) (x0 : Int32) : entryFrame m #[(.int x0)] 1 = mkF m 0 #[.val (.int x0)] [] := by first | (simp [entryFrame, mkF, argsToLocals, Value.category]; done) | rfl
def bitCount_r (p0 : Int32) : Int32 := ((((((((p0 - ((Jvm.Free.XT.ushr p0 (1 : Int32)) &&& (1431655765 : Int32))) &&& (858993459 : Int32)) + ((Jvm.Free.XT.ushr (p0 - ((Jvm.Free.XT.ushr p0 (1 : Int32)) &&& (1431655765 : Int32))) (2 : Int32)) &&& (858993459 : Int32))) + (Jvm.Free.XT.ushr (((p0 - ((Jvm.Free.XT.ushr p0 (1 : Int32)) &&& (1431655765 : Int32))) &&& (858993459 : Int32)) + ((Jvm.Free.XT.ushr (p0 - ((Jvm.Free.XT.ushr p0 (1 : Int32)) &&& (1431655765 : Int32))) (2 : Int32)) &&& (858993459 : Int32))) (4 : Int32))) &&& (252645135 : Int32)) + (Jvm.Free.XT.ushr (((((p0 - ((Jvm.Free.XT.ushr p0 (1 : Int32)) &&& (1431655765 : Int32))) &&& (858993459 : Int32)) + ((Jvm.Free.XT.ushr (p0 - ((Jvm.Free.XT.ushr p0 (1 : Int32)) &&& (1431655765 : Int32))) (2 : Int32)) &&& (858993459 : Int32))) + (Jvm.Free.XT.ushr (((p0 - ((Jvm.Free.XT.ushr p0 (1 : Int32)) &&& (1431655765 : Int32))) &&& (858993459 : Int32)) + ((Jvm.Free.XT.ushr (p0 - ((Jvm.Free.XT.ushr p0 (1 : Int32)) &&& (1431655765 : Int32))) (2 : Int32)) &&& (858993459 : Int32))) (4 : Int32))) &&& (252645135 : Int32)) (8 : Int32))) + (Jvm.Free.XT.ushr ((((((p0 - ((Jvm.Free.XT.ushr p0 (1 : Int32)) &&& (1431655765 : Int32))) &&& (858993459 : Int32)) + ((Jvm.Free.XT.ushr (p0 - ((Jvm.Free.XT.ushr p0 (1 : Int32)) &&& (1431655765 : Int32))) (2 : Int32)) &&& (858993459 : Int32))) + (Jvm.Free.XT.ushr (((p0 - ((Jvm.Free.XT.ushr p0 (1 : Int32)) &&& (1431655765 : Int32))) &&& (858993459 : Int32)) + ((Jvm.Free.XT.ushr (p0 - ((Jvm.Free.XT.ushr p0 (1 : Int32)) &&& (1431655765 : Int32))) (2 : Int32)) &&& (858993459 : Int32))) (4 : Int32))) &&& (252645135 : Int32)) + (Jvm.Free.XT.ushr (((((p0 - ((Jvm.Free.XT.ushr p0 (1 : Int32)) &&& (1431655765 : Int32))) &&& (858993459 : Int32)) + ((Jvm.Free.XT.ushr (p0 - ((Jvm.Free.XT.ushr p0 (1 : Int32)) &&& (1431655765 : Int32))) (2 : Int32)) &&& (858993459 : Int32))) + (Jvm.Free.XT.ushr (((p0 - ((Jvm.Free.XT.ushr p0 (1 : Int32)) &&& (1431655765 : Int32))) &&& (858993459 : Int32)) + ((Jvm.Free.XT.ushr (p0 - ((Jvm.Free.XT.ushr p0 (1 : Int32)) &&& (1431655765 : Int32))) (2 : Int32)) &&& (858993459 : Int32))) (4 : Int32))) &&& (252645135 : Int32)) (8 : Int32))) (16 : Int32))) &&& (63 : Int32))
def QbitCount (Z : State) (p0 : Int32) (h0 : Heap) (n0 : Nat) (v : Option Value) (h : Heap) (L : List Loc) : Prop := v = some (.int (bitCount_r p0)) ∧ Fr n0 L ∧ h = h0
set_option maxRecDepth 65536 in
set_option maxHeartbeats 40000000 in
theorem bitCount (l : Launch) (Z : State) (a0 : Array Value) (hw : ∀ d ∈ tables_1, d.before a0 Z = true) (ws : List Jvm.Cond) (p0 : Int32) (h0 : Heap) (n0 : Nat) (Z0 : n0 ≤ h0.size) :
    MetFree l (⟨"java/lang/Integer", "bitCount", "(I)I"⟩ : MethodName) (head1 (Jvm.Cond.code (⟨"java/lang/Integer", "bitCount", "(I)I"⟩ : MethodName) jdk_33_method_49_code 1 (some .int) :: ws) ({ frames := 0, cells := 0, slots := 0, locals := 0 } : Room)) (fun a U => a = #[(.int p0)] ∧ Z.Warmed39 U.vm ∧ U.heap = h0) (fun _ _ _ _ _ => True) (fun _ U o U' => ∃ v L, o = .returned v ∧ QbitCount Z p0 h0 n0 v U'.heap L ∧ FrameEnd U o U' L ({ frames := 0, cells := 0, slots := 0, locals := 0 } : Room).cells ({ frames := 0, cells := 0, slots := 0, locals := 0 } : Room).slots) := by
  refine MetFree.of_bodySF (plainFor_of_name pn_159) hisR ?_
  intro p e s m args below meth c s₁ Bd hml0 hP hK
  obtain ⟨rfl, hZ, hh⟩ := hP
  have hx := Bd.exec
  have hby := Bd.bytes
  have hml : c.maxLocals = 1 := hml0
  have hown : s.vm.findClass "java/lang/Integer" = some m.cls := findClass_of_methodNamed Bd.named
  have hnm := (name_of_methodNamed Bd.named Bd.method).1
  have X0 : Stand p l e ({ frames := 0, cells := 0, slots := 0, locals := 0 } : Room) s m #[(.int p0)] below meth c s₁ [] 0 0 := Stand.of_body Bd
  have e0 : s₁.heap = h0 := by rw [← hh, Bd.state]; rfl
  have N0 := Fr.nil n0
  show own_Go p e below s (QbitCount Z p0 h0 n0) ({ frames := 0, cells := 0, slots := 0, locals := 0 } : Room).cells ({ frames := 0, cells := 0, slots := 0, locals := 0 } : Room).slots (s₁.setTop (entryFrame m #[(.int p0)] 1))
  rw [ef_bitCount m p0]
  have K0 : Keep h0 h0 [] := Keep.refl h0 []
  refine own_go (S' := s₁.setTop (mkF m 52 #[.val (.int (((((((p0 - ((Jvm.Free.XT.ushr p0 (1 : Int32)) &&& (1431655765 : Int32))) &&& (858993459 : Int32)) + ((Jvm.Free.XT.ushr (p0 - ((Jvm.Free.XT.ushr p0 (1 : Int32)) &&& (1431655765 : Int32))) (2 : Int32)) &&& (858993459 : Int32))) + (Jvm.Free.XT.ushr (((p0 - ((Jvm.Free.XT.ushr p0 (1 : Int32)) &&& (1431655765 : Int32))) &&& (858993459 : Int32)) + ((Jvm.Free.XT.ushr (p0 - ((Jvm.Free.XT.ushr p0 (1 : Int32)) &&& (1431655765 : Int32))) (2 : Int32)) &&& (858993459 : Int32))) (4 : Int32))) &&& (252645135 : Int32)) + (Jvm.Free.XT.ushr (((((p0 - ((Jvm.Free.XT.ushr p0 (1 : Int32)) &&& (1431655765 : Int32))) &&& (858993459 : Int32)) + ((Jvm.Free.XT.ushr (p0 - ((Jvm.Free.XT.ushr p0 (1 : Int32)) &&& (1431655765 : Int32))) (2 : Int32)) &&& (858993459 : Int32))) + (Jvm.Free.XT.ushr (((p0 - ((Jvm.Free.XT.ushr p0 (1 : Int32)) &&& (1431655765 : Int32))) &&& (858993459 : Int32)) + ((Jvm.Free.XT.ushr (p0 - ((Jvm.Free.XT.ushr p0 (1 : Int32)) &&& (1431655765 : Int32))) (2 : Int32)) &&& (858993459 : Int32))) (4 : Int32))) &&& (252645135 : Int32)) (8 : Int32))) + (Jvm.Free.XT.ushr ((((((p0 - ((Jvm.Free.XT.ushr p0 (1 : Int32)) &&& (1431655765 : Int32))) &&& (858993459 : Int32)) + ((Jvm.Free.XT.ushr (p0 - ((Jvm.Free.XT.ushr p0 (1 : Int32)) &&& (1431655765 : Int32))) (2 : Int32)) &&& (858993459 : Int32))) + (Jvm.Free.XT.ushr (((p0 - ((Jvm.Free.XT.ushr p0 (1 : Int32)) &&& (1431655765 : Int32))) &&& (858993459 : Int32)) + ((Jvm.Free.XT.ushr (p0 - ((Jvm.Free.XT.ushr p0 (1 : Int32)) &&& (1431655765 : Int32))) (2 : Int32)) &&& (858993459 : Int32))) (4 : Int32))) &&& (252645135 : Int32)) + (Jvm.Free.XT.ushr (((((p0 - ((Jvm.Free.XT.ushr p0 (1 : Int32)) &&& (1431655765 : Int32))) &&& (858993459 : Int32)) + ((Jvm.Free.XT.ushr (p0 - ((Jvm.Free.XT.ushr p0 (1 : Int32)) &&& (1431655765 : Int32))) (2 : Int32)) &&& (858993459 : Int32))) + (Jvm.Free.XT.ushr (((p0 - ((Jvm.Free.XT.ushr p0 (1 : Int32)) &&& (1431655765 : Int32))) &&& (858993459 : Int32)) + ((Jvm.Free.XT.ushr (p0 - ((Jvm.Free.XT.ushr p0 (1 : Int32)) &&& (1431655765 : Int32))) (2 : Int32)) &&& (858993459 : Int32))) (4 : Int32))) &&& (252645135 : Int32)) (8 : Int32))) (16 : Int32))))] [(.int ((((((((p0 - ((Jvm.Free.XT.ushr p0 (1 : Int32)) &&& (1431655765 : Int32))) &&& (858993459 : Int32)) + ((Jvm.Free.XT.ushr (p0 - ((Jvm.Free.XT.ushr p0 (1 : Int32)) &&& (1431655765 : Int32))) (2 : Int32)) &&& (858993459 : Int32))) + (Jvm.Free.XT.ushr (((p0 - ((Jvm.Free.XT.ushr p0 (1 : Int32)) &&& (1431655765 : Int32))) &&& (858993459 : Int32)) + ((Jvm.Free.XT.ushr (p0 - ((Jvm.Free.XT.ushr p0 (1 : Int32)) &&& (1431655765 : Int32))) (2 : Int32)) &&& (858993459 : Int32))) (4 : Int32))) &&& (252645135 : Int32)) + (Jvm.Free.XT.ushr (((((p0 - ((Jvm.Free.XT.ushr p0 (1 : Int32)) &&& (1431655765 : Int32))) &&& (858993459 : Int32)) + ((Jvm.Free.XT.ushr (p0 - ((Jvm.Free.XT.ushr p0 (1 : Int32)) &&& (1431655765 : Int32))) (2 : Int32)) &&& (858993459 : Int32))) + (Jvm.Free.XT.ushr (((p0 - ((Jvm.Free.XT.ushr p0 (1 : Int32)) &&& (1431655765 : Int32))) &&& (858993459 : Int32)) + ((Jvm.Free.XT.ushr (p0 - ((Jvm.Free.XT.ushr p0 (1 : Int32)) &&& (1431655765 : Int32))) (2 : Int32)) &&& (858993459 : Int32))) (4 : Int32))) &&& (252645135 : Int32)) (8 : Int32))) + (Jvm.Free.XT.ushr ((((((p0 - ((Jvm.Free.XT.ushr p0 (1 : Int32)) &&& (1431655765 : Int32))) &&& (858993459 : Int32)) + ((Jvm.Free.XT.ushr (p0 - ((Jvm.Free.XT.ushr p0 (1 : Int32)) &&& (1431655765 : Int32))) (2 : Int32)) &&& (858993459 : Int32))) + (Jvm.Free.XT.ushr (((p0 - ((Jvm.Free.XT.ushr p0 (1 : Int32)) &&& (1431655765 : Int32))) &&& (858993459 : Int32)) + ((Jvm.Free.XT.ushr (p0 - ((Jvm.Free.XT.ushr p0 (1 : Int32)) &&& (1431655765 : Int32))) (2 : Int32)) &&& (858993459 : Int32))) (4 : Int32))) &&& (252645135 : Int32)) + (Jvm.Free.XT.ushr (((((p0 - ((Jvm.Free.XT.ushr p0 (1 : Int32)) &&& (1431655765 : Int32))) &&& (858993459 : Int32)) + ((Jvm.Free.XT.ushr (p0 - ((Jvm.Free.XT.ushr p0 (1 : Int32)) &&& (1431655765 : Int32))) (2 : Int32)) &&& (858993459 : Int32))) + (Jvm.Free.XT.ushr (((p0 - ((Jvm.Free.XT.ushr p0 (1 : Int32)) &&& (1431655765 : Int32))) &&& (858993459 : Int32)) + ((Jvm.Free.XT.ushr (p0 - ((Jvm.Free.XT.ushr p0 (1 : Int32)) &&& (1431655765 : Int32))) (2 : Int32)) &&& (858993459 : Int32))) (4 : Int32))) &&& (252645135 : Int32)) (8 : Int32))) (16 : Int32))) &&& (63 : Int32)))])) (fun t k => ?_) ?_
  · show Steps p.tables e below (s₁.setTop (mkF m 0 #[.val (.int p0)] [])) t
    refine XS.iloadN X0.here hx rfl (hb hby d16_0) rfl ?_
    show Steps p.tables e below (s₁.setTop (mkF m 1 #[.val (.int p0)] [(.int p0)])) t
    refine XS.iloadN X0.here hx rfl (hb hby d16_1) rfl ?_
    show Steps p.tables e below (s₁.setTop (mkF m 2 #[.val (.int p0)] [(.int p0), (.int p0)])) t
    refine XS.iconst X0.here hx rfl (hb hby d16_2) ?_
    show Steps p.tables e below (s₁.setTop (mkF m 3 #[.val (.int p0)] [(.int (1 : Int32)), (.int p0), (.int p0)])) t
    refine XS.iushr X0.here hx rfl (hb hby d16_3) rfl ?_
    show Steps p.tables e below (s₁.setTop (mkF m 4 #[.val (.int p0)] [(.int (Jvm.Free.XT.ushr p0 (1 : Int32))), (.int p0)])) t
    refine X0.ldcwInt hx hown (mvT hZ (hw _ (List.mem_of_getElem? (i := 110) rfl))) (g := (mkF m 4 #[.val (.int p0)] [(.int (Jvm.Free.XT.ushr p0 (1 : Int32))), (.int p0)])) rfl (hb hby d16_4) _ ?_
    show Steps p.tables e below (s₁.setTop (mkF m 7 #[.val (.int p0)] [(.int (1431655765 : Int32)), (.int (Jvm.Free.XT.ushr p0 (1 : Int32))), (.int p0)])) t
    refine XS.iand X0.here hx rfl (hb hby d16_7) rfl ?_
    show Steps p.tables e below (s₁.setTop (mkF m 8 #[.val (.int p0)] [(.int ((Jvm.Free.XT.ushr p0 (1 : Int32)) &&& (1431655765 : Int32))), (.int p0)])) t
    refine XS.isub X0.here hx rfl (hb hby d16_8) rfl ?_
    show Steps p.tables e below (s₁.setTop (mkF m 9 #[.val (.int p0)] [(.int (p0 - ((Jvm.Free.XT.ushr p0 (1 : Int32)) &&& (1431655765 : Int32))))])) t
    refine XS.istoreN X0.here hx rfl (hb hby d16_9) rfl (l' := #[.val (.int (p0 - ((Jvm.Free.XT.ushr p0 (1 : Int32)) &&& (1431655765 : Int32))))]) rfl ?_
    show Steps p.tables e below (s₁.setTop (mkF m 10 #[.val (.int (p0 - ((Jvm.Free.XT.ushr p0 (1 : Int32)) &&& (1431655765 : Int32))))] [])) t
    refine XS.iloadN X0.here hx rfl (hb hby d16_10) rfl ?_
    show Steps p.tables e below (s₁.setTop (mkF m 11 #[.val (.int (p0 - ((Jvm.Free.XT.ushr p0 (1 : Int32)) &&& (1431655765 : Int32))))] [(.int (p0 - ((Jvm.Free.XT.ushr p0 (1 : Int32)) &&& (1431655765 : Int32))))])) t
    refine X0.ldcwInt hx hown (mvT hZ (hw _ (List.mem_of_getElem? (i := 111) rfl))) (g := (mkF m 11 #[.val (.int (p0 - ((Jvm.Free.XT.ushr p0 (1 : Int32)) &&& (1431655765 : Int32))))] [(.int (p0 - ((Jvm.Free.XT.ushr p0 (1 : Int32)) &&& (1431655765 : Int32))))])) rfl (hb hby d16_11) _ ?_
    show Steps p.tables e below (s₁.setTop (mkF m 14 #[.val (.int (p0 - ((Jvm.Free.XT.ushr p0 (1 : Int32)) &&& (1431655765 : Int32))))] [(.int (858993459 : Int32)), (.int (p0 - ((Jvm.Free.XT.ushr p0 (1 : Int32)) &&& (1431655765 : Int32))))])) t
    refine XS.iand X0.here hx rfl (hb hby d16_14) rfl ?_
    show Steps p.tables e below (s₁.setTop (mkF m 15 #[.val (.int (p0 - ((Jvm.Free.XT.ushr p0 (1 : Int32)) &&& (1431655765 : Int32))))] [(.int ((p0 - ((Jvm.Free.XT.ushr p0 (1 : Int32)) &&& (1431655765 : Int32))) &&& (858993459 : Int32)))])) t
    refine XS.iloadN X0.here hx rfl (hb hby d16_15) rfl ?_
    show Steps p.tables e below (s₁.setTop (mkF m 16 #[.val (.int (p0 - ((Jvm.Free.XT.ushr p0 (1 : Int32)) &&& (1431655765 : Int32))))] [(.int (p0 - ((Jvm.Free.XT.ushr p0 (1 : Int32)) &&& (1431655765 : Int32)))), (.int ((p0 - ((Jvm.Free.XT.ushr p0 (1 : Int32)) &&& (1431655765 : Int32))) &&& (858993459 : Int32)))])) t
    refine XS.iconst X0.here hx rfl (hb hby d16_16) ?_
    show Steps p.tables e below (s₁.setTop (mkF m 17 #[.val (.int (p0 - ((Jvm.Free.XT.ushr p0 (1 : Int32)) &&& (1431655765 : Int32))))] [(.int (2 : Int32)), (.int (p0 - ((Jvm.Free.XT.ushr p0 (1 : Int32)) &&& (1431655765 : Int32)))), (.int ((p0 - ((Jvm.Free.XT.ushr p0 (1 : Int32)) &&& (1431655765 : Int32))) &&& (858993459 : Int32)))])) t
    refine XS.iushr X0.here hx rfl (hb hby d16_17) rfl ?_
    show Steps p.tables e below (s₁.setTop (mkF m 18 #[.val (.int (p0 - ((Jvm.Free.XT.ushr p0 (1 : Int32)) &&& (1431655765 : Int32))))] [(.int (Jvm.Free.XT.ushr (p0 - ((Jvm.Free.XT.ushr p0 (1 : Int32)) &&& (1431655765 : Int32))) (2 : Int32))), (.int ((p0 - ((Jvm.Free.XT.ushr p0 (1 : Int32)) &&& (1431655765 : Int32))) &&& (858993459 : Int32)))])) t
    refine X0.ldcwInt hx hown (mvT hZ (hw _ (List.mem_of_getElem? (i := 111) rfl))) (g := (mkF m 18 #[.val (.int (p0 - ((Jvm.Free.XT.ushr p0 (1 : Int32)) &&& (1431655765 : Int32))))] [(.int (Jvm.Free.XT.ushr (p0 - ((Jvm.Free.XT.ushr p0 (1 : Int32)) &&& (1431655765 : Int32))) (2 : Int32))), (.int ((p0 - ((Jvm.Free.XT.ushr p0 (1 : Int32)) &&& (1431655765 : Int32))) &&& (858993459 : Int32)))])) rfl (hb hby d16_18) _ ?_
    show Steps p.tables e below (s₁.setTop (mkF m 21 #[.val (.int (p0 - ((Jvm.Free.XT.ushr p0 (1 : Int32)) &&& (1431655765 : Int32))))] [(.int (858993459 : Int32)), (.int (Jvm.Free.XT.ushr (p0 - ((Jvm.Free.XT.ushr p0 (1 : Int32)) &&& (1431655765 : Int32))) (2 : Int32))), (.int ((p0 - ((Jvm.Free.XT.ushr p0 (1 : Int32)) &&& (1431655765 : Int32))) &&& (858993459 : Int32)))])) t
    refine XS.iand X0.here hx rfl (hb hby d16_21) rfl ?_
    show Steps p.tables e below (s₁.setTop (mkF m 22 #[.val (.int (p0 - ((Jvm.Free.XT.ushr p0 (1 : Int32)) &&& (1431655765 : Int32))))] [(.int ((Jvm.Free.XT.ushr (p0 - ((Jvm.Free.XT.ushr p0 (1 : Int32)) &&& (1431655765 : Int32))) (2 : Int32)) &&& (858993459 : Int32))), (.int ((p0 - ((Jvm.Free.XT.ushr p0 (1 : Int32)) &&& (1431655765 : Int32))) &&& (858993459 : Int32)))])) t
    refine XS.iadd X0.here hx rfl (hb hby d16_22) rfl ?_
    show Steps p.tables e below (s₁.setTop (mkF m 23 #[.val (.int (p0 - ((Jvm.Free.XT.ushr p0 (1 : Int32)) &&& (1431655765 : Int32))))] [(.int (((p0 - ((Jvm.Free.XT.ushr p0 (1 : Int32)) &&& (1431655765 : Int32))) &&& (858993459 : Int32)) + ((Jvm.Free.XT.ushr (p0 - ((Jvm.Free.XT.ushr p0 (1 : Int32)) &&& (1431655765 : Int32))) (2 : Int32)) &&& (858993459 : Int32))))])) t
    refine XS.istoreN X0.here hx rfl (hb hby d16_23) rfl (l' := #[.val (.int (((p0 - ((Jvm.Free.XT.ushr p0 (1 : Int32)) &&& (1431655765 : Int32))) &&& (858993459 : Int32)) + ((Jvm.Free.XT.ushr (p0 - ((Jvm.Free.XT.ushr p0 (1 : Int32)) &&& (1431655765 : Int32))) (2 : Int32)) &&& (858993459 : Int32))))]) rfl ?_
    show Steps p.tables e below (s₁.setTop (mkF m 24 #[.val (.int (((p0 - ((Jvm.Free.XT.ushr p0 (1 : Int32)) &&& (1431655765 : Int32))) &&& (858993459 : Int32)) + ((Jvm.Free.XT.ushr (p0 - ((Jvm.Free.XT.ushr p0 (1 : Int32)) &&& (1431655765 : Int32))) (2 : Int32)) &&& (858993459 : Int32))))] [])) t
    refine XS.iloadN X0.here hx rfl (hb hby d16_24) rfl ?_
    show Steps p.tables e below (s₁.setTop (mkF m 25 #[.val (.int (((p0 - ((Jvm.Free.XT.ushr p0 (1 : Int32)) &&& (1431655765 : Int32))) &&& (858993459 : Int32)) + ((Jvm.Free.XT.ushr (p0 - ((Jvm.Free.XT.ushr p0 (1 : Int32)) &&& (1431655765 : Int32))) (2 : Int32)) &&& (858993459 : Int32))))] [(.int (((p0 - ((Jvm.Free.XT.ushr p0 (1 : Int32)) &&& (1431655765 : Int32))) &&& (858993459 : Int32)) + ((Jvm.Free.XT.ushr (p0 - ((Jvm.Free.XT.ushr p0 (1 : Int32)) &&& (1431655765 : Int32))) (2 : Int32)) &&& (858993459 : Int32))))])) t
    refine XS.iloadN X0.here hx rfl (hb hby d16_25) rfl ?_
    show Steps p.tables e below (s₁.setTop (mkF m 26 #[.val (.int (((p0 - ((Jvm.Free.XT.ushr p0 (1 : Int32)) &&& (1431655765 : Int32))) &&& (858993459 : Int32)) + ((Jvm.Free.XT.ushr (p0 - ((Jvm.Free.XT.ushr p0 (1 : Int32)) &&& (1431655765 : Int32))) (2 : Int32)) &&& (858993459 : Int32))))] [(.int (((p0 - ((Jvm.Free.XT.ushr p0 (1 : Int32)) &&& (1431655765 : Int32))) &&& (858993459 : Int32)) + ((Jvm.Free.XT.ushr (p0 - ((Jvm.Free.XT.ushr p0 (1 : Int32)) &&& (1431655765 : Int32))) (2 : Int32)) &&& (858993459 : Int32)))), (.int (((p0 - ((Jvm.Free.XT.ushr p0 (1 : Int32)) &&& (1431655765 : Int32))) &&& (858993459 : Int32)) + ((Jvm.Free.XT.ushr (p0 - ((Jvm.Free.XT.ushr p0 (1 : Int32)) &&& (1431655765 : Int32))) (2 : Int32)) &&& (858993459 : Int32))))])) t
    refine XS.iconst X0.here hx rfl (hb hby d16_26) ?_
    show Steps p.tables e below (s₁.setTop (mkF m 27 #[.val (.int (((p0 - ((Jvm.Free.XT.ushr p0 (1 : Int32)) &&& (1431655765 : Int32))) &&& (858993459 : Int32)) + ((Jvm.Free.XT.ushr (p0 - ((Jvm.Free.XT.ushr p0 (1 : Int32)) &&& (1431655765 : Int32))) (2 : Int32)) &&& (858993459 : Int32))))] [(.int (4 : Int32)), (.int (((p0 - ((Jvm.Free.XT.ushr p0 (1 : Int32)) &&& (1431655765 : Int32))) &&& (858993459 : Int32)) + ((Jvm.Free.XT.ushr (p0 - ((Jvm.Free.XT.ushr p0 (1 : Int32)) &&& (1431655765 : Int32))) (2 : Int32)) &&& (858993459 : Int32)))), (.int (((p0 - ((Jvm.Free.XT.ushr p0 (1 : Int32)) &&& (1431655765 : Int32))) &&& (858993459 : Int32)) + ((Jvm.Free.XT.ushr (p0 - ((Jvm.Free.XT.ushr p0 (1 : Int32)) &&& (1431655765 : Int32))) (2 : Int32)) &&& (858993459 : Int32))))])) t
    refine XS.iushr X0.here hx rfl (hb hby d16_27) rfl ?_
    show Steps p.tables e below (s₁.setTop (mkF m 28 #[.val (.int (((p0 - ((Jvm.Free.XT.ushr p0 (1 : Int32)) &&& (1431655765 : Int32))) &&& (858993459 : Int32)) + ((Jvm.Free.XT.ushr (p0 - ((Jvm.Free.XT.ushr p0 (1 : Int32)) &&& (1431655765 : Int32))) (2 : Int32)) &&& (858993459 : Int32))))] [(.int (Jvm.Free.XT.ushr (((p0 - ((Jvm.Free.XT.ushr p0 (1 : Int32)) &&& (1431655765 : Int32))) &&& (858993459 : Int32)) + ((Jvm.Free.XT.ushr (p0 - ((Jvm.Free.XT.ushr p0 (1 : Int32)) &&& (1431655765 : Int32))) (2 : Int32)) &&& (858993459 : Int32))) (4 : Int32))), (.int (((p0 - ((Jvm.Free.XT.ushr p0 (1 : Int32)) &&& (1431655765 : Int32))) &&& (858993459 : Int32)) + ((Jvm.Free.XT.ushr (p0 - ((Jvm.Free.XT.ushr p0 (1 : Int32)) &&& (1431655765 : Int32))) (2 : Int32)) &&& (858993459 : Int32))))])) t
    refine XS.iadd X0.here hx rfl (hb hby d16_28) rfl ?_
    show Steps p.tables e below (s₁.setTop (mkF m 29 #[.val (.int (((p0 - ((Jvm.Free.XT.ushr p0 (1 : Int32)) &&& (1431655765 : Int32))) &&& (858993459 : Int32)) + ((Jvm.Free.XT.ushr (p0 - ((Jvm.Free.XT.ushr p0 (1 : Int32)) &&& (1431655765 : Int32))) (2 : Int32)) &&& (858993459 : Int32))))] [(.int ((((p0 - ((Jvm.Free.XT.ushr p0 (1 : Int32)) &&& (1431655765 : Int32))) &&& (858993459 : Int32)) + ((Jvm.Free.XT.ushr (p0 - ((Jvm.Free.XT.ushr p0 (1 : Int32)) &&& (1431655765 : Int32))) (2 : Int32)) &&& (858993459 : Int32))) + (Jvm.Free.XT.ushr (((p0 - ((Jvm.Free.XT.ushr p0 (1 : Int32)) &&& (1431655765 : Int32))) &&& (858993459 : Int32)) + ((Jvm.Free.XT.ushr (p0 - ((Jvm.Free.XT.ushr p0 (1 : Int32)) &&& (1431655765 : Int32))) (2 : Int32)) &&& (858993459 : Int32))) (4 : Int32))))])) t
    refine X0.ldcwInt hx hown (mvT hZ (hw _ (List.mem_of_getElem? (i := 112) rfl))) (g := (mkF m 29 #[.val (.int (((p0 - ((Jvm.Free.XT.ushr p0 (1 : Int32)) &&& (1431655765 : Int32))) &&& (858993459 : Int32)) + ((Jvm.Free.XT.ushr (p0 - ((Jvm.Free.XT.ushr p0 (1 : Int32)) &&& (1431655765 : Int32))) (2 : Int32)) &&& (858993459 : Int32))))] [(.int ((((p0 - ((Jvm.Free.XT.ushr p0 (1 : Int32)) &&& (1431655765 : Int32))) &&& (858993459 : Int32)) + ((Jvm.Free.XT.ushr (p0 - ((Jvm.Free.XT.ushr p0 (1 : Int32)) &&& (1431655765 : Int32))) (2 : Int32)) &&& (858993459 : Int32))) + (Jvm.Free.XT.ushr (((p0 - ((Jvm.Free.XT.ushr p0 (1 : Int32)) &&& (1431655765 : Int32))) &&& (858993459 : Int32)) + ((Jvm.Free.XT.ushr (p0 - ((Jvm.Free.XT.ushr p0 (1 : Int32)) &&& (1431655765 : Int32))) (2 : Int32)) &&& (858993459 : Int32))) (4 : Int32))))])) rfl (hb hby d16_29) _ ?_
    show Steps p.tables e below (s₁.setTop (mkF m 32 #[.val (.int (((p0 - ((Jvm.Free.XT.ushr p0 (1 : Int32)) &&& (1431655765 : Int32))) &&& (858993459 : Int32)) + ((Jvm.Free.XT.ushr (p0 - ((Jvm.Free.XT.ushr p0 (1 : Int32)) &&& (1431655765 : Int32))) (2 : Int32)) &&& (858993459 : Int32))))] [(.int (252645135 : Int32)), (.int ((((p0 - ((Jvm.Free.XT.ushr p0 (1 : Int32)) &&& (1431655765 : Int32))) &&& (858993459 : Int32)) + ((Jvm.Free.XT.ushr (p0 - ((Jvm.Free.XT.ushr p0 (1 : Int32)) &&& (1431655765 : Int32))) (2 : Int32)) &&& (858993459 : Int32))) + (Jvm.Free.XT.ushr (((p0 - ((Jvm.Free.XT.ushr p0 (1 : Int32)) &&& (1431655765 : Int32))) &&& (858993459 : Int32)) + ((Jvm.Free.XT.ushr (p0 - ((Jvm.Free.XT.ushr p0 (1 : Int32)) &&& (1431655765 : Int32))) (2 : Int32)) &&& (858993459 : Int32))) (4 : Int32))))])) t
    refine XS.iand X0.here hx rfl (hb hby d16_32) rfl ?_
    show Steps p.tables e below (s₁.setTop (mkF m 33 #[.val (.int (((p0 - ((Jvm.Free.XT.ushr p0 (1 : Int32)) &&& (1431655765 : Int32))) &&& (858993459 : Int32)) + ((Jvm.Free.XT.ushr (p0 - ((Jvm.Free.XT.ushr p0 (1 : Int32)) &&& (1431655765 : Int32))) (2 : Int32)) &&& (858993459 : Int32))))] [(.int (((((p0 - ((Jvm.Free.XT.ushr p0 (1 : Int32)) &&& (1431655765 : Int32))) &&& (858993459 : Int32)) + ((Jvm.Free.XT.ushr (p0 - ((Jvm.Free.XT.ushr p0 (1 : Int32)) &&& (1431655765 : Int32))) (2 : Int32)) &&& (858993459 : Int32))) + (Jvm.Free.XT.ushr (((p0 - ((Jvm.Free.XT.ushr p0 (1 : Int32)) &&& (1431655765 : Int32))) &&& (858993459 : Int32)) + ((Jvm.Free.XT.ushr (p0 - ((Jvm.Free.XT.ushr p0 (1 : Int32)) &&& (1431655765 : Int32))) (2 : Int32)) &&& (858993459 : Int32))) (4 : Int32))) &&& (252645135 : Int32)))])) t
    refine XS.istoreN X0.here hx rfl (hb hby d16_33) rfl (l' := #[.val (.int (((((p0 - ((Jvm.Free.XT.ushr p0 (1 : Int32)) &&& (1431655765 : Int32))) &&& (858993459 : Int32)) + ((Jvm.Free.XT.ushr (p0 - ((Jvm.Free.XT.ushr p0 (1 : Int32)) &&& (1431655765 : Int32))) (2 : Int32)) &&& (858993459 : Int32))) + (Jvm.Free.XT.ushr (((p0 - ((Jvm.Free.XT.ushr p0 (1 : Int32)) &&& (1431655765 : Int32))) &&& (858993459 : Int32)) + ((Jvm.Free.XT.ushr (p0 - ((Jvm.Free.XT.ushr p0 (1 : Int32)) &&& (1431655765 : Int32))) (2 : Int32)) &&& (858993459 : Int32))) (4 : Int32))) &&& (252645135 : Int32)))]) rfl ?_
    show Steps p.tables e below (s₁.setTop (mkF m 34 #[.val (.int (((((p0 - ((Jvm.Free.XT.ushr p0 (1 : Int32)) &&& (1431655765 : Int32))) &&& (858993459 : Int32)) + ((Jvm.Free.XT.ushr (p0 - ((Jvm.Free.XT.ushr p0 (1 : Int32)) &&& (1431655765 : Int32))) (2 : Int32)) &&& (858993459 : Int32))) + (Jvm.Free.XT.ushr (((p0 - ((Jvm.Free.XT.ushr p0 (1 : Int32)) &&& (1431655765 : Int32))) &&& (858993459 : Int32)) + ((Jvm.Free.XT.ushr (p0 - ((Jvm.Free.XT.ushr p0 (1 : Int32)) &&& (1431655765 : Int32))) (2 : Int32)) &&& (858993459 : Int32))) (4 : Int32))) &&& (252645135 : Int32)))] [])) t
    refine XS.iloadN X0.here hx rfl (hb hby d16_34) rfl ?_
    show Steps p.tables e below (s₁.setTop (mkF m 35 #[.val (.int (((((p0 - ((Jvm.Free.XT.ushr p0 (1 : Int32)) &&& (1431655765 : Int32))) &&& (858993459 : Int32)) + ((Jvm.Free.XT.ushr (p0 - ((Jvm.Free.XT.ushr p0 (1 : Int32)) &&& (1431655765 : Int32))) (2 : Int32)) &&& (858993459 : Int32))) + (Jvm.Free.XT.ushr (((p0 - ((Jvm.Free.XT.ushr p0 (1 : Int32)) &&& (1431655765 : Int32))) &&& (858993459 : Int32)) + ((Jvm.Free.XT.ushr (p0 - ((Jvm.Free.XT.ushr p0 (1 : Int32)) &&& (1431655765 : Int32))) (2 : Int32)) &&& (858993459 : Int32))) (4 : Int32))) &&& (252645135 : Int32)))] [(.int (((((p0 - ((Jvm.Free.XT.ushr p0 (1 : Int32)) &&& (1431655765 : Int32))) &&& (858993459 : Int32)) + ((Jvm.Free.XT.ushr (p0 - ((Jvm.Free.XT.ushr p0 (1 : Int32)) &&& (1431655765 : Int32))) (2 : Int32)) &&& (858993459 : Int32))) + (Jvm.Free.XT.ushr (((p0 - ((Jvm.Free.XT.ushr p0 (1 : Int32)) &&& (1431655765 : Int32))) &&& (858993459 : Int32)) + ((Jvm.Free.XT.ushr (p0 - ((Jvm.Free.XT.ushr p0 (1 : Int32)) &&& (1431655765 : Int32))) (2 : Int32)) &&& (858993459 : Int32))) (4 : Int32))) &&& (252645135 : Int32)))])) t
    refine XS.iloadN X0.here hx rfl (hb hby d16_35) rfl ?_
    show Steps p.tables e below (s₁.setTop (mkF m 36 #[.val (.int (((((p0 - ((Jvm.Free.XT.ushr p0 (1 : Int32)) &&& (1431655765 : Int32))) &&& (858993459 : Int32)) + ((Jvm.Free.XT.ushr (p0 - ((Jvm.Free.XT.ushr p0 (1 : Int32)) &&& (1431655765 : Int32))) (2 : Int32)) &&& (858993459 : Int32))) + (Jvm.Free.XT.ushr (((p0 - ((Jvm.Free.XT.ushr p0 (1 : Int32)) &&& (1431655765 : Int32))) &&& (858993459 : Int32)) + ((Jvm.Free.XT.ushr (p0 - ((Jvm.Free.XT.ushr p0 (1 : Int32)) &&& (1431655765 : Int32))) (2 : Int32)) &&& (858993459 : Int32))) (4 : Int32))) &&& (252645135 : Int32)))] [(.int (((((p0 - ((Jvm.Free.XT.ushr p0 (1 : Int32)) &&& (1431655765 : Int32))) &&& (858993459 : Int32)) + ((Jvm.Free.XT.ushr (p0 - ((Jvm.Free.XT.ushr p0 (1 : Int32)) &&& (1431655765 : Int32))) (2 : Int32)) &&& (858993459 : Int32))) + (Jvm.Free.XT.ushr (((p0 - ((Jvm.Free.XT.ushr p0 (1 : Int32)) &&& (1431655765 : Int32))) &&& (858993459 : Int32)) + ((Jvm.Free.XT.ushr (p0 - ((Jvm.Free.XT.ushr p0 (1 : Int32)) &&& (1431655765 : Int32))) (2 : Int32)) &&& (858993459 : Int32))) (4 : Int32))) &&& (252645135 : Int32))), (.int (((((p0 - ((Jvm.Free.XT.ushr p0 (1 : Int32)) &&& (1431655765 : Int32))) &&& (858993459 : Int32)) + ((Jvm.Free.XT.ushr (p0 - ((Jvm.Free.XT.ushr p0 (1 : Int32)) &&& (1431655765 : Int32))) (2 : Int32)) &&& (858993459 : Int32))) + (Jvm.Free.XT.ushr (((p0 - ((Jvm.Free.XT.ushr p0 (1 : Int32)) &&& (1431655765 : Int32))) &&& (858993459 : Int32)) + ((Jvm.Free.XT.ushr (p0 - ((Jvm.Free.XT.ushr p0 (1 : Int32)) &&& (1431655765 : Int32))) (2 : Int32)) &&& (858993459 : Int32))) (4 : Int32))) &&& (252645135 : Int32)))])) t
    refine XS.bipush X0.here hx rfl (hb hby d16_36) ?_
    show Steps p.tables e below (s₁.setTop (mkF m 38 #[.val (.int (((((p0 - ((Jvm.Free.XT.ushr p0 (1 : Int32)) &&& (1431655765 : Int32))) &&& (858993459 : Int32)) + ((Jvm.Free.XT.ushr (p0 - ((Jvm.Free.XT.ushr p0 (1 : Int32)) &&& (1431655765 : Int32))) (2 : Int32)) &&& (858993459 : Int32))) + (Jvm.Free.XT.ushr (((p0 - ((Jvm.Free.XT.ushr p0 (1 : Int32)) &&& (1431655765 : Int32))) &&& (858993459 : Int32)) + ((Jvm.Free.XT.ushr (p0 - ((Jvm.Free.XT.ushr p0 (1 : Int32)) &&& (1431655765 : Int32))) (2 : Int32)) &&& (858993459 : Int32))) (4 : Int32))) &&& (252645135 : Int32)))] [(.int (8 : Int32)), (.int (((((p0 - ((Jvm.Free.XT.ushr p0 (1 : Int32)) &&& (1431655765 : Int32))) &&& (858993459 : Int32)) + ((Jvm.Free.XT.ushr (p0 - ((Jvm.Free.XT.ushr p0 (1 : Int32)) &&& (1431655765 : Int32))) (2 : Int32)) &&& (858993459 : Int32))) + (Jvm.Free.XT.ushr (((p0 - ((Jvm.Free.XT.ushr p0 (1 : Int32)) &&& (1431655765 : Int32))) &&& (858993459 : Int32)) + ((Jvm.Free.XT.ushr (p0 - ((Jvm.Free.XT.ushr p0 (1 : Int32)) &&& (1431655765 : Int32))) (2 : Int32)) &&& (858993459 : Int32))) (4 : Int32))) &&& (252645135 : Int32))), (.int (((((p0 - ((Jvm.Free.XT.ushr p0 (1 : Int32)) &&& (1431655765 : Int32))) &&& (858993459 : Int32)) + ((Jvm.Free.XT.ushr (p0 - ((Jvm.Free.XT.ushr p0 (1 : Int32)) &&& (1431655765 : Int32))) (2 : Int32)) &&& (858993459 : Int32))) + (Jvm.Free.XT.ushr (((p0 - ((Jvm.Free.XT.ushr p0 (1 : Int32)) &&& (1431655765 : Int32))) &&& (858993459 : Int32)) + ((Jvm.Free.XT.ushr (p0 - ((Jvm.Free.XT.ushr p0 (1 : Int32)) &&& (1431655765 : Int32))) (2 : Int32)) &&& (858993459 : Int32))) (4 : Int32))) &&& (252645135 : Int32)))])) t
    refine XS.iushr X0.here hx rfl (hb hby d16_38) rfl ?_
    show Steps p.tables e below (s₁.setTop (mkF m 39 #[.val (.int (((((p0 - ((Jvm.Free.XT.ushr p0 (1 : Int32)) &&& (1431655765 : Int32))) &&& (858993459 : Int32)) + ((Jvm.Free.XT.ushr (p0 - ((Jvm.Free.XT.ushr p0 (1 : Int32)) &&& (1431655765 : Int32))) (2 : Int32)) &&& (858993459 : Int32))) + (Jvm.Free.XT.ushr (((p0 - ((Jvm.Free.XT.ushr p0 (1 : Int32)) &&& (1431655765 : Int32))) &&& (858993459 : Int32)) + ((Jvm.Free.XT.ushr (p0 - ((Jvm.Free.XT.ushr p0 (1 : Int32)) &&& (1431655765 : Int32))) (2 : Int32)) &&& (858993459 : Int32))) (4 : Int32))) &&& (252645135 : Int32)))] [(.int (Jvm.Free.XT.ushr (((((p0 - ((Jvm.Free.XT.ushr p0 (1 : Int32)) &&& (1431655765 : Int32))) &&& (858993459 : Int32)) + ((Jvm.Free.XT.ushr (p0 - ((Jvm.Free.XT.ushr p0 (1 : Int32)) &&& (1431655765 : Int32))) (2 : Int32)) &&& (858993459 : Int32))) + (Jvm.Free.XT.ushr (((p0 - ((Jvm.Free.XT.ushr p0 (1 : Int32)) &&& (1431655765 : Int32))) &&& (858993459 : Int32)) + ((Jvm.Free.XT.ushr (p0 - ((Jvm.Free.XT.ushr p0 (1 : Int32)) &&& (1431655765 : Int32))) (2 : Int32)) &&& (858993459 : Int32))) (4 : Int32))) &&& (252645135 : Int32)) (8 : Int32))), (.int (((((p0 - ((Jvm.Free.XT.ushr p0 (1 : Int32)) &&& (1431655765 : Int32))) &&& (858993459 : Int32)) + ((Jvm.Free.XT.ushr (p0 - ((Jvm.Free.XT.ushr p0 (1 : Int32)) &&& (1431655765 : Int32))) (2 : Int32)) &&& (858993459 : Int32))) + (Jvm.Free.XT.ushr (((p0 - ((Jvm.Free.XT.ushr p0 (1 : Int32)) &&& (1431655765 : Int32))) &&& (858993459 : Int32)) + ((Jvm.Free.XT.ushr (p0 - ((Jvm.Free.XT.ushr p0 (1 : Int32)) &&& (1431655765 : Int32))) (2 : Int32)) &&& (858993459 : Int32))) (4 : Int32))) &&& (252645135 : Int32)))])) t
    refine XS.iadd X0.here hx rfl (hb hby d16_39) rfl ?_
    show Steps p.tables e below (s₁.setTop (mkF m 40 #[.val (.int (((((p0 - ((Jvm.Free.XT.ushr p0 (1 : Int32)) &&& (1431655765 : Int32))) &&& (858993459 : Int32)) + ((Jvm.Free.XT.ushr (p0 - ((Jvm.Free.XT.ushr p0 (1 : Int32)) &&& (1431655765 : Int32))) (2 : Int32)) &&& (858993459 : Int32))) + (Jvm.Free.XT.ushr (((p0 - ((Jvm.Free.XT.ushr p0 (1 : Int32)) &&& (1431655765 : Int32))) &&& (858993459 : Int32)) + ((Jvm.Free.XT.ushr (p0 - ((Jvm.Free.XT.ushr p0 (1 : Int32)) &&& (1431655765 : Int32))) (2 : Int32)) &&& (858993459 : Int32))) (4 : Int32))) &&& (252645135 : Int32)))] [(.int ((((((p0 - ((Jvm.Free.XT.ushr p0 (1 : Int32)) &&& (1431655765 : Int32))) &&& (858993459 : Int32)) + ((Jvm.Free.XT.ushr (p0 - ((Jvm.Free.XT.ushr p0 (1 : Int32)) &&& (1431655765 : Int32))) (2 : Int32)) &&& (858993459 : Int32))) + (Jvm.Free.XT.ushr (((p0 - ((Jvm.Free.XT.ushr p0 (1 : Int32)) &&& (1431655765 : Int32))) &&& (858993459 : Int32)) + ((Jvm.Free.XT.ushr (p0 - ((Jvm.Free.XT.ushr p0 (1 : Int32)) &&& (1431655765 : Int32))) (2 : Int32)) &&& (858993459 : Int32))) (4 : Int32))) &&& (252645135 : Int32)) + (Jvm.Free.XT.ushr (((((p0 - ((Jvm.Free.XT.ushr p0 (1 : Int32)) &&& (1431655765 : Int32))) &&& (858993459 : Int32)) + ((Jvm.Free.XT.ushr (p0 - ((Jvm.Free.XT.ushr p0 (1 : Int32)) &&& (1431655765 : Int32))) (2 : Int32)) &&& (858993459 : Int32))) + (Jvm.Free.XT.ushr (((p0 - ((Jvm.Free.XT.ushr p0 (1 : Int32)) &&& (1431655765 : Int32))) &&& (858993459 : Int32)) + ((Jvm.Free.XT.ushr (p0 - ((Jvm.Free.XT.ushr p0 (1 : Int32)) &&& (1431655765 : Int32))) (2 : Int32)) &&& (858993459 : Int32))) (4 : Int32))) &&& (252645135 : Int32)) (8 : Int32))))])) t
    refine XS.istoreN X0.here hx rfl (hb hby d16_40) rfl (l' := #[.val (.int ((((((p0 - ((Jvm.Free.XT.ushr p0 (1 : Int32)) &&& (1431655765 : Int32))) &&& (858993459 : Int32)) + ((Jvm.Free.XT.ushr (p0 - ((Jvm.Free.XT.ushr p0 (1 : Int32)) &&& (1431655765 : Int32))) (2 : Int32)) &&& (858993459 : Int32))) + (Jvm.Free.XT.ushr (((p0 - ((Jvm.Free.XT.ushr p0 (1 : Int32)) &&& (1431655765 : Int32))) &&& (858993459 : Int32)) + ((Jvm.Free.XT.ushr (p0 - ((Jvm.Free.XT.ushr p0 (1 : Int32)) &&& (1431655765 : Int32))) (2 : Int32)) &&& (858993459 : Int32))) (4 : Int32))) &&& (252645135 : Int32)) + (Jvm.Free.XT.ushr (((((p0 - ((Jvm.Free.XT.ushr p0 (1 : Int32)) &&& (1431655765 : Int32))) &&& (858993459 : Int32)) + ((Jvm.Free.XT.ushr (p0 - ((Jvm.Free.XT.ushr p0 (1 : Int32)) &&& (1431655765 : Int32))) (2 : Int32)) &&& (858993459 : Int32))) + (Jvm.Free.XT.ushr (((p0 - ((Jvm.Free.XT.ushr p0 (1 : Int32)) &&& (1431655765 : Int32))) &&& (858993459 : Int32)) + ((Jvm.Free.XT.ushr (p0 - ((Jvm.Free.XT.ushr p0 (1 : Int32)) &&& (1431655765 : Int32))) (2 : Int32)) &&& (858993459 : Int32))) (4 : Int32))) &&& (252645135 : Int32)) (8 : Int32))))]) rfl ?_
    show Steps p.tables e below (s₁.setTop (mkF m 41 #[.val (.int ((((((p0 - ((Jvm.Free.XT.ushr p0 (1 : Int32)) &&& (1431655765 : Int32))) &&& (858993459 : Int32)) + ((Jvm.Free.XT.ushr (p0 - ((Jvm.Free.XT.ushr p0 (1 : Int32)) &&& (1431655765 : Int32))) (2 : Int32)) &&& (858993459 : Int32))) + (Jvm.Free.XT.ushr (((p0 - ((Jvm.Free.XT.ushr p0 (1 : Int32)) &&& (1431655765 : Int32))) &&& (858993459 : Int32)) + ((Jvm.Free.XT.ushr (p0 - ((Jvm.Free.XT.ushr p0 (1 : Int32)) &&& (1431655765 : Int32))) (2 : Int32)) &&& (858993459 : Int32))) (4 : Int32))) &&& (252645135 : Int32)) + (Jvm.Free.XT.ushr (((((p0 - ((Jvm.Free.XT.ushr p0 (1 : Int32)) &&& (1431655765 : Int32))) &&& (858993459 : Int32)) + ((Jvm.Free.XT.ushr (p0 - ((Jvm.Free.XT.ushr p0 (1 : Int32)) &&& (1431655765 : Int32))) (2 : Int32)) &&& (858993459 : Int32))) + (Jvm.Free.XT.ushr (((p0 - ((Jvm.Free.XT.ushr p0 (1 : Int32)) &&& (1431655765 : Int32))) &&& (858993459 : Int32)) + ((Jvm.Free.XT.ushr (p0 - ((Jvm.Free.XT.ushr p0 (1 : Int32)) &&& (1431655765 : Int32))) (2 : Int32)) &&& (858993459 : Int32))) (4 : Int32))) &&& (252645135 : Int32)) (8 : Int32))))] [])) t
    refine XS.iloadN X0.here hx rfl (hb hby d16_41) rfl ?_
    show Steps p.tables e below (s₁.setTop (mkF m 42 #[.val (.int ((((((p0 - ((Jvm.Free.XT.ushr p0 (1 : Int32)) &&& (1431655765 : Int32))) &&& (858993459 : Int32)) + ((Jvm.Free.XT.ushr (p0 - ((Jvm.Free.XT.ushr p0 (1 : Int32)) &&& (1431655765 : Int32))) (2 : Int32)) &&& (858993459 : Int32))) + (Jvm.Free.XT.ushr (((p0 - ((Jvm.Free.XT.ushr p0 (1 : Int32)) &&& (1431655765 : Int32))) &&& (858993459 : Int32)) + ((Jvm.Free.XT.ushr (p0 - ((Jvm.Free.XT.ushr p0 (1 : Int32)) &&& (1431655765 : Int32))) (2 : Int32)) &&& (858993459 : Int32))) (4 : Int32))) &&& (252645135 : Int32)) + (Jvm.Free.XT.ushr (((((p0 - ((Jvm.Free.XT.ushr p0 (1 : Int32)) &&& (1431655765 : Int32))) &&& (858993459 : Int32)) + ((Jvm.Free.XT.ushr (p0 - ((Jvm.Free.XT.ushr p0 (1 : Int32)) &&& (1431655765 : Int32))) (2 : Int32)) &&& (858993459 : Int32))) + (Jvm.Free.XT.ushr (((p0 - ((Jvm.Free.XT.ushr p0 (1 : Int32)) &&& (1431655765 : Int32))) &&& (858993459 : Int32)) + ((Jvm.Free.XT.ushr (p0 - ((Jvm.Free.XT.ushr p0 (1 : Int32)) &&& (1431655765 : Int32))) (2 : Int32)) &&& (858993459 : Int32))) (4 : Int32))) &&& (252645135 : Int32)) (8 : Int32))))] [(.int ((((((p0 - ((Jvm.Free.XT.ushr p0 (1 : Int32)) &&& (1431655765 : Int32))) &&& (858993459 : Int32)) + ((Jvm.Free.XT.ushr (p0 - ((Jvm.Free.XT.ushr p0 (1 : Int32)) &&& (1431655765 : Int32))) (2 : Int32)) &&& (858993459 : Int32))) + (Jvm.Free.XT.ushr (((p0 - ((Jvm.Free.XT.ushr p0 (1 : Int32)) &&& (1431655765 : Int32))) &&& (858993459 : Int32)) + ((Jvm.Free.XT.ushr (p0 - ((Jvm.Free.XT.ushr p0 (1 : Int32)) &&& (1431655765 : Int32))) (2 : Int32)) &&& (858993459 : Int32))) (4 : Int32))) &&& (252645135 : Int32)) + (Jvm.Free.XT.ushr (((((p0 - ((Jvm.Free.XT.ushr p0 (1 : Int32)) &&& (1431655765 : Int32))) &&& (858993459 : Int32)) + ((Jvm.Free.XT.ushr (p0 - ((Jvm.Free.XT.ushr p0 (1 : Int32)) &&& (1431655765 : Int32))) (2 : Int32)) &&& (858993459 : Int32))) + (Jvm.Free.XT.ushr (((p0 - ((Jvm.Free.XT.ushr p0 (1 : Int32)) &&& (1431655765 : Int32))) &&& (858993459 : Int32)) + ((Jvm.Free.XT.ushr (p0 - ((Jvm.Free.XT.ushr p0 (1 : Int32)) &&& (1431655765 : Int32))) (2 : Int32)) &&& (858993459 : Int32))) (4 : Int32))) &&& (252645135 : Int32)) (8 : Int32))))])) t
    refine XS.iloadN X0.here hx rfl (hb hby d16_42) rfl ?_
    show Steps p.tables e below (s₁.setTop (mkF m 43 #[.val (.int ((((((p0 - ((Jvm.Free.XT.ushr p0 (1 : Int32)) &&& (1431655765 : Int32))) &&& (858993459 : Int32)) + ((Jvm.Free.XT.ushr (p0 - ((Jvm.Free.XT.ushr p0 (1 : Int32)) &&& (1431655765 : Int32))) (2 : Int32)) &&& (858993459 : Int32))) + (Jvm.Free.XT.ushr (((p0 - ((Jvm.Free.XT.ushr p0 (1 : Int32)) &&& (1431655765 : Int32))) &&& (858993459 : Int32)) + ((Jvm.Free.XT.ushr (p0 - ((Jvm.Free.XT.ushr p0 (1 : Int32)) &&& (1431655765 : Int32))) (2 : Int32)) &&& (858993459 : Int32))) (4 : Int32))) &&& (252645135 : Int32)) + (Jvm.Free.XT.ushr (((((p0 - ((Jvm.Free.XT.ushr p0 (1 : Int32)) &&& (1431655765 : Int32))) &&& (858993459 : Int32)) + ((Jvm.Free.XT.ushr (p0 - ((Jvm.Free.XT.ushr p0 (1 : Int32)) &&& (1431655765 : Int32))) (2 : Int32)) &&& (858993459 : Int32))) + (Jvm.Free.XT.ushr (((p0 - ((Jvm.Free.XT.ushr p0 (1 : Int32)) &&& (1431655765 : Int32))) &&& (858993459 : Int32)) + ((Jvm.Free.XT.ushr (p0 - ((Jvm.Free.XT.ushr p0 (1 : Int32)) &&& (1431655765 : Int32))) (2 : Int32)) &&& (858993459 : Int32))) (4 : Int32))) &&& (252645135 : Int32)) (8 : Int32))))] [(.int ((((((p0 - ((Jvm.Free.XT.ushr p0 (1 : Int32)) &&& (1431655765 : Int32))) &&& (858993459 : Int32)) + ((Jvm.Free.XT.ushr (p0 - ((Jvm.Free.XT.ushr p0 (1 : Int32)) &&& (1431655765 : Int32))) (2 : Int32)) &&& (858993459 : Int32))) + (Jvm.Free.XT.ushr (((p0 - ((Jvm.Free.XT.ushr p0 (1 : Int32)) &&& (1431655765 : Int32))) &&& (858993459 : Int32)) + ((Jvm.Free.XT.ushr (p0 - ((Jvm.Free.XT.ushr p0 (1 : Int32)) &&& (1431655765 : Int32))) (2 : Int32)) &&& (858993459 : Int32))) (4 : Int32))) &&& (252645135 : Int32)) + (Jvm.Free.XT.ushr (((((p0 - ((Jvm.Free.XT.ushr p0 (1 : Int32)) &&& (1431655765 : Int32))) &&& (858993459 : Int32)) + ((Jvm.Free.XT.ushr (p0 - ((Jvm.Free.XT.ushr p0 (1 : Int32)) &&& (1431655765 : Int32))) (2 : Int32)) &&& (858993459 : Int32))) + (Jvm.Free.XT.ushr (((p0 - ((Jvm.Free.XT.ushr p0 (1 : Int32)) &&& (1431655765 : Int32))) &&& (858993459 : Int32)) + ((Jvm.Free.XT.ushr (p0 - ((Jvm.Free.XT.ushr p0 (1 : Int32)) &&& (1431655765 : Int32))) (2 : Int32)) &&& (858993459 : Int32))) (4 : Int32))) &&& (252645135 : Int32)) (8 : Int32)))), (.int ((((((p0 - ((Jvm.Free.XT.ushr p0 (1 : Int32)) &&& (1431655765 : Int32))) &&& (858993459 : Int32)) + ((Jvm.Free.XT.ushr (p0 - ((Jvm.Free.XT.ushr p0 (1 : Int32)) &&& (1431655765 : Int32))) (2 : Int32)) &&& (858993459 : Int32))) + (Jvm.Free.XT.ushr (((p0 - ((Jvm.Free.XT.ushr p0 (1 : Int32)) &&& (1431655765 : Int32))) &&& (858993459 : Int32)) + ((Jvm.Free.XT.ushr (p0 - ((Jvm.Free.XT.ushr p0 (1 : Int32)) &&& (1431655765 : Int32))) (2 : Int32)) &&& (858993459 : Int32))) (4 : Int32))) &&& (252645135 : Int32)) + (Jvm.Free.XT.ushr (((((p0 - ((Jvm.Free.XT.ushr p0 (1 : Int32)) &&& (1431655765 : Int32))) &&& (858993459 : Int32)) + ((Jvm.Free.XT.ushr (p0 - ((Jvm.Free.XT.ushr p0 (1 : Int32)) &&& (1431655765 : Int32))) (2 : Int32)) &&& (858993459 : Int32))) + (Jvm.Free.XT.ushr (((p0 - ((Jvm.Free.XT.ushr p0 (1 : Int32)) &&& (1431655765 : Int32))) &&& (858993459 : Int32)) + ((Jvm.Free.XT.ushr (p0 - ((Jvm.Free.XT.ushr p0 (1 : Int32)) &&& (1431655765 : Int32))) (2 : Int32)) &&& (858993459 : Int32))) (4 : Int32))) &&& (252645135 : Int32)) (8 : Int32))))])) t
    refine XS.bipush X0.here hx rfl (hb hby d16_43) ?_
    show Steps p.tables e below (s₁.setTop (mkF m 45 #[.val (.int ((((((p0 - ((Jvm.Free.XT.ushr p0 (1 : Int32)) &&& (1431655765 : Int32))) &&& (858993459 : Int32)) + ((Jvm.Free.XT.ushr (p0 - ((Jvm.Free.XT.ushr p0 (1 : Int32)) &&& (1431655765 : Int32))) (2 : Int32)) &&& (858993459 : Int32))) + (Jvm.Free.XT.ushr (((p0 - ((Jvm.Free.XT.ushr p0 (1 : Int32)) &&& (1431655765 : Int32))) &&& (858993459 : Int32)) + ((Jvm.Free.XT.ushr (p0 - ((Jvm.Free.XT.ushr p0 (1 : Int32)) &&& (1431655765 : Int32))) (2 : Int32)) &&& (858993459 : Int32))) (4 : Int32))) &&& (252645135 : Int32)) + (Jvm.Free.XT.ushr (((((p0 - ((Jvm.Free.XT.ushr p0 (1 : Int32)) &&& (1431655765 : Int32))) &&& (858993459 : Int32)) + ((Jvm.Free.XT.ushr (p0 - ((Jvm.Free.XT.ushr p0 (1 : Int32)) &&& (1431655765 : Int32))) (2 : Int32)) &&& (858993459 : Int32))) + (Jvm.Free.XT.ushr (((p0 - ((Jvm.Free.XT.ushr p0 (1 : Int32)) &&& (1431655765 : Int32))) &&& (858993459 : Int32)) + ((Jvm.Free.XT.ushr (p0 - ((Jvm.Free.XT.ushr p0 (1 : Int32)) &&& (1431655765 : Int32))) (2 : Int32)) &&& (858993459 : Int32))) (4 : Int32))) &&& (252645135 : Int32)) (8 : Int32))))] [(.int (16 : Int32)), (.int ((((((p0 - ((Jvm.Free.XT.ushr p0 (1 : Int32)) &&& (1431655765 : Int32))) &&& (858993459 : Int32)) + ((Jvm.Free.XT.ushr (p0 - ((Jvm.Free.XT.ushr p0 (1 : Int32)) &&& (1431655765 : Int32))) (2 : Int32)) &&& (858993459 : Int32))) + (Jvm.Free.XT.ushr (((p0 - ((Jvm.Free.XT.ushr p0 (1 : Int32)) &&& (1431655765 : Int32))) &&& (858993459 : Int32)) + ((Jvm.Free.XT.ushr (p0 - ((Jvm.Free.XT.ushr p0 (1 : Int32)) &&& (1431655765 : Int32))) (2 : Int32)) &&& (858993459 : Int32))) (4 : Int32))) &&& (252645135 : Int32)) + (Jvm.Free.XT.ushr (((((p0 - ((Jvm.Free.XT.ushr p0 (1 : Int32)) &&& (1431655765 : Int32))) &&& (858993459 : Int32)) + ((Jvm.Free.XT.ushr (p0 - ((Jvm.Free.XT.ushr p0 (1 : Int32)) &&& (1431655765 : Int32))) (2 : Int32)) &&& (858993459 : Int32))) + (Jvm.Free.XT.ushr (((p0 - ((Jvm.Free.XT.ushr p0 (1 : Int32)) &&& (1431655765 : Int32))) &&& (858993459 : Int32)) + ((Jvm.Free.XT.ushr (p0 - ((Jvm.Free.XT.ushr p0 (1 : Int32)) &&& (1431655765 : Int32))) (2 : Int32)) &&& (858993459 : Int32))) (4 : Int32))) &&& (252645135 : Int32)) (8 : Int32)))), (.int ((((((p0 - ((Jvm.Free.XT.ushr p0 (1 : Int32)) &&& (1431655765 : Int32))) &&& (858993459 : Int32)) + ((Jvm.Free.XT.ushr (p0 - ((Jvm.Free.XT.ushr p0 (1 : Int32)) &&& (1431655765 : Int32))) (2 : Int32)) &&& (858993459 : Int32))) + (Jvm.Free.XT.ushr (((p0 - ((Jvm.Free.XT.ushr p0 (1 : Int32)) &&& (1431655765 : Int32))) &&& (858993459 : Int32)) + ((Jvm.Free.XT.ushr (p0 - ((Jvm.Free.XT.ushr p0 (1 : Int32)) &&& (1431655765 : Int32))) (2 : Int32)) &&& (858993459 : Int32))) (4 : Int32))) &&& (252645135 : Int32)) + (Jvm.Free.XT.ushr (((((p0 - ((Jvm.Free.XT.ushr p0 (1 : Int32)) &&& (1431655765 : Int32))) &&& (858993459 : Int32)) + ((Jvm.Free.XT.ushr (p0 - ((Jvm.Free.XT.ushr p0 (1 : Int32)) &&& (1431655765 : Int32))) (2 : Int32)) &&& (858993459 : Int32))) + (Jvm.Free.XT.ushr (((p0 - ((Jvm.Free.XT.ushr p0 (1 : Int32)) &&& (1431655765 : Int32))) &&& (858993459 : Int32)) + ((Jvm.Free.XT.ushr (p0 - ((Jvm.Free.XT.ushr p0 (1 : Int32)) &&& (1431655765 : Int32))) (2 : Int32)) &&& (858993459 : Int32))) (4 : Int32))) &&& (252645135 : Int32)) (8 : Int32))))])) t
    refine XS.iushr X0.here hx rfl (hb hby d16_45) rfl ?_
    show Steps p.tables e below (s₁.setTop (mkF m 46 #[.val (.int ((((((p0 - ((Jvm.Free.XT.ushr p0 (1 : Int32)) &&& (1431655765 : Int32))) &&& (858993459 : Int32)) + ((Jvm.Free.XT.ushr (p0 - ((Jvm.Free.XT.ushr p0 (1 : Int32)) &&& (1431655765 : Int32))) (2 : Int32)) &&& (858993459 : Int32))) + (Jvm.Free.XT.ushr (((p0 - ((Jvm.Free.XT.ushr p0 (1 : Int32)) &&& (1431655765 : Int32))) &&& (858993459 : Int32)) + ((Jvm.Free.XT.ushr (p0 - ((Jvm.Free.XT.ushr p0 (1 : Int32)) &&& (1431655765 : Int32))) (2 : Int32)) &&& (858993459 : Int32))) (4 : Int32))) &&& (252645135 : Int32)) + (Jvm.Free.XT.ushr (((((p0 - ((Jvm.Free.XT.ushr p0 (1 : Int32)) &&& (1431655765 : Int32))) &&& (858993459 : Int32)) + ((Jvm.Free.XT.ushr (p0 - ((Jvm.Free.XT.ushr p0 (1 : Int32)) &&& (1431655765 : Int32))) (2 : Int32)) &&& (858993459 : Int32))) + (Jvm.Free.XT.ushr (((p0 - ((Jvm.Free.XT.ushr p0 (1 : Int32)) &&& (1431655765 : Int32))) &&& (858993459 : Int32)) + ((Jvm.Free.XT.ushr (p0 - ((Jvm.Free.XT.ushr p0 (1 : Int32)) &&& (1431655765 : Int32))) (2 : Int32)) &&& (858993459 : Int32))) (4 : Int32))) &&& (252645135 : Int32)) (8 : Int32))))] [(.int (Jvm.Free.XT.ushr ((((((p0 - ((Jvm.Free.XT.ushr p0 (1 : Int32)) &&& (1431655765 : Int32))) &&& (858993459 : Int32)) + ((Jvm.Free.XT.ushr (p0 - ((Jvm.Free.XT.ushr p0 (1 : Int32)) &&& (1431655765 : Int32))) (2 : Int32)) &&& (858993459 : Int32))) + (Jvm.Free.XT.ushr (((p0 - ((Jvm.Free.XT.ushr p0 (1 : Int32)) &&& (1431655765 : Int32))) &&& (858993459 : Int32)) + ((Jvm.Free.XT.ushr (p0 - ((Jvm.Free.XT.ushr p0 (1 : Int32)) &&& (1431655765 : Int32))) (2 : Int32)) &&& (858993459 : Int32))) (4 : Int32))) &&& (252645135 : Int32)) + (Jvm.Free.XT.ushr (((((p0 - ((Jvm.Free.XT.ushr p0 (1 : Int32)) &&& (1431655765 : Int32))) &&& (858993459 : Int32)) + ((Jvm.Free.XT.ushr (p0 - ((Jvm.Free.XT.ushr p0 (1 : Int32)) &&& (1431655765 : Int32))) (2 : Int32)) &&& (858993459 : Int32))) + (Jvm.Free.XT.ushr (((p0 - ((Jvm.Free.XT.ushr p0 (1 : Int32)) &&& (1431655765 : Int32))) &&& (858993459 : Int32)) + ((Jvm.Free.XT.ushr (p0 - ((Jvm.Free.XT.ushr p0 (1 : Int32)) &&& (1431655765 : Int32))) (2 : Int32)) &&& (858993459 : Int32))) (4 : Int32))) &&& (252645135 : Int32)) (8 : Int32))) (16 : Int32))), (.int ((((((p0 - ((Jvm.Free.XT.ushr p0 (1 : Int32)) &&& (1431655765 : Int32))) &&& (858993459 : Int32)) + ((Jvm.Free.XT.ushr (p0 - ((Jvm.Free.XT.ushr p0 (1 : Int32)) &&& (1431655765 : Int32))) (2 : Int32)) &&& (858993459 : Int32))) + (Jvm.Free.XT.ushr (((p0 - ((Jvm.Free.XT.ushr p0 (1 : Int32)) &&& (1431655765 : Int32))) &&& (858993459 : Int32)) + ((Jvm.Free.XT.ushr (p0 - ((Jvm.Free.XT.ushr p0 (1 : Int32)) &&& (1431655765 : Int32))) (2 : Int32)) &&& (858993459 : Int32))) (4 : Int32))) &&& (252645135 : Int32)) + (Jvm.Free.XT.ushr (((((p0 - ((Jvm.Free.XT.ushr p0 (1 : Int32)) &&& (1431655765 : Int32))) &&& (858993459 : Int32)) + ((Jvm.Free.XT.ushr (p0 - ((Jvm.Free.XT.ushr p0 (1 : Int32)) &&& (1431655765 : Int32))) (2 : Int32)) &&& (858993459 : Int32))) + (Jvm.Free.XT.ushr (((p0 - ((Jvm.Free.XT.ushr p0 (1 : Int32)) &&& (1431655765 : Int32))) &&& (858993459 : Int32)) + ((Jvm.Free.XT.ushr (p0 - ((Jvm.Free.XT.ushr p0 (1 : Int32)) &&& (1431655765 : Int32))) (2 : Int32)) &&& (858993459 : Int32))) (4 : Int32))) &&& (252645135 : Int32)) (8 : Int32))))])) t
    refine XS.iadd X0.here hx rfl (hb hby d16_46) rfl ?_
    show Steps p.tables e below (s₁.setTop (mkF m 47 #[.val (.int ((((((p0 - ((Jvm.Free.XT.ushr p0 (1 : Int32)) &&& (1431655765 : Int32))) &&& (858993459 : Int32)) + ((Jvm.Free.XT.ushr (p0 - ((Jvm.Free.XT.ushr p0 (1 : Int32)) &&& (1431655765 : Int32))) (2 : Int32)) &&& (858993459 : Int32))) + (Jvm.Free.XT.ushr (((p0 - ((Jvm.Free.XT.ushr p0 (1 : Int32)) &&& (1431655765 : Int32))) &&& (858993459 : Int32)) + ((Jvm.Free.XT.ushr (p0 - ((Jvm.Free.XT.ushr p0 (1 : Int32)) &&& (1431655765 : Int32))) (2 : Int32)) &&& (858993459 : Int32))) (4 : Int32))) &&& (252645135 : Int32)) + (Jvm.Free.XT.ushr (((((p0 - ((Jvm.Free.XT.ushr p0 (1 : Int32)) &&& (1431655765 : Int32))) &&& (858993459 : Int32)) + ((Jvm.Free.XT.ushr (p0 - ((Jvm.Free.XT.ushr p0 (1 : Int32)) &&& (1431655765 : Int32))) (2 : Int32)) &&& (858993459 : Int32))) + (Jvm.Free.XT.ushr (((p0 - ((Jvm.Free.XT.ushr p0 (1 : Int32)) &&& (1431655765 : Int32))) &&& (858993459 : Int32)) + ((Jvm.Free.XT.ushr (p0 - ((Jvm.Free.XT.ushr p0 (1 : Int32)) &&& (1431655765 : Int32))) (2 : Int32)) &&& (858993459 : Int32))) (4 : Int32))) &&& (252645135 : Int32)) (8 : Int32))))] [(.int (((((((p0 - ((Jvm.Free.XT.ushr p0 (1 : Int32)) &&& (1431655765 : Int32))) &&& (858993459 : Int32)) + ((Jvm.Free.XT.ushr (p0 - ((Jvm.Free.XT.ushr p0 (1 : Int32)) &&& (1431655765 : Int32))) (2 : Int32)) &&& (858993459 : Int32))) + (Jvm.Free.XT.ushr (((p0 - ((Jvm.Free.XT.ushr p0 (1 : Int32)) &&& (1431655765 : Int32))) &&& (858993459 : Int32)) + ((Jvm.Free.XT.ushr (p0 - ((Jvm.Free.XT.ushr p0 (1 : Int32)) &&& (1431655765 : Int32))) (2 : Int32)) &&& (858993459 : Int32))) (4 : Int32))) &&& (252645135 : Int32)) + (Jvm.Free.XT.ushr (((((p0 - ((Jvm.Free.XT.ushr p0 (1 : Int32)) &&& (1431655765 : Int32))) &&& (858993459 : Int32)) + ((Jvm.Free.XT.ushr (p0 - ((Jvm.Free.XT.ushr p0 (1 : Int32)) &&& (1431655765 : Int32))) (2 : Int32)) &&& (858993459 : Int32))) + (Jvm.Free.XT.ushr (((p0 - ((Jvm.Free.XT.ushr p0 (1 : Int32)) &&& (1431655765 : Int32))) &&& (858993459 : Int32)) + ((Jvm.Free.XT.ushr (p0 - ((Jvm.Free.XT.ushr p0 (1 : Int32)) &&& (1431655765 : Int32))) (2 : Int32)) &&& (858993459 : Int32))) (4 : Int32))) &&& (252645135 : Int32)) (8 : Int32))) + (Jvm.Free.XT.ushr ((((((p0 - ((Jvm.Free.XT.ushr p0 (1 : Int32)) &&& (1431655765 : Int32))) &&& (858993459 : Int32)) + ((Jvm.Free.XT.ushr (p0 - ((Jvm.Free.XT.ushr p0 (1 : Int32)) &&& (1431655765 : Int32))) (2 : Int32)) &&& (858993459 : Int32))) + (Jvm.Free.XT.ushr (((p0 - ((Jvm.Free.XT.ushr p0 (1 : Int32)) &&& (1431655765 : Int32))) &&& (858993459 : Int32)) + ((Jvm.Free.XT.ushr (p0 - ((Jvm.Free.XT.ushr p0 (1 : Int32)) &&& (1431655765 : Int32))) (2 : Int32)) &&& (858993459 : Int32))) (4 : Int32))) &&& (252645135 : Int32)) + (Jvm.Free.XT.ushr (((((p0 - ((Jvm.Free.XT.ushr p0 (1 : Int32)) &&& (1431655765 : Int32))) &&& (858993459 : Int32)) + ((Jvm.Free.XT.ushr (p0 - ((Jvm.Free.XT.ushr p0 (1 : Int32)) &&& (1431655765 : Int32))) (2 : Int32)) &&& (858993459 : Int32))) + (Jvm.Free.XT.ushr (((p0 - ((Jvm.Free.XT.ushr p0 (1 : Int32)) &&& (1431655765 : Int32))) &&& (858993459 : Int32)) + ((Jvm.Free.XT.ushr (p0 - ((Jvm.Free.XT.ushr p0 (1 : Int32)) &&& (1431655765 : Int32))) (2 : Int32)) &&& (858993459 : Int32))) (4 : Int32))) &&& (252645135 : Int32)) (8 : Int32))) (16 : Int32))))])) t
    refine XS.istoreN X0.here hx rfl (hb hby d16_47) rfl (l' := #[.val (.int (((((((p0 - ((Jvm.Free.XT.ushr p0 (1 : Int32)) &&& (1431655765 : Int32))) &&& (858993459 : Int32)) + ((Jvm.Free.XT.ushr (p0 - ((Jvm.Free.XT.ushr p0 (1 : Int32)) &&& (1431655765 : Int32))) (2 : Int32)) &&& (858993459 : Int32))) + (Jvm.Free.XT.ushr (((p0 - ((Jvm.Free.XT.ushr p0 (1 : Int32)) &&& (1431655765 : Int32))) &&& (858993459 : Int32)) + ((Jvm.Free.XT.ushr (p0 - ((Jvm.Free.XT.ushr p0 (1 : Int32)) &&& (1431655765 : Int32))) (2 : Int32)) &&& (858993459 : Int32))) (4 : Int32))) &&& (252645135 : Int32)) + (Jvm.Free.XT.ushr (((((p0 - ((Jvm.Free.XT.ushr p0 (1 : Int32)) &&& (1431655765 : Int32))) &&& (858993459 : Int32)) + ((Jvm.Free.XT.ushr (p0 - ((Jvm.Free.XT.ushr p0 (1 : Int32)) &&& (1431655765 : Int32))) (2 : Int32)) &&& (858993459 : Int32))) + (Jvm.Free.XT.ushr (((p0 - ((Jvm.Free.XT.ushr p0 (1 : Int32)) &&& (1431655765 : Int32))) &&& (858993459 : Int32)) + ((Jvm.Free.XT.ushr (p0 - ((Jvm.Free.XT.ushr p0 (1 : Int32)) &&& (1431655765 : Int32))) (2 : Int32)) &&& (858993459 : Int32))) (4 : Int32))) &&& (252645135 : Int32)) (8 : Int32))) + (Jvm.Free.XT.ushr ((((((p0 - ((Jvm.Free.XT.ushr p0 (1 : Int32)) &&& (1431655765 : Int32))) &&& (858993459 : Int32)) + ((Jvm.Free.XT.ushr (p0 - ((Jvm.Free.XT.ushr p0 (1 : Int32)) &&& (1431655765 : Int32))) (2 : Int32)) &&& (858993459 : Int32))) + (Jvm.Free.XT.ushr (((p0 - ((Jvm.Free.XT.ushr p0 (1 : Int32)) &&& (1431655765 : Int32))) &&& (858993459 : Int32)) + ((Jvm.Free.XT.ushr (p0 - ((Jvm.Free.XT.ushr p0 (1 : Int32)) &&& (1431655765 : Int32))) (2 : Int32)) &&& (858993459 : Int32))) (4 : Int32))) &&& (252645135 : Int32)) + (Jvm.Free.XT.ushr (((((p0 - ((Jvm.Free.XT.ushr p0 (1 : Int32)) &&& (1431655765 : Int32))) &&& (858993459 : Int32)) + ((Jvm.Free.XT.ushr (p0 - ((Jvm.Free.XT.ushr p0 (1 : Int32)) &&& (1431655765 : Int32))) (2 : Int32)) &&& (858993459 : Int32))) + (Jvm.Free.XT.ushr (((p0 - ((Jvm.Free.XT.ushr p0 (1 : Int32)) &&& (1431655765 : Int32))) &&& (858993459 : Int32)) + ((Jvm.Free.XT.ushr (p0 - ((Jvm.Free.XT.ushr p0 (1 : Int32)) &&& (1431655765 : Int32))) (2 : Int32)) &&& (858993459 : Int32))) (4 : Int32))) &&& (252645135 : Int32)) (8 : Int32))) (16 : Int32))))]) rfl ?_
    show Steps p.tables e below (s₁.setTop (mkF m 48 #[.val (.int (((((((p0 - ((Jvm.Free.XT.ushr p0 (1 : Int32)) &&& (1431655765 : Int32))) &&& (858993459 : Int32)) + ((Jvm.Free.XT.ushr (p0 - ((Jvm.Free.XT.ushr p0 (1 : Int32)) &&& (1431655765 : Int32))) (2 : Int32)) &&& (858993459 : Int32))) + (Jvm.Free.XT.ushr (((p0 - ((Jvm.Free.XT.ushr p0 (1 : Int32)) &&& (1431655765 : Int32))) &&& (858993459 : Int32)) + ((Jvm.Free.XT.ushr (p0 - ((Jvm.Free.XT.ushr p0 (1 : Int32)) &&& (1431655765 : Int32))) (2 : Int32)) &&& (858993459 : Int32))) (4 : Int32))) &&& (252645135 : Int32)) + (Jvm.Free.XT.ushr (((((p0 - ((Jvm.Free.XT.ushr p0 (1 : Int32)) &&& (1431655765 : Int32))) &&& (858993459 : Int32)) + ((Jvm.Free.XT.ushr (p0 - ((Jvm.Free.XT.ushr p0 (1 : Int32)) &&& (1431655765 : Int32))) (2 : Int32)) &&& (858993459 : Int32))) + (Jvm.Free.XT.ushr (((p0 - ((Jvm.Free.XT.ushr p0 (1 : Int32)) &&& (1431655765 : Int32))) &&& (858993459 : Int32)) + ((Jvm.Free.XT.ushr (p0 - ((Jvm.Free.XT.ushr p0 (1 : Int32)) &&& (1431655765 : Int32))) (2 : Int32)) &&& (858993459 : Int32))) (4 : Int32))) &&& (252645135 : Int32)) (8 : Int32))) + (Jvm.Free.XT.ushr ((((((p0 - ((Jvm.Free.XT.ushr p0 (1 : Int32)) &&& (1431655765 : Int32))) &&& (858993459 : Int32)) + ((Jvm.Free.XT.ushr (p0 - ((Jvm.Free.XT.ushr p0 (1 : Int32)) &&& (1431655765 : Int32))) (2 : Int32)) &&& (858993459 : Int32))) + (Jvm.Free.XT.ushr (((p0 - ((Jvm.Free.XT.ushr p0 (1 : Int32)) &&& (1431655765 : Int32))) &&& (858993459 : Int32)) + ((Jvm.Free.XT.ushr (p0 - ((Jvm.Free.XT.ushr p0 (1 : Int32)) &&& (1431655765 : Int32))) (2 : Int32)) &&& (858993459 : Int32))) (4 : Int32))) &&& (252645135 : Int32)) + (Jvm.Free.XT.ushr (((((p0 - ((Jvm.Free.XT.ushr p0 (1 : Int32)) &&& (1431655765 : Int32))) &&& (858993459 : Int32)) + ((Jvm.Free.XT.ushr (p0 - ((Jvm.Free.XT.ushr p0 (1 : Int32)) &&& (1431655765 : Int32))) (2 : Int32)) &&& (858993459 : Int32))) + (Jvm.Free.XT.ushr (((p0 - ((Jvm.Free.XT.ushr p0 (1 : Int32)) &&& (1431655765 : Int32))) &&& (858993459 : Int32)) + ((Jvm.Free.XT.ushr (p0 - ((Jvm.Free.XT.ushr p0 (1 : Int32)) &&& (1431655765 : Int32))) (2 : Int32)) &&& (858993459 : Int32))) (4 : Int32))) &&& (252645135 : Int32)) (8 : Int32))) (16 : Int32))))] [])) t
    refine XS.iloadN X0.here hx rfl (hb hby d16_48) rfl ?_
    show Steps p.tables e below (s₁.setTop (mkF m 49 #[.val (.int (((((((p0 - ((Jvm.Free.XT.ushr p0 (1 : Int32)) &&& (1431655765 : Int32))) &&& (858993459 : Int32)) + ((Jvm.Free.XT.ushr (p0 - ((Jvm.Free.XT.ushr p0 (1 : Int32)) &&& (1431655765 : Int32))) (2 : Int32)) &&& (858993459 : Int32))) + (Jvm.Free.XT.ushr (((p0 - ((Jvm.Free.XT.ushr p0 (1 : Int32)) &&& (1431655765 : Int32))) &&& (858993459 : Int32)) + ((Jvm.Free.XT.ushr (p0 - ((Jvm.Free.XT.ushr p0 (1 : Int32)) &&& (1431655765 : Int32))) (2 : Int32)) &&& (858993459 : Int32))) (4 : Int32))) &&& (252645135 : Int32)) + (Jvm.Free.XT.ushr (((((p0 - ((Jvm.Free.XT.ushr p0 (1 : Int32)) &&& (1431655765 : Int32))) &&& (858993459 : Int32)) + ((Jvm.Free.XT.ushr (p0 - ((Jvm.Free.XT.ushr p0 (1 : Int32)) &&& (1431655765 : Int32))) (2 : Int32)) &&& (858993459 : Int32))) + (Jvm.Free.XT.ushr (((p0 - ((Jvm.Free.XT.ushr p0 (1 : Int32)) &&& (1431655765 : Int32))) &&& (858993459 : Int32)) + ((Jvm.Free.XT.ushr (p0 - ((Jvm.Free.XT.ushr p0 (1 : Int32)) &&& (1431655765 : Int32))) (2 : Int32)) &&& (858993459 : Int32))) (4 : Int32))) &&& (252645135 : Int32)) (8 : Int32))) + (Jvm.Free.XT.ushr ((((((p0 - ((Jvm.Free.XT.ushr p0 (1 : Int32)) &&& (1431655765 : Int32))) &&& (858993459 : Int32)) + ((Jvm.Free.XT.ushr (p0 - ((Jvm.Free.XT.ushr p0 (1 : Int32)) &&& (1431655765 : Int32))) (2 : Int32)) &&& (858993459 : Int32))) + (Jvm.Free.XT.ushr (((p0 - ((Jvm.Free.XT.ushr p0 (1 : Int32)) &&& (1431655765 : Int32))) &&& (858993459 : Int32)) + ((Jvm.Free.XT.ushr (p0 - ((Jvm.Free.XT.ushr p0 (1 : Int32)) &&& (1431655765 : Int32))) (2 : Int32)) &&& (858993459 : Int32))) (4 : Int32))) &&& (252645135 : Int32)) + (Jvm.Free.XT.ushr (((((p0 - ((Jvm.Free.XT.ushr p0 (1 : Int32)) &&& (1431655765 : Int32))) &&& (858993459 : Int32)) + ((Jvm.Free.XT.ushr (p0 - ((Jvm.Free.XT.ushr p0 (1 : Int32)) &&& (1431655765 : Int32))) (2 : Int32)) &&& (858993459 : Int32))) + (Jvm.Free.XT.ushr (((p0 - ((Jvm.Free.XT.ushr p0 (1 : Int32)) &&& (1431655765 : Int32))) &&& (858993459 : Int32)) + ((Jvm.Free.XT.ushr (p0 - ((Jvm.Free.XT.ushr p0 (1 : Int32)) &&& (1431655765 : Int32))) (2 : Int32)) &&& (858993459 : Int32))) (4 : Int32))) &&& (252645135 : Int32)) (8 : Int32))) (16 : Int32))))] [(.int (((((((p0 - ((Jvm.Free.XT.ushr p0 (1 : Int32)) &&& (1431655765 : Int32))) &&& (858993459 : Int32)) + ((Jvm.Free.XT.ushr (p0 - ((Jvm.Free.XT.ushr p0 (1 : Int32)) &&& (1431655765 : Int32))) (2 : Int32)) &&& (858993459 : Int32))) + (Jvm.Free.XT.ushr (((p0 - ((Jvm.Free.XT.ushr p0 (1 : Int32)) &&& (1431655765 : Int32))) &&& (858993459 : Int32)) + ((Jvm.Free.XT.ushr (p0 - ((Jvm.Free.XT.ushr p0 (1 : Int32)) &&& (1431655765 : Int32))) (2 : Int32)) &&& (858993459 : Int32))) (4 : Int32))) &&& (252645135 : Int32)) + (Jvm.Free.XT.ushr (((((p0 - ((Jvm.Free.XT.ushr p0 (1 : Int32)) &&& (1431655765 : Int32))) &&& (858993459 : Int32)) + ((Jvm.Free.XT.ushr (p0 - ((Jvm.Free.XT.ushr p0 (1 : Int32)) &&& (1431655765 : Int32))) (2 : Int32)) &&& (858993459 : Int32))) + (Jvm.Free.XT.ushr (((p0 - ((Jvm.Free.XT.ushr p0 (1 : Int32)) &&& (1431655765 : Int32))) &&& (858993459 : Int32)) + ((Jvm.Free.XT.ushr (p0 - ((Jvm.Free.XT.ushr p0 (1 : Int32)) &&& (1431655765 : Int32))) (2 : Int32)) &&& (858993459 : Int32))) (4 : Int32))) &&& (252645135 : Int32)) (8 : Int32))) + (Jvm.Free.XT.ushr ((((((p0 - ((Jvm.Free.XT.ushr p0 (1 : Int32)) &&& (1431655765 : Int32))) &&& (858993459 : Int32)) + ((Jvm.Free.XT.ushr (p0 - ((Jvm.Free.XT.ushr p0 (1 : Int32)) &&& (1431655765 : Int32))) (2 : Int32)) &&& (858993459 : Int32))) + (Jvm.Free.XT.ushr (((p0 - ((Jvm.Free.XT.ushr p0 (1 : Int32)) &&& (1431655765 : Int32))) &&& (858993459 : Int32)) + ((Jvm.Free.XT.ushr (p0 - ((Jvm.Free.XT.ushr p0 (1 : Int32)) &&& (1431655765 : Int32))) (2 : Int32)) &&& (858993459 : Int32))) (4 : Int32))) &&& (252645135 : Int32)) + (Jvm.Free.XT.ushr (((((p0 - ((Jvm.Free.XT.ushr p0 (1 : Int32)) &&& (1431655765 : Int32))) &&& (858993459 : Int32)) + ((Jvm.Free.XT.ushr (p0 - ((Jvm.Free.XT.ushr p0 (1 : Int32)) &&& (1431655765 : Int32))) (2 : Int32)) &&& (858993459 : Int32))) + (Jvm.Free.XT.ushr (((p0 - ((Jvm.Free.XT.ushr p0 (1 : Int32)) &&& (1431655765 : Int32))) &&& (858993459 : Int32)) + ((Jvm.Free.XT.ushr (p0 - ((Jvm.Free.XT.ushr p0 (1 : Int32)) &&& (1431655765 : Int32))) (2 : Int32)) &&& (858993459 : Int32))) (4 : Int32))) &&& (252645135 : Int32)) (8 : Int32))) (16 : Int32))))])) t
    refine XS.bipush X0.here hx rfl (hb hby d16_49) ?_
    show Steps p.tables e below (s₁.setTop (mkF m 51 #[.val (.int (((((((p0 - ((Jvm.Free.XT.ushr p0 (1 : Int32)) &&& (1431655765 : Int32))) &&& (858993459 : Int32)) + ((Jvm.Free.XT.ushr (p0 - ((Jvm.Free.XT.ushr p0 (1 : Int32)) &&& (1431655765 : Int32))) (2 : Int32)) &&& (858993459 : Int32))) + (Jvm.Free.XT.ushr (((p0 - ((Jvm.Free.XT.ushr p0 (1 : Int32)) &&& (1431655765 : Int32))) &&& (858993459 : Int32)) + ((Jvm.Free.XT.ushr (p0 - ((Jvm.Free.XT.ushr p0 (1 : Int32)) &&& (1431655765 : Int32))) (2 : Int32)) &&& (858993459 : Int32))) (4 : Int32))) &&& (252645135 : Int32)) + (Jvm.Free.XT.ushr (((((p0 - ((Jvm.Free.XT.ushr p0 (1 : Int32)) &&& (1431655765 : Int32))) &&& (858993459 : Int32)) + ((Jvm.Free.XT.ushr (p0 - ((Jvm.Free.XT.ushr p0 (1 : Int32)) &&& (1431655765 : Int32))) (2 : Int32)) &&& (858993459 : Int32))) + (Jvm.Free.XT.ushr (((p0 - ((Jvm.Free.XT.ushr p0 (1 : Int32)) &&& (1431655765 : Int32))) &&& (858993459 : Int32)) + ((Jvm.Free.XT.ushr (p0 - ((Jvm.Free.XT.ushr p0 (1 : Int32)) &&& (1431655765 : Int32))) (2 : Int32)) &&& (858993459 : Int32))) (4 : Int32))) &&& (252645135 : Int32)) (8 : Int32))) + (Jvm.Free.XT.ushr ((((((p0 - ((Jvm.Free.XT.ushr p0 (1 : Int32)) &&& (1431655765 : Int32))) &&& (858993459 : Int32)) + ((Jvm.Free.XT.ushr (p0 - ((Jvm.Free.XT.ushr p0 (1 : Int32)) &&& (1431655765 : Int32))) (2 : Int32)) &&& (858993459 : Int32))) + (Jvm.Free.XT.ushr (((p0 - ((Jvm.Free.XT.ushr p0 (1 : Int32)) &&& (1431655765 : Int32))) &&& (858993459 : Int32)) + ((Jvm.Free.XT.ushr (p0 - ((Jvm.Free.XT.ushr p0 (1 : Int32)) &&& (1431655765 : Int32))) (2 : Int32)) &&& (858993459 : Int32))) (4 : Int32))) &&& (252645135 : Int32)) + (Jvm.Free.XT.ushr (((((p0 - ((Jvm.Free.XT.ushr p0 (1 : Int32)) &&& (1431655765 : Int32))) &&& (858993459 : Int32)) + ((Jvm.Free.XT.ushr (p0 - ((Jvm.Free.XT.ushr p0 (1 : Int32)) &&& (1431655765 : Int32))) (2 : Int32)) &&& (858993459 : Int32))) + (Jvm.Free.XT.ushr (((p0 - ((Jvm.Free.XT.ushr p0 (1 : Int32)) &&& (1431655765 : Int32))) &&& (858993459 : Int32)) + ((Jvm.Free.XT.ushr (p0 - ((Jvm.Free.XT.ushr p0 (1 : Int32)) &&& (1431655765 : Int32))) (2 : Int32)) &&& (858993459 : Int32))) (4 : Int32))) &&& (252645135 : Int32)) (8 : Int32))) (16 : Int32))))] [(.int (63 : Int32)), (.int (((((((p0 - ((Jvm.Free.XT.ushr p0 (1 : Int32)) &&& (1431655765 : Int32))) &&& (858993459 : Int32)) + ((Jvm.Free.XT.ushr (p0 - ((Jvm.Free.XT.ushr p0 (1 : Int32)) &&& (1431655765 : Int32))) (2 : Int32)) &&& (858993459 : Int32))) + (Jvm.Free.XT.ushr (((p0 - ((Jvm.Free.XT.ushr p0 (1 : Int32)) &&& (1431655765 : Int32))) &&& (858993459 : Int32)) + ((Jvm.Free.XT.ushr (p0 - ((Jvm.Free.XT.ushr p0 (1 : Int32)) &&& (1431655765 : Int32))) (2 : Int32)) &&& (858993459 : Int32))) (4 : Int32))) &&& (252645135 : Int32)) + (Jvm.Free.XT.ushr (((((p0 - ((Jvm.Free.XT.ushr p0 (1 : Int32)) &&& (1431655765 : Int32))) &&& (858993459 : Int32)) + ((Jvm.Free.XT.ushr (p0 - ((Jvm.Free.XT.ushr p0 (1 : Int32)) &&& (1431655765 : Int32))) (2 : Int32)) &&& (858993459 : Int32))) + (Jvm.Free.XT.ushr (((p0 - ((Jvm.Free.XT.ushr p0 (1 : Int32)) &&& (1431655765 : Int32))) &&& (858993459 : Int32)) + ((Jvm.Free.XT.ushr (p0 - ((Jvm.Free.XT.ushr p0 (1 : Int32)) &&& (1431655765 : Int32))) (2 : Int32)) &&& (858993459 : Int32))) (4 : Int32))) &&& (252645135 : Int32)) (8 : Int32))) + (Jvm.Free.XT.ushr ((((((p0 - ((Jvm.Free.XT.ushr p0 (1 : Int32)) &&& (1431655765 : Int32))) &&& (858993459 : Int32)) + ((Jvm.Free.XT.ushr (p0 - ((Jvm.Free.XT.ushr p0 (1 : Int32)) &&& (1431655765 : Int32))) (2 : Int32)) &&& (858993459 : Int32))) + (Jvm.Free.XT.ushr (((p0 - ((Jvm.Free.XT.ushr p0 (1 : Int32)) &&& (1431655765 : Int32))) &&& (858993459 : Int32)) + ((Jvm.Free.XT.ushr (p0 - ((Jvm.Free.XT.ushr p0 (1 : Int32)) &&& (1431655765 : Int32))) (2 : Int32)) &&& (858993459 : Int32))) (4 : Int32))) &&& (252645135 : Int32)) + (Jvm.Free.XT.ushr (((((p0 - ((Jvm.Free.XT.ushr p0 (1 : Int32)) &&& (1431655765 : Int32))) &&& (858993459 : Int32)) + ((Jvm.Free.XT.ushr (p0 - ((Jvm.Free.XT.ushr p0 (1 : Int32)) &&& (1431655765 : Int32))) (2 : Int32)) &&& (858993459 : Int32))) + (Jvm.Free.XT.ushr (((p0 - ((Jvm.Free.XT.ushr p0 (1 : Int32)) &&& (1431655765 : Int32))) &&& (858993459 : Int32)) + ((Jvm.Free.XT.ushr (p0 - ((Jvm.Free.XT.ushr p0 (1 : Int32)) &&& (1431655765 : Int32))) (2 : Int32)) &&& (858993459 : Int32))) (4 : Int32))) &&& (252645135 : Int32)) (8 : Int32))) (16 : Int32))))])) t
    refine XS.iand X0.here hx rfl (hb hby d16_51) rfl ?_
    exact k
  obtain ⟨fs, hr, hrun, hended, hW, hsame⟩ := X0.leave (v := some (.int ((((((((p0 - ((Jvm.Free.XT.ushr p0 (1 : Int32)) &&& (1431655765 : Int32))) &&& (858993459 : Int32)) + ((Jvm.Free.XT.ushr (p0 - ((Jvm.Free.XT.ushr p0 (1 : Int32)) &&& (1431655765 : Int32))) (2 : Int32)) &&& (858993459 : Int32))) + (Jvm.Free.XT.ushr (((p0 - ((Jvm.Free.XT.ushr p0 (1 : Int32)) &&& (1431655765 : Int32))) &&& (858993459 : Int32)) + ((Jvm.Free.XT.ushr (p0 - ((Jvm.Free.XT.ushr p0 (1 : Int32)) &&& (1431655765 : Int32))) (2 : Int32)) &&& (858993459 : Int32))) (4 : Int32))) &&& (252645135 : Int32)) + (Jvm.Free.XT.ushr (((((p0 - ((Jvm.Free.XT.ushr p0 (1 : Int32)) &&& (1431655765 : Int32))) &&& (858993459 : Int32)) + ((Jvm.Free.XT.ushr (p0 - ((Jvm.Free.XT.ushr p0 (1 : Int32)) &&& (1431655765 : Int32))) (2 : Int32)) &&& (858993459 : Int32))) + (Jvm.Free.XT.ushr (((p0 - ((Jvm.Free.XT.ushr p0 (1 : Int32)) &&& (1431655765 : Int32))) &&& (858993459 : Int32)) + ((Jvm.Free.XT.ushr (p0 - ((Jvm.Free.XT.ushr p0 (1 : Int32)) &&& (1431655765 : Int32))) (2 : Int32)) &&& (858993459 : Int32))) (4 : Int32))) &&& (252645135 : Int32)) (8 : Int32))) + (Jvm.Free.XT.ushr ((((((p0 - ((Jvm.Free.XT.ushr p0 (1 : Int32)) &&& (1431655765 : Int32))) &&& (858993459 : Int32)) + ((Jvm.Free.XT.ushr (p0 - ((Jvm.Free.XT.ushr p0 (1 : Int32)) &&& (1431655765 : Int32))) (2 : Int32)) &&& (858993459 : Int32))) + (Jvm.Free.XT.ushr (((p0 - ((Jvm.Free.XT.ushr p0 (1 : Int32)) &&& (1431655765 : Int32))) &&& (858993459 : Int32)) + ((Jvm.Free.XT.ushr (p0 - ((Jvm.Free.XT.ushr p0 (1 : Int32)) &&& (1431655765 : Int32))) (2 : Int32)) &&& (858993459 : Int32))) (4 : Int32))) &&& (252645135 : Int32)) + (Jvm.Free.XT.ushr (((((p0 - ((Jvm.Free.XT.ushr p0 (1 : Int32)) &&& (1431655765 : Int32))) &&& (858993459 : Int32)) + ((Jvm.Free.XT.ushr (p0 - ((Jvm.Free.XT.ushr p0 (1 : Int32)) &&& (1431655765 : Int32))) (2 : Int32)) &&& (858993459 : Int32))) + (Jvm.Free.XT.ushr (((p0 - ((Jvm.Free.XT.ushr p0 (1 : Int32)) &&& (1431655765 : Int32))) &&& (858993459 : Int32)) + ((Jvm.Free.XT.ushr (p0 - ((Jvm.Free.XT.ushr p0 (1 : Int32)) &&& (1431655765 : Int32))) (2 : Int32)) &&& (858993459 : Int32))) (4 : Int32))) &&& (252645135 : Int32)) (8 : Int32))) (16 : Int32))) &&& (63 : Int32)))) (fun h => by rw [Bd.returns] at h; cases h)
  refine own_end (v := some (.int ((((((((p0 - ((Jvm.Free.XT.ushr p0 (1 : Int32)) &&& (1431655765 : Int32))) &&& (858993459 : Int32)) + ((Jvm.Free.XT.ushr (p0 - ((Jvm.Free.XT.ushr p0 (1 : Int32)) &&& (1431655765 : Int32))) (2 : Int32)) &&& (858993459 : Int32))) + (Jvm.Free.XT.ushr (((p0 - ((Jvm.Free.XT.ushr p0 (1 : Int32)) &&& (1431655765 : Int32))) &&& (858993459 : Int32)) + ((Jvm.Free.XT.ushr (p0 - ((Jvm.Free.XT.ushr p0 (1 : Int32)) &&& (1431655765 : Int32))) (2 : Int32)) &&& (858993459 : Int32))) (4 : Int32))) &&& (252645135 : Int32)) + (Jvm.Free.XT.ushr (((((p0 - ((Jvm.Free.XT.ushr p0 (1 : Int32)) &&& (1431655765 : Int32))) &&& (858993459 : Int32)) + ((Jvm.Free.XT.ushr (p0 - ((Jvm.Free.XT.ushr p0 (1 : Int32)) &&& (1431655765 : Int32))) (2 : Int32)) &&& (858993459 : Int32))) + (Jvm.Free.XT.ushr (((p0 - ((Jvm.Free.XT.ushr p0 (1 : Int32)) &&& (1431655765 : Int32))) &&& (858993459 : Int32)) + ((Jvm.Free.XT.ushr (p0 - ((Jvm.Free.XT.ushr p0 (1 : Int32)) &&& (1431655765 : Int32))) (2 : Int32)) &&& (858993459 : Int32))) (4 : Int32))) &&& (252645135 : Int32)) (8 : Int32))) + (Jvm.Free.XT.ushr ((((((p0 - ((Jvm.Free.XT.ushr p0 (1 : Int32)) &&& (1431655765 : Int32))) &&& (858993459 : Int32)) + ((Jvm.Free.XT.ushr (p0 - ((Jvm.Free.XT.ushr p0 (1 : Int32)) &&& (1431655765 : Int32))) (2 : Int32)) &&& (858993459 : Int32))) + (Jvm.Free.XT.ushr (((p0 - ((Jvm.Free.XT.ushr p0 (1 : Int32)) &&& (1431655765 : Int32))) &&& (858993459 : Int32)) + ((Jvm.Free.XT.ushr (p0 - ((Jvm.Free.XT.ushr p0 (1 : Int32)) &&& (1431655765 : Int32))) (2 : Int32)) &&& (858993459 : Int32))) (4 : Int32))) &&& (252645135 : Int32)) + (Jvm.Free.XT.ushr (((((p0 - ((Jvm.Free.XT.ushr p0 (1 : Int32)) &&& (1431655765 : Int32))) &&& (858993459 : Int32)) + ((Jvm.Free.XT.ushr (p0 - ((Jvm.Free.XT.ushr p0 (1 : Int32)) &&& (1431655765 : Int32))) (2 : Int32)) &&& (858993459 : Int32))) + (Jvm.Free.XT.ushr (((p0 - ((Jvm.Free.XT.ushr p0 (1 : Int32)) &&& (1431655765 : Int32))) &&& (858993459 : Int32)) + ((Jvm.Free.XT.ushr (p0 - ((Jvm.Free.XT.ushr p0 (1 : Int32)) &&& (1431655765 : Int32))) (2 : Int32)) &&& (858993459 : Int32))) (4 : Int32))) &&& (252645135 : Int32)) (8 : Int32))) (16 : Int32))) &&& (63 : Int32)))) ?_ hrun hended ?_ hW (hsame.mono (by decide) (by decide))
  · show Steps p.tables e below (s₁.setTop (mkF m 52 #[.val (.int (((((((p0 - ((Jvm.Free.XT.ushr p0 (1 : Int32)) &&& (1431655765 : Int32))) &&& (858993459 : Int32)) + ((Jvm.Free.XT.ushr (p0 - ((Jvm.Free.XT.ushr p0 (1 : Int32)) &&& (1431655765 : Int32))) (2 : Int32)) &&& (858993459 : Int32))) + (Jvm.Free.XT.ushr (((p0 - ((Jvm.Free.XT.ushr p0 (1 : Int32)) &&& (1431655765 : Int32))) &&& (858993459 : Int32)) + ((Jvm.Free.XT.ushr (p0 - ((Jvm.Free.XT.ushr p0 (1 : Int32)) &&& (1431655765 : Int32))) (2 : Int32)) &&& (858993459 : Int32))) (4 : Int32))) &&& (252645135 : Int32)) + (Jvm.Free.XT.ushr (((((p0 - ((Jvm.Free.XT.ushr p0 (1 : Int32)) &&& (1431655765 : Int32))) &&& (858993459 : Int32)) + ((Jvm.Free.XT.ushr (p0 - ((Jvm.Free.XT.ushr p0 (1 : Int32)) &&& (1431655765 : Int32))) (2 : Int32)) &&& (858993459 : Int32))) + (Jvm.Free.XT.ushr (((p0 - ((Jvm.Free.XT.ushr p0 (1 : Int32)) &&& (1431655765 : Int32))) &&& (858993459 : Int32)) + ((Jvm.Free.XT.ushr (p0 - ((Jvm.Free.XT.ushr p0 (1 : Int32)) &&& (1431655765 : Int32))) (2 : Int32)) &&& (858993459 : Int32))) (4 : Int32))) &&& (252645135 : Int32)) (8 : Int32))) + (Jvm.Free.XT.ushr ((((((p0 - ((Jvm.Free.XT.ushr p0 (1 : Int32)) &&& (1431655765 : Int32))) &&& (858993459 : Int32)) + ((Jvm.Free.XT.ushr (p0 - ((Jvm.Free.XT.ushr p0 (1 : Int32)) &&& (1431655765 : Int32))) (2 : Int32)) &&& (858993459 : Int32))) + (Jvm.Free.XT.ushr (((p0 - ((Jvm.Free.XT.ushr p0 (1 : Int32)) &&& (1431655765 : Int32))) &&& (858993459 : Int32)) + ((Jvm.Free.XT.ushr (p0 - ((Jvm.Free.XT.ushr p0 (1 : Int32)) &&& (1431655765 : Int32))) (2 : Int32)) &&& (858993459 : Int32))) (4 : Int32))) &&& (252645135 : Int32)) + (Jvm.Free.XT.ushr (((((p0 - ((Jvm.Free.XT.ushr p0 (1 : Int32)) &&& (1431655765 : Int32))) &&& (858993459 : Int32)) + ((Jvm.Free.XT.ushr (p0 - ((Jvm.Free.XT.ushr p0 (1 : Int32)) &&& (1431655765 : Int32))) (2 : Int32)) &&& (858993459 : Int32))) + (Jvm.Free.XT.ushr (((p0 - ((Jvm.Free.XT.ushr p0 (1 : Int32)) &&& (1431655765 : Int32))) &&& (858993459 : Int32)) + ((Jvm.Free.XT.ushr (p0 - ((Jvm.Free.XT.ushr p0 (1 : Int32)) &&& (1431655765 : Int32))) (2 : Int32)) &&& (858993459 : Int32))) (4 : Int32))) &&& (252645135 : Int32)) (8 : Int32))) (16 : Int32))))] [(.int ((((((((p0 - ((Jvm.Free.XT.ushr p0 (1 : Int32)) &&& (1431655765 : Int32))) &&& (858993459 : Int32)) + ((Jvm.Free.XT.ushr (p0 - ((Jvm.Free.XT.ushr p0 (1 : Int32)) &&& (1431655765 : Int32))) (2 : Int32)) &&& (858993459 : Int32))) + (Jvm.Free.XT.ushr (((p0 - ((Jvm.Free.XT.ushr p0 (1 : Int32)) &&& (1431655765 : Int32))) &&& (858993459 : Int32)) + ((Jvm.Free.XT.ushr (p0 - ((Jvm.Free.XT.ushr p0 (1 : Int32)) &&& (1431655765 : Int32))) (2 : Int32)) &&& (858993459 : Int32))) (4 : Int32))) &&& (252645135 : Int32)) + (Jvm.Free.XT.ushr (((((p0 - ((Jvm.Free.XT.ushr p0 (1 : Int32)) &&& (1431655765 : Int32))) &&& (858993459 : Int32)) + ((Jvm.Free.XT.ushr (p0 - ((Jvm.Free.XT.ushr p0 (1 : Int32)) &&& (1431655765 : Int32))) (2 : Int32)) &&& (858993459 : Int32))) + (Jvm.Free.XT.ushr (((p0 - ((Jvm.Free.XT.ushr p0 (1 : Int32)) &&& (1431655765 : Int32))) &&& (858993459 : Int32)) + ((Jvm.Free.XT.ushr (p0 - ((Jvm.Free.XT.ushr p0 (1 : Int32)) &&& (1431655765 : Int32))) (2 : Int32)) &&& (858993459 : Int32))) (4 : Int32))) &&& (252645135 : Int32)) (8 : Int32))) + (Jvm.Free.XT.ushr ((((((p0 - ((Jvm.Free.XT.ushr p0 (1 : Int32)) &&& (1431655765 : Int32))) &&& (858993459 : Int32)) + ((Jvm.Free.XT.ushr (p0 - ((Jvm.Free.XT.ushr p0 (1 : Int32)) &&& (1431655765 : Int32))) (2 : Int32)) &&& (858993459 : Int32))) + (Jvm.Free.XT.ushr (((p0 - ((Jvm.Free.XT.ushr p0 (1 : Int32)) &&& (1431655765 : Int32))) &&& (858993459 : Int32)) + ((Jvm.Free.XT.ushr (p0 - ((Jvm.Free.XT.ushr p0 (1 : Int32)) &&& (1431655765 : Int32))) (2 : Int32)) &&& (858993459 : Int32))) (4 : Int32))) &&& (252645135 : Int32)) + (Jvm.Free.XT.ushr (((((p0 - ((Jvm.Free.XT.ushr p0 (1 : Int32)) &&& (1431655765 : Int32))) &&& (858993459 : Int32)) + ((Jvm.Free.XT.ushr (p0 - ((Jvm.Free.XT.ushr p0 (1 : Int32)) &&& (1431655765 : Int32))) (2 : Int32)) &&& (858993459 : Int32))) + (Jvm.Free.XT.ushr (((p0 - ((Jvm.Free.XT.ushr p0 (1 : Int32)) &&& (1431655765 : Int32))) &&& (858993459 : Int32)) + ((Jvm.Free.XT.ushr (p0 - ((Jvm.Free.XT.ushr p0 (1 : Int32)) &&& (1431655765 : Int32))) (2 : Int32)) &&& (858993459 : Int32))) (4 : Int32))) &&& (252645135 : Int32)) (8 : Int32))) (16 : Int32))) &&& (63 : Int32)))])) _
    exact retI X0 hx Bd.returns (hb hby d16_52) hr
  · show QbitCount Z p0 h0 n0 _ s₁.heap _
    rw [e0]
    exact ⟨rfl, N0, rfl⟩
theorem d15_0 : decode prog_10_method_8_code 0 = .ok (.aload_n 0, 1) := by decide +kernel
theorem d15_1 : decode prog_10_method_8_code 1 = .ok (.getfield 7, 3) := by decide +kernel
theorem d15_4 : decode prog_10_method_8_code 4 = .ok (.invokestatic 61, 3) := by decide +kernel
theorem pd_163 : parseMethodDescriptor "(I)I" = some ⟨[.int], some .int⟩ := by decide +kernel
theorem d15_7 : decode prog_10_method_8_code 7 = .ok (.iconst 1, 1) := by decide +kernel
theorem d15_8 : decode prog_10_method_8_code 8 = .ok (.if_icmp .eq 20, 3) := by decide +kernel
theorem d15_28 : decode prog_10_method_8_code 28 = .ok (.aload_n 0, 1) := by decide +kernel
theorem d15_29 : decode prog_10_method_8_code 29 = .ok (.areturn, 1) := by decide +kernel
theorem ef_reqS (m : MethodId) (x0 : Addr) : entryFrame m #[(.ref x0)] 1 = mkF m 0 #[.val (.ref x0)] [] := by first | (simp [entryFrame, mkF, argsToLocals, Value.category]; done) | rfl
def QreqS (Z : State) (o0 : Addr) (w_o0_bits : Int32) (h0 : Heap) (n0 : Nat) (v : Option Value) (h : Heap) (L : List Loc) : Prop := v = some (.ref o0) ∧ Fr n0 L ∧ h = h0
set_option maxRecDepth 65536 in
set_option maxHeartbeats 40000000 in
theorem reqS (l : Launch) (Z : State) (a0 : Array Value) (hw : ∀ d ∈ tables_1, d.before a0 Z = true) (ws : List Jvm.Cond) (o0 : Addr) (w_o0_bits : Int32) (h0 : Heap) (n0 : Nat) (Z0 : n0 ≤ h0.size) (F_o0_bits : Fld Z h0 o0 "com/example/dropwire/dropwire/dnd/Actions" "bits" "I" (.int w_o0_bits)) (hc8 : (bitCount_r w_o0_bits) = (1 : Int32)) :
    MetFree l (⟨"com/example/dropwire/dropwire/dnd/Actions", "requireSingle", "()Lcom/example/dropwire/dropwire/dnd/Actions;"⟩ : MethodName) (head1 (Jvm.Cond.code (⟨"com/example/dropwire/dropwire/dnd/Actions", "requireSingle", "()Lcom/example/dropwire/dropwire/dnd/Actions;"⟩ : MethodName) prog_10_method_8_code 1 (some (.object "com/example/dropwire/dropwire/dnd/Actions")) :: ws) ({ frames := 1, cells := 0, slots := 0, locals := 12 } : Room)) (fun a U => a = #[(.ref o0)] ∧ Z.Warmed39 U.vm ∧ U.heap = h0) (fun _ _ _ _ _ => True) (fun _ U o U' => ∃ v L, o = .returned v ∧ QreqS Z o0 w_o0_bits h0 n0 v U'.heap L ∧ FrameEnd U o U' L ({ frames := 1, cells := 0, slots := 0, locals := 12 } : Room).cells ({ frames := 1, cells := 0, slots := 0, locals := 12 } : Room).slots) := by
  refine MetFree.of_bodySF (plainFor_of_name pn_102) hisR ?_
  intro p e s m args below meth c s₁ Bd hml0 hP hK
  obtain ⟨rfl, hZ, hh⟩ := hP
  have hx := Bd.exec
  have hby := Bd.bytes
  have hml : c.maxLocals = 1 := hml0
  have hown : s.vm.findClass "com/example/dropwire/dropwire/dnd/Actions" = some m.cls := findClass_of_methodNamed Bd.named
  have hnm := (name_of_methodNamed Bd.named Bd.method).1
  have X0 : Stand p l e ({ frames := 1, cells := 0, slots := 0, locals := 12 } : Room) s m #[(.ref o0)] below meth c s₁ [] 0 0 := Stand.of_body Bd
  have e0 : s₁.heap = h0 := by rw [← hh, Bd.state]; rfl
  have N0 := Fr.nil n0
  show own_Go p e below s (QreqS Z o0 w_o0_bits h0 n0) ({ frames := 1, cells := 0, slots := 0, locals := 12 } : Room).cells ({ frames := 1, cells := 0, slots := 0, locals := 12 } : Room).slots (s₁.setTop (entryFrame m #[(.ref o0)] 1))
  rw [ef_reqS m o0]
  have K0 : Keep h0 h0 [] := Keep.refl h0 []
  refine own_go (S' := s₁.setTop (mkF m 1 #[.val (.ref o0)] [(.ref o0)])) (fun t k => ?_) ?_
  · show Steps p.tables e below (s₁.setTop (mkF m 0 #[.val (.ref o0)] [])) t
    refine XS.aloadN X0.here hx rfl (hb hby d15_0) rfl rfl ?_
    exact k
  obtain ⟨T325, X325, e325, st325⟩ := getF X0 hx hZ hown (host := "") (Or.inl (hw _ (List.mem_of_getElem? (i := 80) rfl))) Via.refl e0 F_o0_bits (g := (mkF m 1 #[.val (.ref o0)] [(.ref o0)])) rfl rfl (hb hby d15_1)
  refine own_go st325 ?_
  obtain ⟨_, _, ⟨T326, L326, kk326, nn326⟩, -, X326, ⟨Lc326, hQ326, l326, y326, z326⟩, st326⟩ := Jvm.LawKit.callS X325 hx (y := (⟨"java/lang/Integer", "bitCount", "(I)I"⟩ : MethodName)) hown (mvT hZ (hw _ (List.mem_of_getElem? (i := 106) rfl))) (mvT hZ (hw _ (List.mem_of_getElem? (i := 107) rfl))) (mvT hZ (hw _ (List.mem_of_getElem? (i := 108) rfl))) (mvT hZ (hw _ (List.mem_of_getElem? (i := 109) rfl))) (by decide) (backOf (W := 0) (bitCount l Z a0 hw [] w_o0_bits h0 n0 Z0 ) hZ (hw _ (List.mem_of_getElem? (i := 109) rfl)) (hw _ (List.mem_of_getElem? (i := 108) rfl)) (by decide) (by decide)) (g := (mkF m 4 #[.val (.ref o0)] [(.int w_o0_bits)])) rfl (by rw [hml]; rfl) (argsL := [(.int w_o0_bits)]) (rest := []) (lenOf pd_163 rfl) rfl (by show 2 * 0 + _ ≤ _; exact Nat.le_of_eq rfl) (hb hby d15_4) (fun _ _ => ⟨rfl, e325, (by decide : 0 + 0 ≤ _), (by decide : 0 + 0 ≤ _)⟩)
  dsimp only [Pt.U, Pt.locs, Pt.cells, Pt.slots] at X326 l326 y326 z326 st326 hQ326
  subst l326 y326 z326
  obtain ⟨rfl, N327, e326⟩ := hQ326
  have N329 := Fr.app N0 N327
  refine own_go st326 ?_
  refine own_go (S' := T326.setTop (mkF m 29 #[.val (.ref o0)] [(.ref o0)])) (fun t k => ?_) ?_
  · show Steps p.tables e below (T326.setTop (mkF m 7 #[.val (.ref o0)] [(.int (bitCount_r w_o0_bits))])) t
    refine XS.iconst X326.here hx rfl (hb hby d15_7) ?_
    show Steps p.tables e below (T326.setTop (mkF m 8 #[.val (.ref o0)] [(.int (1 : Int32)), (.int (bitCount_r w_o0_bits))])) t
    refine XS.icmpYes X326.here hx rfl (pc0 := 8) (pc' := 28) rfl (hb hby d15_8) rfl (teq hc8).1 (by decide) (by decide) ?_
    show Steps p.tables e below (T326.setTop (mkF m 28 #[.val (.ref o0)] [])) t
    refine XS.aloadN X326.here hx rfl (hb hby d15_28) rfl rfl ?_
    exact k
  obtain ⟨fs, hr, hrun, hended, hW, hsame⟩ := X326.leave (v := some (.ref o0)) (fun h => by rw [Bd.returns] at h; cases h)
  refine own_end (v := some (.ref o0)) ?_ hrun hended ?_ hW (hsame.mono (by decide) (by decide))
  · show Steps p.tables e below (T326.setTop (mkF m 29 #[.val (.ref o0)] [(.ref o0)])) _
    jvm_step X326.here [X326.here.top, hx, (hb hby d15_29), X326.method', Bd.returns, Value.isRef, FieldType.isReference]
    first | (intro acts; rw [hr _ acts rfl rfl rfl]) | rw [hr _ _ rfl rfl rfl]
    exact Steps.refl _
  · show QreqS Z o0 w_o0_bits h0 n0 _ T326.heap _
    rw [e326]
    exact ⟨rfl, N329, rfl⟩
theorem d14_0 : decode prog_12_method_1_code 0 = .ok (.aload_n 0, 1) := by decide +kernel
theorem d14_1 : decode prog_12_method_1_code 1 = .ok (.invokespecial 1, 3) := by decide +kernel
theorem d14_4 : decode prog_12_method_1_code 4 = .ok (.aload_n 3, 1) := by decide +kernel
theorem d14_5 : decode prog_12_method_1_code 5 = .ok (.invokevirtual 7, 3) := by decide +kernel
theorem pd_172 : parseMethodDescriptor "()Lcom/example/dropwire/dropwire/dnd/Actions;" = some ⟨[], some (.object "com/example/dropwire/dropwire/dnd/Actions")⟩ := by decide +kernel
theorem d14_8 : decode prog_12_method_1_code 8 = .ok (.pop, 1) := by decide +kernel
theorem d14_9 : decode prog_12_method_1_code 9 = .ok (.aload_n 0, 1) := by decide +kernel
theorem d14_10 : decode prog_12_method_1_code 10 = .ok (.aload_n 1, 1) := by decide +kernel
theorem d14_11 : decode prog_12_method_1_code 11 = .ok (.putfield 13, 3) := by decide +kernel
theorem d14_14 : decode prog_12_method_1_code 14 = .ok (.aload_n 0, 1) := by decide +kernel
theorem d14_15 : decode prog_12_method_1_code 15 = .ok (.aload_n 2, 1) := by decide +kernel
theorem d14_16 : decode prog_12_method_1_code 16 = .ok (.putfield 19, 3) := by decide +kernel
theorem d14_19 : decode prog_12_method_1_code 19 = .ok (.aload_n 0, 1) := by decide +kernel
theorem d14_20 : decode prog_12_method_1_code 20 = .ok (.aload_n 3, 1) := by decide +kernel
theorem d14_21 : decode prog_12_method_1_code 21 = .ok (.putfield 23, 3) := by decide +kernel
theorem d14_24 : decode prog_12_method_1_code 24 = .ok (.return_, 1) := by decide +kernel
theorem pn_184 : plainName "com/example/dropwire/dropwire/dnd/DragGesture" = true := by first | (simp [plainName, overriddenIn]; done) | decide +kernel
theorem ef_dgInit (m : MethodId) (x0 : Addr) (x1 : Addr) (x2 : Addr) (x3 : Addr) : entryFrame m #[(.ref x0), (.ref x1), (.ref x2), (.ref x3)] 4 = mkF m 0 #[.val (.ref x0), .val (.ref x1), .val (.ref x2), .val (.ref x3)] [] := by first | (simp [entryFrame, mkF, argsToLocals, Value.category]; done) | rfl
def QdgInit (Z : State) (o0 : Addr) (o1 : Addr) (o2 : Addr) (o3 : Addr) (w_o3_bits : Int32) (w_o0_peer : Value) (w_o0_origin : Value) (w_o0_userAction : Value) (h0 : Heap) (n0 : Nat) (v : Option Value) (h : Heap) (L : List Loc) : Prop := v = none ∧ Fr n0 L ∧ Keep h0 h [o0] ∧ Exa Z h o0 "com/example/dropwire/dropwire/dnd/DragGesture" ∧ Fld Z h o0 "com/example/dropwire/dropwire/dnd/DragGesture" "peer" "Lcom/example/dropwire/dropwire/dnd/DragSourcePeer;" (.ref o1) ∧ Fld Z h o0 "com/example/dropwire/dropwire/dnd/DragGesture" "origin" "Lcom/example/dropwire/dropwire/dnd/Point;" (.ref o2) ∧ Fld Z h o0 "com/example/dropwire/dropwire/dnd/DragGesture" "userAction" "Lcom/example/dropwire/dropwire/dnd/Actions;" (.ref o3)
set_option maxRecDepth 65536 in
set_option maxHeartbeats 40000000 in
theorem dgInit (l : Launch) (Z : State) (a0 : Array Value) (hw : ∀ d ∈ tables_1, d.before a0 Z = true) (ws : List Jvm.Cond) (o0 : Addr) (o1 : Addr) (o2 : Addr) (o3 : Addr) (w_o3_bits : Int32) (w_o0_peer : Value) (w_o0_origin : Value) (w_o0_userAction : Value) (h0 : Heap) (n0 : Nat) (Z0 : n0 ≤ h0.size) (hc8 : (bitCount_r w_o3_bits) = (1 : Int32)) (F_o3_bits : Fld Z h0 o3 "com/example/dropwire/dropwire/dnd/Actions" "bits" "I" (.int w_o3_bits)) (E_o3 : Exa Z h0 o3 "com/example/dropwire/dropwire/dnd/Actions") (E_o0 : Exa Z h0 o0 "com/example/dropwire/dropwire/dnd/DragGesture") (F_o0_peer : Fld Z h0 o0 "com/example/dropwire/dropwire/dnd/DragGesture" "peer" "Lcom/example/dropwire/dropwire/dnd/DragSourcePeer;" w_o0_peer) (F_o0_origin : Fld Z h0 o0 "com/example/dropwire/dropwire/dnd/DragGesture" "origin" "Lcom/example/dropwire/dropwire/dnd/Point;" w_o0_origin) (F_o0_userAction : Fld Z h0 o0 "com/example/dropwire/dropwire/dnd/DragGesture" "userAction" "Lcom/example/dropwire/dropwire/dnd/Actions;" w_o0_userAction) (g_o0 : n0 ≤ o0) :
    MetFree l (⟨"com/example/dropwire/dropwire/dnd/DragGesture", "<init>", "(Lcom/example/dropwire/dropwire/dnd/DragSourcePeer;Lcom/example/dropwire/dropwire/dnd/Point;Lcom/example/dropwire/dropwire/dnd/Actions;)V"⟩ : MethodName) (head1 (Jvm.Cond.code (⟨"com/example/dropwire/dropwire/dnd/DragGesture", "<init>", "(Lcom/example/dropwire/dropwire/dnd/DragSourcePeer;Lcom/example/dropwire/dropwire/dnd/Point;Lcom/example/dropwire/dropwire/dnd/Actions;)V"⟩ : MethodName) prog_12_method_1_code 4 none :: ws) ({ frames := 2, cells := 0, slots := 0, locals := 24 } : Room)) (fun a U => a = #[(.ref o0), (.ref o1), (.ref o2), (.ref o3)] ∧ Z.Warmed39 U.vm ∧ U.heap = h0) (fun _ _ _ _ _ => True) (fun _ U o U' => ∃ v L, o = .returned v ∧ QdgInit Z o0 o1 o2 o3 w_o3_bits w_o0_peer w_o0_origin w_o0_userAction h0 n0 v U'.heap L ∧ FrameEnd U o U' L ({ frames := 2, cells := 0, slots := 0, locals := 24 } : Room).cells ({ frames := 2, cells := 0, slots := 0, locals := 24 } : Room).slots) := by
  refine MetFree.of_bodySF (plainFor_of_name pn_184) hisR ?_
  intro p e s m args below meth c s₁ Bd hml0 hP hK
  obtain ⟨rfl, hZ, hh⟩ := hP
  have hx := Bd.exec
  have hby := Bd.bytes
  have hml : c.maxLocals = 4 := hml0
  have hown : s.vm.findClass "com/example/dropwire/dropwire/dnd/DragGesture" = some m.cls := findClass_of_methodNamed Bd.named
  have hnm := (name_of_methodNamed Bd.named Bd.method).1
  have X0 : Stand p l e ({ frames := 2, cells := 0, slots := 0, locals := 24 } : Room) s m #[(.ref o0), (.ref o1), (.ref o2), (.ref o3)] below meth c s₁ [] 0 0 := Stand.of_body Bd
  have e0 : s₁.heap = h0 := by rw [← hh, Bd.state]; rfl
  have N0 := Fr.nil n0
  show own_Go p e below s (QdgInit Z o0 o1 o2 o3 w_o3_bits w_o0_peer w_o0_origin w_o0_userAction h0 n0) ({ frames := 2, cells := 0, slots := 0, locals := 24 } : Room).cells ({ frames := 2, cells := 0, slots := 0, locals := 24 } : Room).slots (s₁.setTop (entryFrame m #[(.ref o0), (.ref o1), (.ref o2), (.ref o3)] 4))
  rw [ef_dgInit m o0 o1 o2 o3]
  have K0 : Keep h0 h0 [o0] := Keep.refl h0 [o0]
  refine own_go (S' := s₁.setTop (mkF m 1 #[.val (.ref o0), .val (.ref o1), .val (.ref o2), .val (.ref o3)] [(.ref o0)])) (fun t k => ?_) ?_
  · show Steps p.tables e below (s₁.setTop (mkF m 0 #[.val (.ref o0), .val (.ref o1), .val (.ref o2), .val (.ref o3)] [])) t
    refine XS.aloadN X0.here hx rfl (hb hby d14_0) rfl rfl ?_
    exact k
  obtain ⟨_, _, ⟨T330, L330, kk330, nn330⟩, -, X330, ⟨Lc330, hQ330, l330, y330, z330⟩, st330⟩ := X0.specialBack hx (y := (⟨"java/lang/Record", "<init>", "()V"⟩ : MethodName)) rfl hown (mvT hZ (hw _ (List.mem_of_getElem? (i := 100) rfl))) (mvT hZ (hw _ (List.mem_of_getElem? (i := 44) rfl))) (mvT hZ (hw _ (List.mem_of_getElem? (i := 47) rfl))) (by decide) (backOf (W := 0) (recInit l Z a0 hw [] o0 h0 n0 Z0 ) hZ (hw _ (List.mem_of_getElem? (i := 47) rfl)) (hw _ (List.mem_of_getElem? (i := 46) rfl)) (by decide) (by decide)) (g := (mkF m 1 #[.val (.ref o0), .val (.ref o1), .val (.ref o2), .val (.ref o3)] [(.ref o0)])) rfl (by rw [hml]; rfl) (Steps.refl _) (a := o0) (argsL := []) (rest := []) (lenOf pd_6 rfl) rfl (by show 2 * 0 + _ ≤ _; exact Nat.le_of_eq rfl) (hb hby d14_1) (fun _ _ => ⟨rfl, e0, (by decide : 0 + 0 ≤ _), (by decide : 0 + 0 ≤ _)⟩)
  dsimp only [Pt.U, Pt.locs, Pt.cells, Pt.slots] at X330 l330 y330 z330 st330 hQ330
  subst l330 y330 z330
  obtain ⟨rfl, N331, e330⟩ := hQ330
  have N333 := Fr.app N0 N331
  refine own_goT st330 ?_
  refine own_go (S' := T330.setTop (mkF m 5 #[.val (.ref o0), .val (.ref o1), .val (.ref o2), .val (.ref o3)] [(.ref o3)])) (fun t k => ?_) ?_
  · show Steps p.tables e below (T330.setTop (mkF m 4 #[.val (.ref o0), .val (.ref o1), .val (.ref o2), .val (.ref o3)] [])) t
    refine XS.aloadN X330.here hx rfl (hb hby d14_4) rfl rfl ?_
    exact k
  obtain ⟨cq334, kq334, qa334, qb334, qc334⟩ := isOf hZ e330 E_o3
  obtain ⟨_, _, ⟨T334, L334, kk334, nn334⟩, -, X334, ⟨Lc334, hQ334, l334, y334, z334⟩, st334⟩ := X330.virtualBack hx (y := (⟨"com/example/dropwire/dropwire/dnd/Actions", "requireSingle", "()Lcom/example/dropwire/dropwire/dnd/Actions;"⟩ : MethodName)) (z := (⟨"com/example/dropwire/dropwire/dnd/Actions", "requireSingle", "()Lcom/example/dropwire/dropwire/dnd/Actions;"⟩ : MethodName)) hown (mvT hZ (hw _ (List.mem_of_getElem? (i := 101) rfl))) (mvT hZ (hw _ (List.mem_of_getElem? (i := 102) rfl))) (notFace_of_selects (args := #[]) (mvT hZ (hw _ (List.mem_of_getElem? (i := 104) rfl)))) (mvT hZ (hw _ (List.mem_of_getElem? (i := 104) rfl))) (mvT hZ (hw _ (List.mem_of_getElem? (i := 103) rfl))) (by decide) (backOf (W := 0) (reqS l Z a0 hw [] o3 w_o3_bits h0 n0 Z0 F_o3_bits (hc8 : (bitCount_r w_o3_bits) = (1 : Int32))) hZ (hw _ (List.mem_of_getElem? (i := 105) rfl)) (hw _ (List.mem_of_getElem? (i := 72) rfl)) (by decide) (by decide)) qa334 qc334 (g := (mkF m 5 #[.val (.ref o0), .val (.ref o1), .val (.ref o2), .val (.ref o3)] [(.ref o3)])) rfl (by rw [hml]; rfl) (Steps.refl _) (argsL := []) (rest := []) (lenOf pd_172 rfl) rfl (by show 2 * 0 + _ ≤ _; exact Nat.le_of_eq rfl) (hb hby d14_5) (fun _ _ => ⟨rfl, e330, (by decide : 0 + 0 ≤ _), (by decide : 0 + 0 ≤ _)⟩)
  dsimp only [Pt.U, Pt.locs, Pt.cells, Pt.slots] at X334 l334 y334 z334 st334 hQ334
  subst l334 y334 z334
  obtain ⟨rfl, N335, e334⟩ := hQ334
  have N337 := Fr.app N333 N335
  refine own_goT st334 ?_
  refine own_go (S' := T334.setTop (mkF m 11 #[.val (.ref o0), .val (.ref o1), .val (.ref o2), .val (.ref o3)] [(.ref o1), (.ref o0)])) (fun t k => ?_) ?_
  · show Steps p.tables e below (T334.setTop (mkF m 8 #[.val (.ref o0), .val (.ref o1), .val (.ref o2), .val (.ref o3)] [(.ref o3)])) t
    refine XS.pop X334.here hx rfl (hb hby d14_8) rfl rfl ?_
    show Steps p.tables e below (T334.setTop (mkF m 9 #[.val (.ref o0), .val (.ref o1), .val (.ref o2), .val (.ref o3)] [])) t
    refine XS.aloadN X334.here hx rfl (hb hby d14_9) rfl rfl ?_
    show Steps p.tables e below (T334.setTop (mkF m 10 #[.val (.ref o0), .val (.ref o1), .val (.ref o2), .val (.ref o3)] [(.ref o0)])) t
    refine XS.aloadN X334.here hx rfl (hb hby d14_10) rfl rfl ?_
    exact k
  obtain ⟨T338, h338, X338, e338, W338, st338⟩ := putF X334 hx hZ hown (host := "") (Or.inl (hw _ (List.mem_of_getElem? (i := 113) rfl))) Via.refl e334 F_o0_peer E_o0 (Or.inr ⟨(hw _ (List.mem_of_getElem? (i := 114) rfl)), rfl, hnm⟩) (hw _ (List.mem_of_getElem? (i := 95) rfl)) (ty := (.object "com/example/dropwire/dropwire/dnd/DragSourcePeer")) (by decide) rfl rfl (g := (mkF m 11 #[.val (.ref o0), .val (.ref o1), .val (.ref o2), .val (.ref o3)] [(.ref o1), (.ref o0)])) rfl rfl (hb hby d14_11)
  have f339 : Fld Z h338 o3 "com/example/dropwire/dropwire/dnd/Actions" "bits" "I" (.int w_o3_bits) := F_o3_bits.other W338 (Or.inl (ne_exa E_o3 E_o0 (by decide)))
  have f340 : Exa Z h338 o3 "com/example/dropwire/dropwire/dnd/Actions" := E_o3.wr W338
  have f341 : Exa Z h338 o0 "com/example/dropwire/dropwire/dnd/DragGesture" := E_o0.wr W338
  have f342 : Fld Z h338 o0 "com/example/dropwire/dropwire/dnd/DragGesture" "origin" "Lcom/example/dropwire/dropwire/dnd/Point;" w_o0_origin := F_o0_origin.other W338 (Or.inr (slot_ne (Or.inr (hw _ (List.mem_of_getElem? (i := 116) rfl))) (Or.inr (hw _ (List.mem_of_getElem? (i := 114) rfl))) (by decide) (t := (.object "com/example/dropwire/dropwire/dnd/Point")) (t' := (.object "com/example/dropwire/dropwire/dnd/DragSourcePeer")) (by decide) (by decide)))
  have f343 : Fld Z h338 o0 "com/example/dropwire/dropwire/dnd/DragGesture" "userAction" "Lcom/example/dropwire/dropwire/dnd/Actions;" w_o0_userAction := F_o0_userAction.other W338 (Or.inr (slot_ne (Or.inr (hw _ (List.mem_of_getElem? (i := 118) rfl))) (Or.inr (hw _ (List.mem_of_getElem? (i := 114) rfl))) (by decide) (t := (.object "com/example/dropwire/dropwire/dnd/Actions")) (t' := (.object "com/example/dropwire/dropwire/dnd/DragSourcePeer")) (by decide) (by decide)))
  have f344 : Fld Z h338 o0 "com/example/dropwire/dropwire/dnd/DragGesture" "peer" "Lcom/example/dropwire/dropwire/dnd/DragSourcePeer;" (.ref o1) := F_o0_peer.same W338
  have N345 := Fr.snoc X338 N337 g_o0
  have Z346 : n0 ≤ h338.size := Nat.le_trans Z0 (Keep.of_wr W338).1
  have K347 : Keep h0 h338 [o0] := K0.wr W338 (Or.inl (List.mem_of_getElem? (i := 0) rfl))
  refine own_go st338 ?_
  refine own_go (S' := T338.setTop (mkF m 16 #[.val (.ref o0), .val (.ref o1), .val (.ref o2), .val (.ref o3)] [(.ref o2), (.ref o0)])) (fun t k => ?_) ?_
  · show Steps p.tables e below (T338.setTop (mkF m 14 #[.val (.ref o0), .val (.ref o1), .val (.ref o2), .val (.ref o3)] [])) t
    refine XS.aloadN X338.here hx rfl (hb hby d14_14) rfl rfl ?_
    show Steps p.tables e below (T338.setTop (mkF m 15 #[.val (.ref o0), .val (.ref o1), .val (.ref o2), .val (.ref o3)] [(.ref o0)])) t
    refine XS.aloadN X338.here hx rfl (hb hby d14_15) rfl rfl ?_
    exact k
  obtain ⟨T348, h348, X348, e348, W348, st348⟩ := putF X338 hx hZ hown (host := "") (Or.inl (hw _ (List.mem_of_getElem? (i := 115) rfl))) Via.refl e338 f342 f341 (Or.inr ⟨(hw _ (List.mem_of_getElem? (i := 116) rfl)), rfl, hnm⟩) (hw _ (List.mem_of_getElem? (i := 95) rfl)) (ty := (.object "com/example/dropwire/dropwire/dnd/Point")) (by decide) rfl rfl (g := (mkF m 16 #[.val (.ref o0), .val (.ref o1), .val (.ref o2), .val (.ref o3)] [(.ref o2), (.ref o0)])) rfl rfl (hb hby d14_16)
  have f349 : Fld Z h348 o3 "com/example/dropwire/dropwire/dnd/Actions" "bits" "I" (.int w_o3_bits) := f339.other W348 (Or.inl (ne_exa f340 f341 (by decide)))
  have f350 : Exa Z h348 o3 "com/example/dropwire/dropwire/dnd/Actions" := f340.wr W348
  have f351 : Exa Z h348 o0 "com/example/dropwire/dropwire/dnd/DragGesture" := f341.wr W348
  have f352 : Fld Z h348 o0 "com/example/dropwire/dropwire/dnd/DragGesture" "userAction" "Lcom/example/dropwire/dropwire/dnd/Actions;" w_o0_userAction := f343.other W348 (Or.inr (slot_ne (Or.inr (hw _ (List.mem_of_getElem? (i := 118) rfl))) (Or.inr (hw _ (List.mem_of_getElem? (i := 116) rfl))) (by decide) (t := (.object "com/example/dropwire/dropwire/dnd/Actions")) (t' := (.object "com/example/dropwire/dropwire/dnd/Point")) (by decide) (by decide)))
  have f353 : Fld Z h348 o0 "com/example/dropwire/dropwire/dnd/DragGesture" "peer" "Lcom/example/dropwire/dropwire/dnd/DragSourcePeer;" (.ref o1) := f344.other W348 (Or.inr (slot_ne (Or.inr (hw _ (List.mem_of_getElem? (i := 114) rfl))) (Or.inr (hw _ (List.mem_of_getElem? (i := 116) rfl))) (by decide) (t := (.object "com/example/dropwire/dropwire/dnd/DragSourcePeer")) (t' := (.object "com/example/dropwire/dropwire/dnd/Point")) (by decide) (by decide)))
  have f354 : Fld Z h348 o0 "com/example/dropwire/dropwire/dnd/DragGesture" "origin" "Lcom/example/dropwire/dropwire/dnd/Point;" (.ref o2) := f342.same W348
  have N355 := Fr.snoc X348 N345 g_o0
  have Z356 : n0 ≤ h348.size := Nat.le_trans Z346 (Keep.of_wr W348).1
  have K357 : Keep h0 h348 [o0] := K347.wr W348 (Or.inl (List.mem_of_getElem? (i := 0) rfl))
  refine own_go st348 ?_
  refine own_go (S' := T348.setTop (mkF m 21 #[.val (.ref o0), .val (.ref o1), .val (.ref o2), .val (.ref o3)] [(.ref o3), (.ref o0)])) (fun t k => ?_) ?_
  · show Steps p.tables e below (T348.setTop (mkF m 19 #[.val (.ref o0), .val (.ref o1), .val (.ref o2), .val (.ref o3)] [])) t
    refine XS.aloadN X348.here hx rfl (hb hby d14_19) rfl rfl ?_
    show Steps p.tables e below (T348.setTop (mkF m 20 #[.val (.ref o0), .val (.ref o1), .val (.ref o2), .val (.ref o3)] [(.ref o0)])) t
    refine XS.aloadN X348.here hx rfl (hb hby d14_20) rfl rfl ?_
    exact k
  obtain ⟨T358, h358, X358, e358, W358, st358⟩ := putF X348 hx hZ hown (host := "") (Or.inl (hw _ (List.mem_of_getElem? (i := 117) rfl))) Via.refl e348 f352 f351 (Or.inr ⟨(hw _ (List.mem_of_getElem? (i := 118) rfl)), rfl, hnm⟩) (hw _ (List.mem_of_getElem? (i := 95) rfl)) (ty := (.object "com/example/dropwire/dropwire/dnd/Actions")) (by decide) rfl rfl (g := (mkF m 21 #[.val (.ref o0), .val (.ref o1), .val (.ref o2), .val (.ref o3)] [(.ref o3), (.ref o0)])) rfl rfl (hb hby d14_21)
  have f359 : Fld Z h358 o3 "com/example/dropwire/dropwire/dnd/Actions" "bits" "I" (.int w_o3_bits) := f349.other W358 (Or.inl (ne_exa f350 f351 (by decide)))
  have f360 : Exa Z h358 o3 "com/example/dropwire/dropwire/dnd/Actions" := f350.wr W358
  have f361 : Exa Z h358 o0 "com/example/dropwire/dropwire/dnd/DragGesture" := f351.wr W358
  have f362 : Fld Z h358 o0 "com/example/dropwire/dropwire/dnd/DragGesture" "peer" "Lcom/example/dropwire/dropwire/dnd/DragSourcePeer;" (.ref o1) := f353.other W358 (Or.inr (slot_ne (Or.inr (hw _ (List.mem_of_getElem? (i := 114) rfl))) (Or.inr (hw _ (List.mem_of_getElem? (i := 118) rfl))) (by decide) (t := (.object "com/example/dropwire/dropwire/dnd/DragSourcePeer")) (t' := (.object "com/example/dropwire/dropwire/dnd/Actions")) (by decide) (by decide)))
  have f363 : Fld Z h358 o0 "com/example/dropwire/dropwire/dnd/DragGesture" "origin" "Lcom/example/dropwire/dropwire/dnd/Point;" (.ref o2) := f354.other W358 (Or.inr (slot_ne (Or.inr (hw _ (List.mem_of_getElem? (i := 116) rfl))) (Or.inr (hw _ (List.mem_of_getElem? (i := 118) rfl))) (by decide) (t := (.object "com/example/dropwire/dropwire/dnd/Point")) (t' := (.object "com/example/dropwire/dropwire/dnd/Actions")) (by decide) (by decide)))
  have f364 : Fld Z h358 o0 "com/example/dropwire/dropwire/dnd/DragGesture" "userAction" "Lcom/example/dropwire/dropwire/dnd/Actions;" (.ref o3) := f352.same W358
  have N365 := Fr.snoc X358 N355 g_o0
  have Z366 : n0 ≤ h358.size := Nat.le_trans Z356 (Keep.of_wr W358).1
  have K367 : Keep h0 h358 [o0] := K357.wr W358 (Or.inl (List.mem_of_getElem? (i := 0) rfl))
  refine own_go st358 ?_
  obtain ⟨fs, hr, hrun, hended, hW, hsame⟩ := X358.leave (v := none) (fun _ => rfl)
  refine own_end (v := none) ?_ hrun hended ?_ hW (hsame.mono (by decide) (by decide))
  · show Steps p.tables e below (T358.setTop (mkF m 24 #[.val (.ref o0), .val (.ref o1), .val (.ref o2), .val (.ref o3)] [])) _
    exact X358.returnOut hx Bd.returns (hb hby d14_24) hr
  · show QdgInit Z o0 o1 o2 o3 w_o3_bits w_o0_peer w_o0_origin w_o0_userAction h0 n0 _ T358.heap _
    rw [e358]
    exact ⟨rfl, N365, K367, f361, f362, f363, f364⟩
theorem d13_0 : decode prog_44_method_3_code 0 = .ok (.new 39, 3) := by decide +kernel
theorem d13_3 : decode prog_44_method_3_code 3 = .ok (.dup, 1) := by decide +kernel
theorem d13_4 : decode prog_44_method_3_code 4 = .ok (.aload_n 0, 1) := by decide +kernel
theorem d13_5 : decode prog_44_method_3_code 5 = .ok (.aload_n 1, 1) := by decide +kernel
theorem d13_6 : decode prog_44_method_3_code 6 = .ok (.aload_n 2, 1) := by decide +kernel
theorem d13_7 : decode prog_44_method_3_code 7 = .ok (.invokespecial 41, 3) := by decide +kernel
theorem pd_191 : parseMethodDescriptor "(Lcom/example/dropwire/dropwire/dnd/DragSourcePeer;Lcom/example/dropwire/dropwire/dnd/Point;Lcom/example/dropwire/dropwire/dnd/Actions;)V" = some ⟨[(.object "com/example/dropwire/dropwire/dnd/DragSourcePeer"), (.object "com/example/dropwire/dropwire/dnd/Point"), (.object "com/example/dropwire/dropwire/dnd/Actions")], none⟩ := by decide +kernel
theorem d13_10 : decode prog_44_method_3_code 10 = .ok (.areturn, 1) := by decide +kernel
theorem ef_gest (m : MethodId) (x0 : Addr) (x1 : Addr) (x2 : Addr) : entryFrame m #[(.ref x0), (.ref x1), (.ref x2)] 3 = mkF m 0 #[.val (.ref x0), .val (.ref x1), .val (.ref x2)] [] := by first | (simp [entryFrame, mkF, argsToLocals, Value.category]; done) | rfl
def Qgest (Z : State) (o0 : Addr) (o1 : Addr) (o2 : Addr) (w_o2_bits : Int32) (h0 : Heap) (n0 : Nat) (v : Option Value) (h : Heap) (L : List Loc) : Prop := ∃ x0_ : Addr, v = some (.ref x0_) ∧ Fr n0 L ∧ Keep h0 h [] ∧ h0.size ≤ x0_ ∧ Exa Z h x0_ "com/example/dropwire/dropwire/dnd/DragGesture" ∧ Fld Z h x0_ "com/example/dropwire/dropwire/dnd/DragGesture" "peer" "Lcom/example/dropwire/dropwire/dnd/DragSourcePeer;" (.ref o0) ∧ Fld Z h x0_ "com/example/dropwire/dropwire/dnd/DragGesture" "origin" "Lcom/example/dropwire/dropwire/dnd/Point;" (.ref o1) ∧ Fld Z h x0_ "com/example/dropwire/dropwire/dnd/DragGesture" "userAction" "Lcom/example/dropwire/dropwire/dnd/Actions;" (.ref o2)
set_option maxRecDepth 65536 in
set_option maxHeartbeats 40000000 in
theorem gest (l : Launch) (Z : State) (a0 : Array Value) (hw : ∀ d ∈ tables_1, d.before a0 Z = true) (ws : List Jvm.Cond) (o0 : Addr) (o1 : Addr) (o2 : Addr) (w_o2_bits : Int32) (h0 : Heap) (n0 : Nat) (Z0 : n0 ≤ h0.size) (hc8 : (bitCount_r w_o2_bits) = (1 : Int32)) (F_o2_bits : Fld Z h0 o2 "com/example/dropwire/dropwire/dnd/Actions" "bits" "I" (.int w_o2_bits)) (E_o2 : Exa Z h0 o2 "com/example/dropwire/dropwire/dnd/Actions") :
    MetFree l (⟨"com/example/dropwire/dropwire/inprocess/InProcessPeer", "gesture", "(Lcom/example/dropwire/dropwire/dnd/Point;Lcom/example/dropwire/dropwire/dnd/Actions;)Lcom/example/dropwire/dropwire/dnd/DragGesture;"⟩ : MethodName) (head1 (Jvm.Cond.code (⟨"com/example/dropwire/dropwire/inprocess/InProcessPeer", "gesture", "(Lcom/example/dropwire/dropwire/dnd/Point;Lcom/example/dropwire/dropwire/dnd/Actions;)Lcom/example/dropwire/dropwire/dnd/DragGesture;"⟩ : MethodName) prog_44_method_3_code 3 (some (.object "com/example/dropwire/dropwire/dnd/DragGesture")) :: ws) ({ frames := 3, cells := 1, slots := 3, locals := 40 } : Room)) (fun a U => a = #[(.ref o0), (.ref o1), (.ref o2)] ∧ Z.Warmed39 U.vm ∧ U.heap = h0) (fun _ _ _ _ _ => True) (fun _ U o U' => ∃ v L, o = .returned v ∧ Qgest Z o0 o1 o2 w_o2_bits h0 n0 v U'.heap L ∧ FrameEnd U o U' L ({ frames := 3, cells := 1, slots := 3, locals := 40 } : Room).cells ({ frames := 3, cells := 1, slots := 3, locals := 40 } : Room).slots) := by
  refine MetFree.of_bodySF (plainFor_of_name pn_54) hisR ?_
  intro p e s m args below meth c s₁ Bd hml0 hP hK
  obtain ⟨rfl, hZ, hh⟩ := hP
  have hx := Bd.exec
  have hby := Bd.bytes
  have hml : c.maxLocals = 3 := hml0
  have hown : s.vm.findClass "com/example/dropwire/dropwire/inprocess/InProcessPeer" = some m.cls := findClass_of_methodNamed Bd.named
  have hnm := (name_of_methodNamed Bd.named Bd.method).1
  have X0 : Stand p l e ({ frames := 3, cells := 1, slots := 3, locals := 40 } : Room) s m #[(.ref o0), (.ref o1), (.ref o2)] below meth c s₁ [] 0 0 := Stand.of_body Bd
  have e0 : s₁.heap = h0 := by rw [← hh, Bd.state]; rfl
  have N0 := Fr.nil n0
  show own_Go p e below s (Qgest Z o0 o1 o2 w_o2_bits h0 n0) ({ frames := 3, cells := 1, slots := 3, locals := 40 } : Room).cells ({ frames := 3, cells := 1, slots := 3, locals := 40 } : Room).slots (s₁.setTop (entryFrame m #[(.ref o0), (.ref o1), (.ref o2)] 3))
  rw [ef_gest m o0 o1 o2]
  have K0 : Keep h0 h0 [] := Keep.refl h0 []
  obtain ⟨T368, h368, X368, e368, E368, A368, D368, -, st368⟩ := newO X0 hx hZ hown (hw _ (List.mem_of_getElem? (i := 94) rfl)) (hw _ (List.mem_of_getElem? (i := 95) rfl)) (hw _ (List.mem_of_getElem? (i := 96) rfl)) e0 (g := (mkF m 0 #[.val (.ref o0), .val (.ref o1), .val (.ref o2)] [])) rfl (hb hby d13_0) (by decide) (by decide)
  obtain ⟨b368, g368⟩ : ∃ z, z = h0.size := ⟨_, rfl⟩
  rw [← g368] at A368 D368 st368
  have ne369 : o2 ≠ b368 := Nat.ne_of_lt (Nat.lt_of_lt_of_le F_o2_bits.lt (Nat.le_of_eq g368.symm))
  have g_b368 : n0 ≤ b368 := Nat.le_trans Z0 (Nat.le_of_eq g368.symm)
  have sz_b368 : h0.size ≤ b368 := Nat.le_trans K0.1 (Nat.le_of_eq g368.symm)
  have K370 : Keep h0 h368 [] := K0.ext E368
  have Z371 : n0 ≤ h368.size := Nat.le_trans Z0 E368.1
  have f372 : Fld Z h368 o2 "com/example/dropwire/dropwire/dnd/Actions" "bits" "I" (.int w_o2_bits) := Fld.ext E368 F_o2_bits
  have f373 : Exa Z h368 o2 "com/example/dropwire/dropwire/dnd/Actions" := Exa.ext E368 E_o2
  have f374 : Fld Z h368 b368 "com/example/dropwire/dropwire/dnd/DragGesture" "peer" "Lcom/example/dropwire/dropwire/dnd/DragSourcePeer;" .null := D368 (Or.inr (hw _ (List.mem_of_getElem? (i := 114) rfl))) (ty := (.object "com/example/dropwire/dropwire/dnd/DragSourcePeer")) (by decide)
  have f375 : Fld Z h368 b368 "com/example/dropwire/dropwire/dnd/DragGesture" "origin" "Lcom/example/dropwire/dropwire/dnd/Point;" .null := D368 (Or.inr (hw _ (List.mem_of_getElem? (i := 116) rfl))) (ty := (.object "com/example/dropwire/dropwire/dnd/Point")) (by decide)
  have f376 : Fld Z h368 b368 "com/example/dropwire/dropwire/dnd/DragGesture" "userAction" "Lcom/example/dropwire/dropwire/dnd/Actions;" .null := D368 (Or.inr (hw _ (List.mem_of_getElem? (i := 118) rfl))) (ty := (.object "com/example/dropwire/dropwire/dnd/Actions")) (by decide)
  refine own_go st368 ?_
  refine own_go (S' := T368.setTop (mkF m 7 #[.val (.ref o0), .val (.ref o1), .val (.ref o2)] [(.ref o2), (.ref o1), (.ref o0), (.ref b368), (.ref b368)])) (fun t k => ?_) ?_
  · show Steps p.tables e below (T368.setTop (mkF m 3 #[.val (.ref o0), .val (.ref o1), .val (.ref o2)] [(.ref b368)])) t
    refine XS.dup X368.here hx rfl (hb hby d13_3) rfl rfl ?_
    show Steps p.tables e below (T368.setTop (mkF m 4 #[.val (.ref o0), .val (.ref o1), .val (.ref o2)] [(.ref b368), (.ref b368)])) t
    refine XS.aloadN X368.here hx rfl (hb hby d13_4) rfl rfl ?_
    show Steps p.tables e below (T368.setTop (mkF m 5 #[.val (.ref o0), .val (.ref o1), .val (.ref o2)] [(.ref o0), (.ref b368), (.ref b368)])) t
    refine XS.aloadN X368.here hx rfl (hb hby d13_5) rfl rfl ?_
    show Steps p.tables e below (T368.setTop (mkF m 6 #[.val (.ref o0), .val (.ref o1), .val (.ref o2)] [(.ref o1), (.ref o0), (.ref b368), (.ref b368)])) t
    refine XS.aloadN X368.here hx rfl (hb hby d13_6) rfl rfl ?_
    exact k
  obtain ⟨_, _, ⟨T377, L377, kk377, nn377⟩, -, X377, ⟨Lc377, hQ377, l377, y377, z377⟩, st377⟩ := X368.specialBack hx (y := (⟨"com/example/dropwire/dropwire/dnd/DragGesture", "<init>", "(Lcom/example/dropwire/dropwire/dnd/DragSourcePeer;Lcom/example/dropwire/dropwire/dnd/Point;Lcom/example/dropwire/dropwire/dnd/Actions;)V"⟩ : MethodName)) rfl hown (mvT hZ (hw _ (List.mem_of_getElem? (i := 97) rfl))) (mvT hZ (hw _ (List.mem_of_getElem? (i := 98) rfl))) (mvT hZ (hw _ (List.mem_of_getElem? (i := 99) rfl))) (by decide) (backOf (W := 1) (dgInit l Z a0 hw [] b368 o0 o1 o2 w_o2_bits (.null) (.null) (.null) h368 n0 Z371 (hc8 : (bitCount_r w_o2_bits) = (1 : Int32)) f372 f373 A368 f374 f375 f376 g_b368) hZ (hw _ (List.mem_of_getElem? (i := 99) rfl)) (hw _ (List.mem_of_getElem? (i := 96) rfl)) (by decide) (by decide)) (g := (mkF m 7 #[.val (.ref o0), .val (.ref o1), .val (.ref o2)] [(.ref o2), (.ref o1), (.ref o0), (.ref b368), (.ref b368)])) rfl (by rw [hml]; rfl) (Steps.refl _) (a := b368) (argsL := [(.ref o0), (.ref o1), (.ref o2)]) (rest := [(.ref b368)]) (lenOf pd_191 rfl) rfl (by show 2 * 0 + _ ≤ _; exact Nat.le_of_eq rfl) (hb hby d13_7) (fun _ _ => ⟨rfl, e368, (by decide : 1 + 0 ≤ _), (by decide : 3 + 0 ≤ _)⟩)
  dsimp only [Pt.U, Pt.locs, Pt.cells, Pt.slots] at X377 l377 y377 z377 st377 hQ377
  subst l377 y377 z377
  obtain ⟨rfl, N378, K379, p380, p381, p382, p383⟩ := hQ377
  have N384 := Fr.app N0 N378
  have f385 : Fld Z T377.heap o2 "com/example/dropwire/dropwire/dnd/Actions" "bits" "I" (.int w_o2_bits) := f372.keep K379 (ninS ne369 nin0)
  have f386 : Exa Z T377.heap o2 "com/example/dropwire/dropwire/dnd/Actions" := f373.keep K379
  have f387 : Exa Z T377.heap b368 "com/example/dropwire/dropwire/dnd/DragGesture" := A368.keep K379
  have Z388 : n0 ≤ T377.heap.size := Nat.le_trans Z371 K379.1
  have K389 : Keep h0 T377.heap [] := K370.trans K379 (allS (Or.inr sz_b368) all0)
  refine own_goT st377 ?_
  obtain ⟨fs, hr, hrun, hended, hW, hsame⟩ := X377.leave (v := some (.ref b368)) (fun h => by rw [Bd.returns] at h; cases h)
  refine own_end (v := some (.ref b368)) ?_ hrun hended ?_ hW (hsame.mono (by decide) (by decide))
  · show Steps p.tables e below (T377.setTop (mkF m 10 #[.val (.ref o0), .val (.ref o1), .val (.ref o2)] [(.ref b368)])) _
    jvm_step X377.here [X377.here.top, hx, (hb hby d13_10), X377.method', Bd.returns, Value.isRef, FieldType.isReference]
    first | (intro acts; rw [hr _ acts rfl rfl rfl]) | rw [hr _ _ rfl rfl rfl]
    exact Steps.refl _
  · show Qgest Z o0 o1 o2 w_o2_bits h0 n0 _ T377.heap _
    exact ⟨b368, rfl, N384, K389, sz_b368, p380, p381, p382, p383⟩
theorem d18_0 : decode prog_12_method_7_code 0 = .ok (.aload_n 0, 1) := by decide +kernel
theorem d18_1 : decode prog_12_method_7_code 1 = .ok (.getfield 23, 3) := by decide +kernel
theorem d18_4 : decode prog_12_method_7_code 4 = .ok (.areturn, 1) := by decide +kernel
theorem ef_dgUA (m : MethodId) (x0 : Addr) : entryFrame m #[(.ref x0)] 1 = mkF m 0 #[.val (.ref x0)] [] := by first | (simp [entryFrame, mkF, argsToLocals, Value.category]; done) | rfl
def QdgUA (Z : State) (o0 : Addr) (w_o0_userAction : Addr) (h0 : Heap) (n0 : Nat) (v : Option Value) (h : Heap) (L : List Loc) : Prop := v = some (.ref w_o0_userAction) ∧ Fr n0 L ∧ h = h0
set_option maxRecDepth 65536 in
set_option maxHeartbeats 40000000 in
theorem dgUA (l : Launch) (Z : State) (a0 : Array Value) (hw : ∀ d ∈ tables_1, d.before a0 Z = true) (ws : List Jvm.Cond) (o0 : Addr) (w_o0_userAction : Addr) (h0 : Heap) (n0 : Nat) (Z0 : n0 ≤ h0.size) (F_o0_userAction : Fld Z h0 o0 "com/example/dropwire/dropwire/dnd/DragGesture" "userAction" "Lcom/example/dropwire/dropwire/dnd/Actions;" (.ref w_o0_userAction)) :
    MetFree l (⟨"com/example/dropwire/dropwire/dnd/DragGesture", "userAction", "()Lcom/example/dropwire/dropwire/dnd/Actions;"⟩ : MethodName) (head1 (Jvm.Cond.code (⟨"com/example/dropwire/dropwire/dnd/DragGesture", "userAction", "()Lcom/example/dropwire/dropwire/dnd/Actions;"⟩ : MethodName) prog_12_method_7_code 1 (some (.object "com/example/dropwire/dropwire/dnd/Actions")) :: ws) ({ frames := 0, cells := 0, slots := 0, locals := 0 } : Room)) (fun a U => a = #[(.ref o0)] ∧ Z.Warmed39 U.vm ∧ U.heap = h0) (fun _ _ _ _ _ => True) (fun _ U o U' => ∃ v L, o = .returned v ∧ QdgUA Z o0 w_o0_userAction h0 n0 v U'.heap L ∧ FrameEnd U o U' L ({ frames := 0, cells := 0, slots := 0, locals := 0 } : Room).cells ({ frames := 0, cells := 0, slots := 0, locals := 0 } : Room).slots) := by
  refine MetFree.of_bodySF (plainFor_of_name pn_184) hisR ?_
  intro p e s m args below meth c s₁ Bd hml0 hP hK
  obtain ⟨rfl, hZ, hh⟩ := hP
  have hx := Bd.exec
  have hby := Bd.bytes
  have hml : c.maxLocals = 1 := hml0
  have hown : s.vm.findClass "com/example/dropwire/dropwire/dnd/DragGesture" = some m.cls := findClass_of_methodNamed Bd.named
  have hnm := (name_of_methodNamed Bd.named Bd.method).1
  have X0 : Stand p l e ({ frames := 0, cells := 0, slots := 0, locals := 0 } : Room) s m #[(.ref o0)] below meth c s₁ [] 0 0 := Stand.of_body Bd
  have e0 : s₁.heap = h0 := by rw [← hh, Bd.state]; rfl
  have N0 := Fr.nil n0
  show own_Go p e below s (QdgUA Z o0 w_o0_userAction h0 n0) ({ frames := 0, cells := 0, slots := 0, locals := 0 } : Room).cells ({ frames := 0, cells := 0, slots := 0, locals := 0 } : Room).slots (s₁.setTop (entryFrame m #[(.ref o0)] 1))
  rw [ef_dgUA m o0]
  have K0 : Keep h0 h0 [] := Keep.refl h0 []
  refine own_go (S' := s₁.setTop (mkF m 1 #[.val (.ref o0)] [(.ref o0)])) (fun t k => ?_) ?_
  · show Steps p.tables e below (s₁.setTop (mkF m 0 #[.val (.ref o0)] [])) t
    refine XS.aloadN X0.here hx rfl (hb hby d18_0) rfl rfl ?_
    exact k
  obtain ⟨T390, X390, e390, st390⟩ := getF X0 hx hZ hown (host := "") (Or.inl (hw _ (List.mem_of_getElem? (i := 117) rfl))) Via.refl e0 F_o0_userAction (g := (mkF m 1 #[.val (.ref o0)] [(.ref o0)])) rfl rfl (hb hby d18_1)
  refine own_go st390 ?_
  obtain ⟨fs, hr, hrun, hended, hW, hsame⟩ := X390.leave (v := some (.ref w_o0_userAction)) (fun h => by rw [Bd.returns] at h; cases h)
  refine own_end (v := some (.ref w_o0_userAction)) ?_ hrun hended ?_ hW (hsame.mono (by decide) (by decide))
  · show Steps p.tables e below (T390.setTop (mkF m 4 #[.val (.ref o0)] [(.ref w_o0_userAction)])) _
    jvm_step X390.here [X390.here.top, hx, (hb hby d18_4), X390.method', Bd.returns, Value.isRef, FieldType.isReference]
    first | (intro acts; rw [hr _ acts rfl rfl rfl]) | rw [hr _ _ rfl rfl rfl]
    exact Steps.refl _
  · show QdgUA Z o0 w_o0_userAction h0 n0 _ T390.heap _
    rw [e390]
    exact ⟨rfl, N0, rfl⟩
theorem d20_0 : decode prog_12_method_5_code 0 = .ok (.aload_n 0, 1) := by decide +kernel
theorem d20_1 : decode prog_12_method_5_code 1 = .ok (.getfield 13, 3) := by decide +kernel
theorem d20_4 : decode prog_12_method_5_code 4 = .ok (.areturn, 1) := by decide +kernel
theorem ef_dgPeer (m : MethodId) (x0 : Addr) : entryFrame m #[(.ref x0)] 1 = mkF m 0 #[.val (.ref x0)] [] := by first | (simp [entryFrame, mkF, argsToLocals, Value.category]; done) | rfl
def QdgPeer (Z : State) (o0 : Addr) (w_o0_peer : Addr) (h0 : Heap) (n0 : Nat) (v : Option Value) (h : Heap) (L : List Loc) : Prop := v = some (.ref w_o0_peer) ∧ Fr n0 L ∧ h = h0
set_option maxRecDepth 65536 in
set_option maxHeartbeats 40000000 in
theorem dgPeer (l : Launch) (Z : State) (a0 : Array Value) (hw : ∀ d ∈ tables_1, d.before a0 Z = true) (ws : List Jvm.Cond) (o0 : Addr) (w_o0_peer : Addr) (h0 : Heap) (n0 : Nat) (Z0 : n0 ≤ h0.size) (F_o0_peer : Fld Z h0 o0 "com/example/dropwire/dropwire/dnd/DragGesture" "peer" "Lcom/example/dropwire/dropwire/dnd/DragSourcePeer;" (.ref w_o0_peer)) :
    MetFree l (⟨"com/example/dropwire/dropwire/dnd/DragGesture", "peer", "()Lcom/example/dropwire/dropwire/dnd/DragSourcePeer;"⟩ : MethodName) (head1 (Jvm.Cond.code (⟨"com/example/dropwire/dropwire/dnd/DragGesture", "peer", "()Lcom/example/dropwire/dropwire/dnd/DragSourcePeer;"⟩ : MethodName) prog_12_method_5_code 1 (some (.object "com/example/dropwire/dropwire/dnd/DragSourcePeer")) :: ws) ({ frames := 0, cells := 0, slots := 0, locals := 0 } : Room)) (fun a U => a = #[(.ref o0)] ∧ Z.Warmed39 U.vm ∧ U.heap = h0) (fun _ _ _ _ _ => True) (fun _ U o U' => ∃ v L, o = .returned v ∧ QdgPeer Z o0 w_o0_peer h0 n0 v U'.heap L ∧ FrameEnd U o U' L ({ frames := 0, cells := 0, slots := 0, locals := 0 } : Room).cells ({ frames := 0, cells := 0, slots := 0, locals := 0 } : Room).slots) := by
  refine MetFree.of_bodySF (plainFor_of_name pn_184) hisR ?_
  intro p e s m args below meth c s₁ Bd hml0 hP hK
  obtain ⟨rfl, hZ, hh⟩ := hP
  have hx := Bd.exec
  have hby := Bd.bytes
  have hml : c.maxLocals = 1 := hml0
  have hown : s.vm.findClass "com/example/dropwire/dropwire/dnd/DragGesture" = some m.cls := findClass_of_methodNamed Bd.named
  have hnm := (name_of_methodNamed Bd.named Bd.method).1
  have X0 : Stand p l e ({ frames := 0, cells := 0, slots := 0, locals := 0 } : Room) s m #[(.ref o0)] below meth c s₁ [] 0 0 := Stand.of_body Bd
  have e0 : s₁.heap = h0 := by rw [← hh, Bd.state]; rfl
  have N0 := Fr.nil n0
  show own_Go p e below s (QdgPeer Z o0 w_o0_peer h0 n0) ({ frames := 0, cells := 0, slots := 0, locals := 0 } : Room).cells ({ frames := 0, cells := 0, slots := 0, locals := 0 } : Room).slots (s₁.setTop (entryFrame m #[(.ref o0)] 1))
  rw [ef_dgPeer m o0]
  have K0 : Keep h0 h0 [] := Keep.refl h0 []
  refine own_go (S' := s₁.setTop (mkF m 1 #[.val (.ref o0)] [(.ref o0)])) (fun t k => ?_) ?_
  · show Steps p.tables e below (s₁.setTop (mkF m 0 #[.val (.ref o0)] [])) t
    refine XS.aloadN X0.here hx rfl (hb hby d20_0) rfl rfl ?_
    exact k
  obtain ⟨T391, X391, e391, st391⟩ := getF X0 hx hZ hown (host := "") (Or.inl (hw _ (List.mem_of_getElem? (i := 113) rfl))) Via.refl e0 F_o0_peer (g := (mkF m 1 #[.val (.ref o0)] [(.ref o0)])) rfl rfl (hb hby d20_1)
  refine own_go st391 ?_
  obtain ⟨fs, hr, hrun, hended, hW, hsame⟩ := X391.leave (v := some (.ref w_o0_peer)) (fun h => by rw [Bd.returns] at h; cases h)
  refine own_end (v := some (.ref w_o0_peer)) ?_ hrun hended ?_ hW (hsame.mono (by decide) (by decide))
  · show Steps p.tables e below (T391.setTop (mkF m 4 #[.val (.ref o0)] [(.ref w_o0_peer)])) _
    jvm_step X391.here [X391.here.top, hx, (hb hby d20_4), X391.method', Bd.returns, Value.isRef, FieldType.isReference]
    first | (intro acts; rw [hr _ acts rfl rfl rfl]) | rw [hr _ _ rfl rfl rfl]
    exact Steps.refl _
  · show QdgPeer Z o0 w_o0_peer h0 n0 _ T391.heap _
    rw [e391]
    exact ⟨rfl, N0, rfl⟩
theorem d21_0 : decode prog_12_method_6_code 0 = .ok (.aload_n 0, 1) := by decide +kernel
theorem d21_1 : decode prog_12_method_6_code 1 = .ok (.getfield 19, 3) := by decide +kernel
theorem d21_4 : decode prog_12_method_6_code 4 = .ok (.areturn, 1) := by decide +kernel
theorem ef_dgOrigin (m : MethodId) (x0 : Addr) : entryFrame m #[(.ref x0)] 1 = mkF m 0 #[.val (.ref x0)] [] := by first | (simp [entryFrame, mkF, argsToLocals, Value.category]; done) | rfl
def QdgOrigin (Z : State) (o0 : Addr) (w_o0_origin : Addr) (h0 : Heap) (n0 : Nat) (v : Option Value) (h : Heap) (L : List Loc) : Prop := v = some (.ref w_o0_origin) ∧ Fr n0 L ∧ h = h0
set_option maxRecDepth 65536 in
set_option maxHeartbeats 40000000 in
theorem dgOrigin (l : Launch) (Z : State) (a0 : Array Value) (hw : ∀ d ∈ tables_1, d.before a0 Z = true) (ws : List Jvm.Cond) (o0 : Addr) (w_o0_origin : Addr) (h0 : Heap) (n0 : Nat) (Z0 : n0 ≤ h0.size) (F_o0_origin : Fld Z h0 o0 "com/example/dropwire/dropwire/dnd/DragGesture" "origin" "Lcom/example/dropwire/dropwire/dnd/Point;" (.ref w_o0_origin)) :
    MetFree l (⟨"com/example/dropwire/dropwire/dnd/DragGesture", "origin", "()Lcom/example/dropwire/dropwire/dnd/Point;"⟩ : MethodName) (head1 (Jvm.Cond.code (⟨"com/example/dropwire/dropwire/dnd/DragGesture", "origin", "()Lcom/example/dropwire/dropwire/dnd/Point;"⟩ : MethodName) prog_12_method_6_code 1 (some (.object "com/example/dropwire/dropwire/dnd/Point")) :: ws) ({ frames := 0, cells := 0, slots := 0, locals := 0 } : Room)) (fun a U => a = #[(.ref o0)] ∧ Z.Warmed39 U.vm ∧ U.heap = h0) (fun _ _ _ _ _ => True) (fun _ U o U' => ∃ v L, o = .returned v ∧ QdgOrigin Z o0 w_o0_origin h0 n0 v U'.heap L ∧ FrameEnd U o U' L ({ frames := 0, cells := 0, slots := 0, locals := 0 } : Room).cells ({ frames := 0, cells := 0, slots := 0, locals := 0 } : Room).slots) := by
  refine MetFree.of_bodySF (plainFor_of_name pn_184) hisR ?_
  intro p e s m args below meth c s₁ Bd hml0 hP hK
  obtain ⟨rfl, hZ, hh⟩ := hP
  have hx := Bd.exec
  have hby := Bd.bytes
  have hml : c.maxLocals = 1 := hml0
  have hown : s.vm.findClass "com/example/dropwire/dropwire/dnd/DragGesture" = some m.cls := findClass_of_methodNamed Bd.named
  have hnm := (name_of_methodNamed Bd.named Bd.method).1
  have X0 : Stand p l e ({ frames := 0, cells := 0, slots := 0, locals := 0 } : Room) s m #[(.ref o0)] below meth c s₁ [] 0 0 := Stand.of_body Bd
  have e0 : s₁.heap = h0 := by rw [← hh, Bd.state]; rfl
  have N0 := Fr.nil n0
  show own_Go p e below s (QdgOrigin Z o0 w_o0_origin h0 n0) ({ frames := 0, cells := 0, slots := 0, locals := 0 } : Room).cells ({ frames := 0, cells := 0, slots := 0, locals := 0 } : Room).slots (s₁.setTop (entryFrame m #[(.ref o0)] 1))
  rw [ef_dgOrigin m o0]
  have K0 : Keep h0 h0 [] := Keep.refl h0 []
  refine own_go (S' := s₁.setTop (mkF m 1 #[.val (.ref o0)] [(.ref o0)])) (fun t k => ?_) ?_
  · show Steps p.tables e below (s₁.setTop (mkF m 0 #[.val (.ref o0)] [])) t
    refine XS.aloadN X0.here hx rfl (hb hby d21_0) rfl rfl ?_
    exact k
  obtain ⟨T392, X392, e392, st392⟩ := getF X0 hx hZ hown (host := "") (Or.inl (hw _ (List.mem_of_getElem? (i := 115) rfl))) Via.refl e0 F_o0_origin (g := (mkF m 1 #[.val (.ref o0)] [(.ref o0)])) rfl rfl (hb hby d21_1)
  refine own_go st392 ?_
  obtain ⟨fs, hr, hrun, hended, hW, hsame⟩ := X392.leave (v := some (.ref w_o0_origin)) (fun h => by rw [Bd.returns] at h; cases h)
  refine own_end (v := some (.ref w_o0_origin)) ?_ hrun hended ?_ hW (hsame.mono (by decide) (by decide))
  · show Steps p.tables e below (T392.setTop (mkF m 4 #[.val (.ref o0)] [(.ref w_o0_origin)])) _
    jvm_step X392.here [X392.here.top, hx, (hb hby d21_4), X392.method', Bd.returns, Value.isRef, FieldType.isReference]
    first | (intro acts; rw [hr _ acts rfl rfl rfl]) | rw [hr _ _ rfl rfl rfl]
    exact Steps.refl _
  · show QdgOrigin Z o0 w_o0_origin h0 n0 _ T392.heap _
    rw [e392]
    exact ⟨rfl, N0, rfl⟩
theorem d19_0 : decode prog_17_method_1_code 0 = .ok (.aload_n 0, 1) := by decide +kernel
theorem d19_1 : decode prog_17_method_1_code 1 = .ok (.invokespecial 1, 3) := by decide +kernel
theorem d19_4 : decode prog_17_method_1_code 4 = .ok (.aload_n 0, 1) := by decide +kernel
theorem d19_5 : decode prog_17_method_1_code 5 = .ok (.getstatic 7, 3) := by decide +kernel
theorem d19_8 : decode prog_17_method_1_code 8 = .ok (.putfield 13, 3) := by decide +kernel
theorem d19_11 : decode prog_17_method_1_code 11 = .ok (.aload_n 0, 1) := by decide +kernel
theorem d19_12 : decode prog_17_method_1_code 12 = .ok (.aload_n 1, 1) := by decide +kernel
theorem d19_13 : decode prog_17_method_1_code 13 = .ok (.putfield 18, 3) := by decide +kernel
theorem d19_16 : decode prog_17_method_1_code 16 = .ok (.aload_n 0, 1) := by decide +kernel
theorem d19_17 : decode prog_17_method_1_code 17 = .ok (.aload_n 2, 1) := by decide +kernel
theorem d19_18 : decode prog_17_method_1_code 18 = .ok (.putfield 22, 3) := by decide +kernel
theorem d19_21 : decode prog_17_method_1_code 21 = .ok (.aload_n 0, 1) := by decide +kernel
theorem d19_22 : decode prog_17_method_1_code 22 = .ok (.aload_n 3, 1) := by decide +kernel
theorem d19_23 : decode prog_17_method_1_code 23 = .ok (.putfield 26, 3) := by decide +kernel
theorem d19_26 : decode prog_17_method_1_code 26 = .ok (.aload_n 0, 1) := by decide +kernel
theorem d19_27 : decode prog_17_method_1_code 27 = .ok (.aload 4, 2) := by decide +kernel
theorem d19_29 : decode prog_17_method_1_code 29 = .ok (.putfield 29, 3) := by decide +kernel
theorem d19_32 : decode prog_17_method_1_code 32 = .ok (.aload_n 0, 1) := by decide +kernel
theorem d19_33 : decode prog_17_method_1_code 33 = .ok (.aload 5, 2) := by decide +kernel
theorem d19_35 : decode prog_17_method_1_code 35 = .ok (.putfield 32, 3) := by decide +kernel
theorem d19_38 : decode prog_17_method_1_code 38 = .ok (.return_, 1) := by decide +kernel
theorem pn_223 : plainName "com/example/dropwire/dropwire/dnd/DragSourceContext" = true := by first | (simp [plainName, overriddenIn]; done) | decide +kernel
theorem ef_dscInit (m : MethodId) (x0 : Addr) (x1 : Addr) (x3 : Addr) (x4 : Addr) : entryFrame m #[(.ref x0), (.ref x1), .null, (.ref x3), (.ref x4), .null] 6 = mkF m 0 #[.val (.ref x0), .val (.ref x1), .val .null, .val (.ref x3), .val (.ref x4), .val .null] [] := by first | (simp [entryFrame, mkF, argsToLocals, Value.category]; done) | rfl
def QdscInit (Z : State) (o0 : Addr) (o1 : Addr) (o3 : Addr) (o4 : Addr) (w_s_NONE : Addr) (w_o0_acceptedAction : Value) (w_o0_dragSource : Value) (w_o0_transferable : Value) (w_o0_sourceActions : Value) (w_o0_userAction : Value) (w_o0_listener : Value) (h0 : Heap) (n0 : Nat) (v : Option Value) (h : Heap) (L : List Loc) : Prop := v = none ∧ Fr n0 L ∧ Keep h0 h [o0] ∧ Exa Z h o0 "com/example/dropwire/dropwire/dnd/DragSourceContext" ∧ Fld Z h o0 "com/example/dropwire/dropwire/dnd/DragSourceContext" "acceptedAction" "Lcom/example/dropwire/dropwire/dnd/Actions;" (.ref w_s_NONE) ∧ Fld Z h o0 "com/example/dropwire/dropwire/dnd/DragSourceContext" "dragSource" "Lcom/example/dropwire/dropwire/dnd/DragSource;" (.ref o1) ∧ Fld Z h o0 "com/example/dropwire/dropwire/dnd/DragSourceContext" "transferable" "Lcom/example/dropwire/dropwire/transfer/Transferable;" .null ∧ Fld Z h o0 "com/example/dropwire/dropwire/dnd/DragSourceContext" "sourceActions" "Lcom/example/dropwire/dropwire/dnd/Actions;" (.ref o3) ∧ Fld Z h o0 "com/example/dropwire/dropwire/dnd/DragSourceContext" "userAction" "Lcom/example/dropwire/dropwire/dnd/Actions;" (.ref o4) ∧ Fld Z h o0 "com/example/dropwire/dropwire/dnd/DragSourceContext" "listener" "Lcom/example/dropwire/dropwire/dnd/DragSourceListener;" .null
set_option maxRecDepth 65536 in
set_option maxHeartbeats 40000000 in
theorem dscInit (l : Launch) (Z : State) (a0 : Array Value) (hw : ∀ d ∈ tables_1, d.before a0 Z = true) (ws : List Jvm.Cond) (o0 : Addr) (o1 : Addr) (o3 : Addr) (o4 : Addr) (w_s_NONE : Addr) (w_o0_acceptedAction : Value) (w_o0_dragSource : Value) (w_o0_transferable : Value) (w_o0_sourceActions : Value) (w_o0_userAction : Value) (w_o0_listener : Value) (h0 : Heap) (n0 : Nat) (Z0 : n0 ≤ h0.size) (S_NONE : Sta Z h0 "com/example/dropwire/dropwire/dnd/Actions" "NONE" "Lcom/example/dropwire/dropwire/dnd/Actions;" (.ref w_s_NONE)) (E_o0 : Exa Z h0 o0 "com/example/dropwire/dropwire/dnd/DragSourceContext") (F_o0_acceptedAction : Fld Z h0 o0 "com/example/dropwire/dropwire/dnd/DragSourceContext" "acceptedAction" "Lcom/example/dropwire/dropwire/dnd/Actions;" w_o0_acceptedAction) (F_o0_dragSource : Fld Z h0 o0 "com/example/dropwire/dropwire/dnd/DragSourceContext" "dragSource" "Lcom/example/dropwire/dropwire/dnd/DragSource;" w_o0_dragSource) (F_o0_transferable : Fld Z h0 o0 "com/example/dropwire/dropwire/dnd/DragSourceContext" "transferable" "Lcom/example/dropwire/dropwire/transfer/Transferable;" w_o0_transferable) (F_o0_sourceActions : Fld Z h0 o0 "com/example/dropwire/dropwire/dnd/DragSourceContext" "sourceActions" "Lcom/example/dropwire/dropwire/dnd/Actions;" w_o0_sourceActions) (F_o0_userAction : Fld Z h0 o0 "com/example/dropwire/dropwire/dnd/DragSourceContext" "userAction" "Lcom/example/dropwire/dropwire/dnd/Actions;" w_o0_userAction) (F_o0_listener : Fld Z h0 o0 "com/example/dropwire/dropwire/dnd/DragSourceContext" "listener" "Lcom/example/dropwire/dropwire/dnd/DragSourceListener;" w_o0_listener) (g_o0 : n0 ≤ o0) :
    MetFree l (⟨"com/example/dropwire/dropwire/dnd/DragSourceContext", "<init>", "(Lcom/example/dropwire/dropwire/dnd/DragSource;Lcom/example/dropwire/dropwire/transfer/Transferable;Lcom/example/dropwire/dropwire/dnd/Actions;Lcom/example/dropwire/dropwire/dnd/Actions;Lcom/example/dropwire/dropwire/dnd/DragSourceListener;)V"⟩ : MethodName) (head1 (Jvm.Cond.code (⟨"com/example/dropwire/dropwire/dnd/DragSourceContext", "<init>", "(Lcom/example/dropwire/dropwire/dnd/DragSource;Lcom/example/dropwire/dropwire/transfer/Transferable;Lcom/example/dropwire/dropwire/dnd/Actions;Lcom/example/dropwire/dropwire/dnd/Actions;Lcom/example/dropwire/dropwire/dnd/DragSourceListener;)V"⟩ : MethodName) prog_17_method_1_code 6 none :: ws) ({ frames := 1, cells := 0, slots := 0, locals := 12 } : Room)) (fun a U => a = #[(.ref o0), (.ref o1), .null, (.ref o3), (.ref o4), .null] ∧ Z.Warmed39 U.vm ∧ U.heap = h0) (fun _ _ _ _ _ => True) (fun _ U o U' => ∃ v L, o = .returned v ∧ QdscInit Z o0 o1 o3 o4 w_s_NONE w_o0_acceptedAction w_o0_dragSource w_o0_transferable w_o0_sourceActions w_o0_userAction w_o0_listener h0 n0 v U'.heap L ∧ FrameEnd U o U' L ({ frames := 1, cells := 0, slots := 0, locals := 12 } : Room).cells ({ frames := 1, cells := 0, slots := 0, locals := 12 } : Room).slots) := by
  refine MetFree.of_bodySF (plainFor_of_name pn_223) hisR ?_
  intro p e s m args below meth c s₁ Bd hml0 hP hK
  obtain ⟨rfl, hZ, hh⟩ := hP
  have hx := Bd.exec
  have hby := Bd.bytes
  have hml : c.maxLocals = 6 := hml0
  have hown : s.vm.findClass "com/example/dropwire/dropwire/dnd/DragSourceContext" = some m.cls := findClass_of_methodNamed Bd.named
  have hnm := (name_of_methodNamed Bd.named Bd.method).1
  have X0 : Stand p l e ({ frames := 1, cells := 0, slots := 0, locals := 12 } : Room) s m #[(.ref o0), (.ref o1), .null, (.ref o3), (.ref o4), .null] below meth c s₁ [] 0 0 := Stand.of_body Bd
  have e0 : s₁.heap = h0 := by rw [← hh, Bd.state]; rfl
  have N0 := Fr.nil n0
  show own_Go p e below s (QdscInit Z o0 o1 o3 o4 w_s_NONE w_o0_acceptedAction w_o0_dragSource w_o0_transferable w_o0_sourceActions w_o0_userAction w_o0_listener h0 n0) ({ frames := 1, cells := 0, slots := 0, locals := 12 } : Room).cells ({ frames := 1, cells := 0, slots := 0, locals := 12 } : Room).slots (s₁.setTop (entryFrame m #[(.ref o0), (.ref o1), .null, (.ref o3), (.ref o4), .null] 6))
  rw [ef_dscInit m o0 o1 o3 o4]
  have K0 : Keep h0 h0 [o0] := Keep.refl h0 [o0]
  refine own_go (S' := s₁.setTop (mkF m 1 #[.val (.ref o0), .val (.ref o1), .val .null, .val (.ref o3), .val (.ref o4), .val .null] [(.ref o0)])) (fun t k => ?_) ?_
  · show Steps p.tables e below (s₁.setTop (mkF m 0 #[.val (.ref o0), .val (.ref o1), .val .null, .val (.ref o3), .val (.ref o4), .val .null] [])) t
    refine XS.aloadN X0.here hx rfl (hb hby d19_0) rfl rfl ?_
    exact k
  obtain ⟨T393, X393, e393, st393⟩ := initO X0 hx hZ hown (hw _ (List.mem_of_getElem? (i := 135) rfl)) (hw _ (List.mem_of_getElem? (i := 7) rfl)) (hw _ (List.mem_of_getElem? (i := 8) rfl)) e0 (g := (mkF m 1 #[.val (.ref o0), .val (.ref o1), .val .null, .val (.ref o3), .val (.ref o4), .val .null] [(.ref o0)])) rfl (by rw [hml]; rfl) rfl (hb hby d19_1) (by decide) (W := 0) (by show 2 * 0 + _ ≤ _; exact Nat.le_of_eq rfl) (by decide)
  refine own_go st393 ?_
  refine own_go (S' := T393.setTop (mkF m 5 #[.val (.ref o0), .val (.ref o1), .val .null, .val (.ref o3), .val (.ref o4), .val .null] [(.ref o0)])) (fun t k => ?_) ?_
  · show Steps p.tables e below (T393.setTop (mkF m 4 #[.val (.ref o0), .val (.ref o1), .val .null, .val (.ref o3), .val (.ref o4), .val .null] [])) t
    refine XS.aloadN X393.here hx rfl (hb hby d19_4) rfl rfl ?_
    exact k
  obtain ⟨T394, X394, e394, st394⟩ := getS2 X393 hx hZ hown (host := "") (Or.inl (hw _ (List.mem_of_getElem? (i := 136) rfl))) Via.refl e393 S_NONE (g := (mkF m 5 #[.val (.ref o0), .val (.ref o1), .val .null, .val (.ref o3), .val (.ref o4), .val .null] [(.ref o0)])) rfl (hb hby d19_5)
  refine own_go st394 ?_
  obtain ⟨T395, h395, X395, e395, W395, st395⟩ := putF X394 hx hZ hown (host := "") (Or.inl (hw _ (List.mem_of_getElem? (i := 138) rfl))) Via.refl e394 F_o0_acceptedAction E_o0 (Or.inl (hw _ (List.mem_of_getElem? (i := 139) rfl))) (hw _ (List.mem_of_getElem? (i := 125) rfl)) (ty := (.object "com/example/dropwire/dropwire/dnd/Actions")) (by decide) rfl rfl (g := (mkF m 8 #[.val (.ref o0), .val (.ref o1), .val .null, .val (.ref o3), .val (.ref o4), .val .null] [(.ref w_s_NONE), (.ref o0)])) rfl rfl (hb hby d19_8)
  have f396 : Sta Z h395 "com/example/dropwire/dropwire/dnd/Actions" "NONE" "Lcom/example/dropwire/dropwire/dnd/Actions;" (.ref w_s_NONE) := S_NONE.wr W395
  have f397 : Exa Z h395 o0 "com/example/dropwire/dropwire/dnd/DragSourceContext" := E_o0.wr W395
  have f398 : Fld Z h395 o0 "com/example/dropwire/dropwire/dnd/DragSourceContext" "dragSource" "Lcom/example/dropwire/dropwire/dnd/DragSource;" w_o0_dragSource := F_o0_dragSource.other W395 (Or.inr (slot_ne (Or.inr (hw _ (List.mem_of_getElem? (i := 141) rfl))) (Or.inl (hw _ (List.mem_of_getElem? (i := 139) rfl))) (by decide) (t := (.object "com/example/dropwire/dropwire/dnd/DragSource")) (t' := (.object "com/example/dropwire/dropwire/dnd/Actions")) (by decide) (by decide)))
  have f399 : Fld Z h395 o0 "com/example/dropwire/dropwire/dnd/DragSourceContext" "transferable" "Lcom/example/dropwire/dropwire/transfer/Transferable;" w_o0_transferable := F_o0_transferable.other W395 (Or.inr (slot_ne (Or.inr (hw _ (List.mem_of_getElem? (i := 143) rfl))) (Or.inl (hw _ (List.mem_of_getElem? (i := 139) rfl))) (by decide) (t := (.object "com/example/dropwire/dropwire/transfer/Transferable")) (t' := (.object "com/example/dropwire/dropwire/dnd/Actions")) (by decide) (by decide)))
  have f400 : Fld Z h395 o0 "com/example/dropwire/dropwire/dnd/DragSourceContext" "sourceActions" "Lcom/example/dropwire/dropwire/dnd/Actions;" w_o0_sourceActions := F_o0_sourceActions.other W395 (Or.inr (slot_ne (Or.inr (hw _ (List.mem_of_getElem? (i := 145) rfl))) (Or.inl (hw _ (List.mem_of_getElem? (i := 139) rfl))) (by decide) (t := (.object "com/example/dropwire/dropwire/dnd/Actions")) (t' := (.object "com/example/dropwire/dropwire/dnd/Actions")) (by decide) (by decide)))
  have f401 : Fld Z h395 o0 "com/example/dropwire/dropwire/dnd/DragSourceContext" "userAction" "Lcom/example/dropwire/dropwire/dnd/Actions;" w_o0_userAction := F_o0_userAction.other W395 (Or.inr (slot_ne (Or.inl (hw _ (List.mem_of_getElem? (i := 147) rfl))) (Or.inl (hw _ (List.mem_of_getElem? (i := 139) rfl))) (by decide) (t := (.object "com/example/dropwire/dropwire/dnd/Actions")) (t' := (.object "com/example/dropwire/dropwire/dnd/Actions")) (by decide) (by decide)))
  have f402 : Fld Z h395 o0 "com/example/dropwire/dropwire/dnd/DragSourceContext" "listener" "Lcom/example/dropwire/dropwire/dnd/DragSourceListener;" w_o0_listener := F_o0_listener.other W395 (Or.inr (slot_ne (Or.inr (hw _ (List.mem_of_getElem? (i := 149) rfl))) (Or.inl (hw _ (List.mem_of_getElem? (i := 139) rfl))) (by decide) (t := (.object "com/example/dropwire/dropwire/dnd/DragSourceListener")) (t' := (.object "com/example/dropwire/dropwire/dnd/Actions")) (by decide) (by decide)))
  have f403 : Fld Z h395 o0 "com/example/dropwire/dropwire/dnd/DragSourceContext" "acceptedAction" "Lcom/example/dropwire/dropwire/dnd/Actions;" (.ref w_s_NONE) := F_o0_acceptedAction.same W395
  have N404 := Fr.snoc X395 N0 g_o0
  have Z405 : n0 ≤ h395.size := Nat.le_trans Z0 (Keep.of_wr W395).1
  have K406 : Keep h0 h395 [o0] := K0.wr W395 (Or.inl (List.mem_of_getElem? (i := 0) rfl))
  refine own_go st395 ?_
  refine own_go (S' := T395.setTop (mkF m 13 #[.val (.ref o0), .val (.ref o1), .val .null, .val (.ref o3), .val (.ref o4), .val .null] [(.ref o1), (.ref o0)])) (fun t k => ?_) ?_
  · show Steps p.tables e below (T395.setTop (mkF m 11 #[.val (.ref o0), .val (.ref o1), .val .null, .val (.ref o3), .val (.ref o4), .val .null] [])) t
    refine XS.aloadN X395.here hx rfl (hb hby d19_11) rfl rfl ?_
    show Steps p.tables e below (T395.setTop (mkF m 12 #[.val (.ref o0), .val (.ref o1), .val .null, .val (.ref o3), .val (.ref o4), .val .null] [(.ref o0)])) t
    refine XS.aloadN X395.here hx rfl (hb hby d19_12) rfl rfl ?_
    exact k
  obtain ⟨T407, h407, X407, e407, W407, st407⟩ := putF X395 hx hZ hown (host := "") (Or.inl (hw _ (List.mem_of_getElem? (i := 140) rfl))) Via.refl e395 f398 f397 (Or.inr ⟨(hw _ (List.mem_of_getElem? (i := 141) rfl)), rfl, hnm⟩) (hw _ (List.mem_of_getElem? (i := 125) rfl)) (ty := (.object "com/example/dropwire/dropwire/dnd/DragSource")) (by decide) rfl rfl (g := (mkF m 13 #[.val (.ref o0), .val (.ref o1), .val .null, .val (.ref o3), .val (.ref o4), .val .null] [(.ref o1), (.ref o0)])) rfl rfl (hb hby d19_13)
  have f408 : Sta Z h407 "com/example/dropwire/dropwire/dnd/Actions" "NONE" "Lcom/example/dropwire/dropwire/dnd/Actions;" (.ref w_s_NONE) := f396.wr W407
  have f409 : Exa Z h407 o0 "com/example/dropwire/dropwire/dnd/DragSourceContext" := f397.wr W407
  have f410 : Fld Z h407 o0 "com/example/dropwire/dropwire/dnd/DragSourceContext" "transferable" "Lcom/example/dropwire/dropwire/transfer/Transferable;" w_o0_transferable := f399.other W407 (Or.inr (slot_ne (Or.inr (hw _ (List.mem_of_getElem? (i := 143) rfl))) (Or.inr (hw _ (List.mem_of_getElem? (i := 141) rfl))) (by decide) (t := (.object "com/example/dropwire/dropwire/transfer/Transferable")) (t' := (.object "com/example/dropwire/dropwire/dnd/DragSource")) (by decide) (by decide)))
  have f411 : Fld Z h407 o0 "com/example/dropwire/dropwire/dnd/DragSourceContext" "sourceActions" "Lcom/example/dropwire/dropwire/dnd/Actions;" w_o0_sourceActions := f400.other W407 (Or.inr (slot_ne (Or.inr (hw _ (List.mem_of_getElem? (i := 145) rfl))) (Or.inr (hw _ (List.mem_of_getElem? (i := 141) rfl))) (by decide) (t := (.object "com/example/dropwire/dropwire/dnd/Actions")) (t' := (.object "com/example/dropwire/dropwire/dnd/DragSource")) (by decide) (by decide)))
  have f412 : Fld Z h407 o0 "com/example/dropwire/dropwire/dnd/DragSourceContext" "userAction" "Lcom/example/dropwire/dropwire/dnd/Actions;" w_o0_userAction := f401.other W407 (Or.inr (slot_ne (Or.inl (hw _ (List.mem_of_getElem? (i := 147) rfl))) (Or.inr (hw _ (List.mem_of_getElem? (i := 141) rfl))) (by decide) (t := (.object "com/example/dropwire/dropwire/dnd/Actions")) (t' := (.object "com/example/dropwire/dropwire/dnd/DragSource")) (by decide) (by decide)))
  have f413 : Fld Z h407 o0 "com/example/dropwire/dropwire/dnd/DragSourceContext" "listener" "Lcom/example/dropwire/dropwire/dnd/DragSourceListener;" w_o0_listener := f402.other W407 (Or.inr (slot_ne (Or.inr (hw _ (List.mem_of_getElem? (i := 149) rfl))) (Or.inr (hw _ (List.mem_of_getElem? (i := 141) rfl))) (by decide) (t := (.object "com/example/dropwire/dropwire/dnd/DragSourceListener")) (t' := (.object "com/example/dropwire/dropwire/dnd/DragSource")) (by decide) (by decide)))
  have f414 : Fld Z h407 o0 "com/example/dropwire/dropwire/dnd/DragSourceContext" "acceptedAction" "Lcom/example/dropwire/dropwire/dnd/Actions;" (.ref w_s_NONE) := f403.other W407 (Or.inr (slot_ne (Or.inl (hw _ (List.mem_of_getElem? (i := 139) rfl))) (Or.inr (hw _ (List.mem_of_getElem? (i := 141) rfl))) (by decide) (t := (.object "com/example/dropwire/dropwire/dnd/Actions")) (t' := (.object "com/example/dropwire/dropwire/dnd/DragSource")) (by decide) (by decide)))
  have f415 : Fld Z h407 o0 "com/example/dropwire/dropwire/dnd/DragSourceContext" "dragSource" "Lcom/example/dropwire/dropwire/dnd/DragSource;" (.ref o1) := f398.same W407
  have N416 := Fr.snoc X407 N404 g_o0
  have Z417 : n0 ≤ h407.size := Nat.le_trans Z405 (Keep.of_wr W407).1
  have K418 : Keep h0 h407 [o0] := K406.wr W407 (Or.inl (List.mem_of_getElem? (i := 0) rfl))
  refine own_go st407 ?_
  refine own_go (S' := T407.setTop (mkF m 18 #[.val (.ref o0), .val (.ref o1), .val .null, .val (.ref o3), .val (.ref o4), .val .null] [.null, (.ref o0)])) (fun t k => ?_) ?_
  · show Steps p.tables e below (T407.setTop (mkF m 16 #[.val (.ref o0), .val (.ref o1), .val .null, .val (.ref o3), .val (.ref o4), .val .null] [])) t
    refine XS.aloadN X407.here hx rfl (hb hby d19_16) rfl rfl ?_
    show Steps p.tables e below (T407.setTop (mkF m 17 #[.val (.ref o0), .val (.ref o1), .val .null, .val (.ref o3), .val (.ref o4), .val .null] [(.ref o0)])) t
    refine XS.aloadN X407.here hx rfl (hb hby d19_17) rfl rfl ?_
    exact k
  obtain ⟨T419, h419, X419, e419, W419, st419⟩ := putF X407 hx hZ hown (host := "") (Or.inl (hw _ (List.mem_of_getElem? (i := 142) rfl))) Via.refl e407 f410 f409 (Or.inr ⟨(hw _ (List.mem_of_getElem? (i := 143) rfl)), rfl, hnm⟩) (hw _ (List.mem_of_getElem? (i := 125) rfl)) (ty := (.object "com/example/dropwire/dropwire/transfer/Transferable")) (by decide) rfl rfl (g := (mkF m 18 #[.val (.ref o0), .val (.ref o1), .val .null, .val (.ref o3), .val (.ref o4), .val .null] [.null, (.ref o0)])) rfl rfl (hb hby d19_18)
  have f420 : Sta Z h419 "com/example/dropwire/dropwire/dnd/Actions" "NONE" "Lcom/example/dropwire/dropwire/dnd/Actions;" (.ref w_s_NONE) := f408.wr W419
  have f421 : Exa Z h419 o0 "com/example/dropwire/dropwire/dnd/DragSourceContext" := f409.wr W419
  have f422 : Fld Z h419 o0 "com/example/dropwire/dropwire/dnd/DragSourceContext" "sourceActions" "Lcom/example/dropwire/dropwire/dnd/Actions;" w_o0_sourceActions := f411.other W419 (Or.inr (slot_ne (Or.inr (hw _ (List.mem_of_getElem? (i := 145) rfl))) (Or.inr (hw _ (List.mem_of_getElem? (i := 143) rfl))) (by decide) (t := (.object "com/example/dropwire/dropwire/dnd/Actions")) (t' := (.object "com/example/dropwire/dropwire/transfer/Transferable")) (by decide) (by decide)))
  have f423 : Fld Z h419 o0 "com/example/dropwire/dropwire/dnd/DragSourceContext" "userAction" "Lcom/example/dropwire/dropwire/dnd/Actions;" w_o0_userAction := f412.other W419 (Or.inr (slot_ne (Or.inl (hw _ (List.mem_of_getElem? (i := 147) rfl))) (Or.inr (hw _ (List.mem_of_getElem? (i := 143) rfl))) (by decide) (t := (.object "com/example/dropwire/dropwire/dnd/Actions")) (t' := (.object "com/example/dropwire/dropwire/transfer/Transferable")) (by decide) (by decide)))
  have f424 : Fld Z h419 o0 "com/example/dropwire/dropwire/dnd/DragSourceContext" "listener" "Lcom/example/dropwire/dropwire/dnd/DragSourceListener;" w_o0_listener := f413.other W419 (Or.inr (slot_ne (Or.inr (hw _ (List.mem_of_getElem? (i := 149) rfl))) (Or.inr (hw _ (List.mem_of_getElem? (i := 143) rfl))) (by decide) (t := (.object "com/example/dropwire/dropwire/dnd/DragSourceListener")) (t' := (.object "com/example/dropwire/dropwire/transfer/Transferable")) (by decide) (by decide)))
  have f425 : Fld Z h419 o0 "com/example/dropwire/dropwire/dnd/DragSourceContext" "acceptedAction" "Lcom/example/dropwire/dropwire/dnd/Actions;" (.ref w_s_NONE) := f414.other W419 (Or.inr (slot_ne (Or.inl (hw _ (List.mem_of_getElem? (i := 139) rfl))) (Or.inr (hw _ (List.mem_of_getElem? (i := 143) rfl))) (by decide) (t := (.object "com/example/dropwire/dropwire/dnd/Actions")) (t' := (.object "com/example/dropwire/dropwire/transfer/Transferable")) (by decide) (by decide)))
  have f426 : Fld Z h419 o0 "com/example/dropwire/dropwire/dnd/DragSourceContext" "dragSource" "Lcom/example/dropwire/dropwire/dnd/DragSource;" (.ref o1) := f415.other W419 (Or.inr (slot_ne (Or.inr (hw _ (List.mem_of_getElem? (i := 141) rfl))) (Or.inr (hw _ (List.mem_of_getElem? (i := 143) rfl))) (by decide) (t := (.object "com/example/dropwire/dropwire/dnd/DragSource")) (t' := (.object "com/example/dropwire/dropwire/transfer/Transferable")) (by decide) (by decide)))
  have f427 : Fld Z h419 o0 "com/example/dropwire/dropwire/dnd/DragSourceContext" "transferable" "Lcom/example/dropwire/dropwire/transfer/Transferable;" .null := f410.same W419
  have N428 := Fr.snoc X419 N416 g_o0
  have Z429 : n0 ≤ h419.size := Nat.le_trans Z417 (Keep.of_wr W419).1
  have K430 : Keep h0 h419 [o0] := K418.wr W419 (Or.inl (List.mem_of_getElem? (i := 0) rfl))
  refine own_go st419 ?_
  refine own_go (S' := T419.setTop (mkF m 23 #[.val (.ref o0), .val (.ref o1), .val .null, .val (.ref o3), .val (.ref o4), .val .null] [(.ref o3), (.ref o0)])) (fun t k => ?_) ?_
  · show Steps p.tables e below (T419.setTop (mkF m 21 #[.val (.ref o0), .val (.ref o1), .val .null, .val (.ref o3), .val (.ref o4), .val .null] [])) t
    refine XS.aloadN X419.here hx rfl (hb hby d19_21) rfl rfl ?_
    show Steps p.tables e below (T419.setTop (mkF m 22 #[.val (.ref o0), .val (.ref o1), .val .null, .val (.ref o3), .val (.ref o4), .val .null] [(.ref o0)])) t
    refine XS.aloadN X419.here hx rfl (hb hby d19_22) rfl rfl ?_
    exact k
  obtain ⟨T431, h431, X431, e431, W431, st431⟩ := putF X419 hx hZ hown (host := "") (Or.inl (hw _ (List.mem_of_getElem? (i := 144) rfl))) Via.refl e419 f422 f421 (Or.inr ⟨(hw _ (List.mem_of_getElem? (i := 145) rfl)), rfl, hnm⟩) (hw _ (List.mem_of_getElem? (i := 125) rfl)) (ty := (.object "com/example/dropwire/dropwire/dnd/Actions")) (by decide) rfl rfl (g := (mkF m 23 #[.val (.ref o0), .val (.ref o1), .val .null, .val (.ref o3), .val (.ref o4), .val .null] [(.ref o3), (.ref o0)])) rfl rfl (hb hby d19_23)
  have f432 : Sta Z h431 "com/example/dropwire/dropwire/dnd/Actions" "NONE" "Lcom/example/dropwire/dropwire/dnd/Actions;" (.ref w_s_NONE) := f420.wr W431
  have f433 : Exa Z h431 o0 "com/example/dropwire/dropwire/dnd/DragSourceContext" := f421.wr W431
  have f434 : Fld Z h431 o0 "com/example/dropwire/dropwire/dnd/DragSourceContext" "userAction" "Lcom/example/dropwire/dropwire/dnd/Actions;" w_o0_userAction := f423.other W431 (Or.inr (slot_ne (Or.inl (hw _ (List.mem_of_getElem? (i := 147) rfl))) (Or.inr (hw _ (List.mem_of_getElem? (i := 145) rfl))) (by decide) (t := (.object "com/example/dropwire/dropwire/dnd/Actions")) (t' := (.object "com/example/dropwire/dropwire/dnd/Actions")) (by decide) (by decide)))
  have f435 : Fld Z h431 o0 "com/example/dropwire/dropwire/dnd/DragSourceContext" "listener" "Lcom/example/dropwire/dropwire/dnd/DragSourceListener;" w_o0_listener := f424.other W431 (Or.inr (slot_ne (Or.inr (hw _ (List.mem_of_getElem? (i := 149) rfl))) (Or.inr (hw _ (List.mem_of_getElem? (i := 145) rfl))) (by decide) (t := (.object "com/example/dropwire/dropwire/dnd/DragSourceListener")) (t' := (.object "com/example/dropwire/dropwire/dnd/Actions")) (by decide) (by decide)))
  have f436 : Fld Z h431 o0 "com/example/dropwire/dropwire/dnd/DragSourceContext" "acceptedAction" "Lcom/example/dropwire/dropwire/dnd/Actions;" (.ref w_s_NONE) := f425.other W431 (Or.inr (slot_ne (Or.inl (hw _ (List.mem_of_getElem? (i := 139) rfl))) (Or.inr (hw _ (List.mem_of_getElem? (i := 145) rfl))) (by decide) (t := (.object "com/example/dropwire/dropwire/dnd/Actions")) (t' := (.object "com/example/dropwire/dropwire/dnd/Actions")) (by decide) (by decide)))
  have f437 : Fld Z h431 o0 "com/example/dropwire/dropwire/dnd/DragSourceContext" "dragSource" "Lcom/example/dropwire/dropwire/dnd/DragSource;" (.ref o1) := f426.other W431 (Or.inr (slot_ne (Or.inr (hw _ (List.mem_of_getElem? (i := 141) rfl))) (Or.inr (hw _ (List.mem_of_getElem? (i := 145) rfl))) (by decide) (t := (.object "com/example/dropwire/dropwire/dnd/DragSource")) (t' := (.object "com/example/dropwire/dropwire/dnd/Actions")) (by decide) (by decide)))
  have f438 : Fld Z h431 o0 "com/example/dropwire/dropwire/dnd/DragSourceContext" "transferable" "Lcom/example/dropwire/dropwire/transfer/Transferable;" .null := f427.other W431 (Or.inr (slot_ne (Or.inr (hw _ (List.mem_of_getElem? (i := 143) rfl))) (Or.inr (hw _ (List.mem_of_getElem? (i := 145) rfl))) (by decide) (t := (.object "com/example/dropwire/dropwire/transfer/Transferable")) (t' := (.object "com/example/dropwire/dropwire/dnd/Actions")) (by decide) (by decide)))
  have f439 : Fld Z h431 o0 "com/example/dropwire/dropwire/dnd/DragSourceContext" "sourceActions" "Lcom/example/dropwire/dropwire/dnd/Actions;" (.ref o3) := f422.same W431
  have N440 := Fr.snoc X431 N428 g_o0
  have Z441 : n0 ≤ h431.size := Nat.le_trans Z429 (Keep.of_wr W431).1
  have K442 : Keep h0 h431 [o0] := K430.wr W431 (Or.inl (List.mem_of_getElem? (i := 0) rfl))
  refine own_go st431 ?_
  refine own_go (S' := T431.setTop (mkF m 29 #[.val (.ref o0), .val (.ref o1), .val .null, .val (.ref o3), .val (.ref o4), .val .null] [(.ref o4), (.ref o0)])) (fun t k => ?_) ?_
  · show Steps p.tables e below (T431.setTop (mkF m 26 #[.val (.ref o0), .val (.ref o1), .val .null, .val (.ref o3), .val (.ref o4), .val .null] [])) t
    refine XS.aloadN X431.here hx rfl (hb hby d19_26) rfl rfl ?_
    show Steps p.tables e below (T431.setTop (mkF m 27 #[.val (.ref o0), .val (.ref o1), .val .null, .val (.ref o3), .val (.ref o4), .val .null] [(.ref o0)])) t
    refine XS.aload X431.here hx rfl (hb hby d19_27) rfl rfl ?_
    exact k
  obtain ⟨T443, h443, X443, e443, W443, st443⟩ := putF X431 hx hZ hown (host := "") (Or.inl (hw _ (List.mem_of_getElem? (i := 146) rfl))) Via.refl e431 f434 f433 (Or.inl (hw _ (List.mem_of_getElem? (i := 147) rfl))) (hw _ (List.mem_of_getElem? (i := 125) rfl)) (ty := (.object "com/example/dropwire/dropwire/dnd/Actions")) (by decide) rfl rfl (g := (mkF m 29 #[.val (.ref o0), .val (.ref o1), .val .null, .val (.ref o3), .val (.ref o4), .val .null] [(.ref o4), (.ref o0)])) rfl rfl (hb hby d19_29)
  have f444 : Sta Z h443 "com/example/dropwire/dropwire/dnd/Actions" "NONE" "Lcom/example/dropwire/dropwire/dnd/Actions;" (.ref w_s_NONE) := f432.wr W443
  have f445 : Exa Z h443 o0 "com/example/dropwire/dropwire/dnd/DragSourceContext" := f433.wr W443
  have f446 : Fld Z h443 o0 "com/example/dropwire/dropwire/dnd/DragSourceContext" "listener" "Lcom/example/dropwire/dropwire/dnd/DragSourceListener;" w_o0_listener := f435.other W443 (Or.inr (slot_ne (Or.inr (hw _ (List.mem_of_getElem? (i := 149) rfl))) (Or.inl (hw _ (List.mem_of_getElem? (i := 147) rfl))) (by decide) (t := (.object "com/example/dropwire/dropwire/dnd/DragSourceListener")) (t' := (.object "com/example/dropwire/dropwire/dnd/Actions")) (by decide) (by decide)))
  have f447 : Fld Z h443 o0 "com/example/dropwire/dropwire/dnd/DragSourceContext" "acceptedAction" "Lcom/example/dropwire/dropwire/dnd/Actions;" (.ref w_s_NONE) := f436.other W443 (Or.inr (slot_ne (Or.inl (hw _ (List.mem_of_getElem? (i := 139) rfl))) (Or.inl (hw _ (List.mem_of_getElem? (i := 147) rfl))) (by decide) (t := (.object "com/example/dropwire/dropwire/dnd/Actions")) (t' := (.object "com/example/dropwire/dropwire/dnd/Actions")) (by decide) (by decide)))
  have f448 : Fld Z h443 o0 "com/example/dropwire/dropwire/dnd/DragSourceContext" "dragSource" "Lcom/example/dropwire/dropwire/dnd/DragSource;" (.ref o1) := f437.other W443 (Or.inr (slot_ne (Or.inr (hw _ (List.mem_of_getElem? (i := 141) rfl))) (Or.inl (hw _ (List.mem_of_getElem? (i := 147) rfl))) (by decide) (t := (.object "com/example/dropwire/dropwire/dnd/DragSource")) (t' := (.object "com/example/dropwire/dropwire/dnd/Actions")) (by decide) (by decide)))
  have f449 : Fld Z h443 o0 "com/example/dropwire/dropwire/dnd/DragSourceContext" "transferable" "Lcom/example/dropwire/dropwire/transfer/Transferable;" .null := f438.other W443 (Or.inr (slot_ne (Or.inr (hw _ (List.mem_of_getElem? (i := 143) rfl))) (Or.inl (hw _ (List.mem_of_getElem? (i := 147) rfl))) (by decide) (t := (.object "com/example/dropwire/dropwire/transfer/Transferable")) (t' := (.object "com/example/dropwire/dropwire/dnd/Actions")) (by decide) (by decide)))
  have f450 : Fld Z h443 o0 "com/example/dropwire/dropwire/dnd/DragSourceContext" "sourceActions" "Lcom/example/dropwire/dropwire/dnd/Actions;" (.ref o3) := f439.other W443 (Or.inr (slot_ne (Or.inr (hw _ (List.mem_of_getElem? (i := 145) rfl))) (Or.inl (hw _ (List.mem_of_getElem? (i := 147) rfl))) (by decide) (t := (.object "com/example/dropwire/dropwire/dnd/Actions")) (t' := (.object "com/example/dropwire/dropwire/dnd/Actions")) (by decide) (by decide)))
  have f451 : Fld Z h443 o0 "com/example/dropwire/dropwire/dnd/DragSourceContext" "userAction" "Lcom/example/dropwire/dropwire/dnd/Actions;" (.ref o4) := f434.same W443
  have N452 := Fr.snoc X443 N440 g_o0
  have Z453 : n0 ≤ h443.size := Nat.le_trans Z441 (Keep.of_wr W443).1
  have K454 : Keep h0 h443 [o0] := K442.wr W443 (Or.inl (List.mem_of_getElem? (i := 0) rfl))
  refine own_go st443 ?_
  refine own_go (S' := T443.setTop (mkF m 35 #[.val (.ref o0), .val (.ref o1), .val .null, .val (.ref o3), .val (.ref o4), .val .null] [.null, (.ref o0)])) (fun t k => ?_) ?_
  · show Steps p.tables e below (T443.setTop (mkF m 32 #[.val (.ref o0), .val (.ref o1), .val .null, .val (.ref o3), .val (.ref o4), .val .null] [])) t
    refine XS.aloadN X443.here hx rfl (hb hby d19_32) rfl rfl ?_
    show Steps p.tables e below (T443.setTop (mkF m 33 #[.val (.ref o0), .val (.ref o1), .val .null, .val (.ref o3), .val (.ref o4), .val .null] [(.ref o0)])) t
    refine XS.aload X443.here hx rfl (hb hby d19_33) rfl rfl ?_
    exact k
  obtain ⟨T455, h455, X455, e455, W455, st455⟩ := putF X443 hx hZ hown (host := "") (Or.inl (hw _ (List.mem_of_getElem? (i := 148) rfl))) Via.refl e443 f446 f445 (Or.inr ⟨(hw _ (List.mem_of_getElem? (i := 149) rfl)), rfl, hnm⟩) (hw _ (List.mem_of_getElem? (i := 125) rfl)) (ty := (.object "com/example/dropwire/dropwire/dnd/DragSourceListener")) (by decide) rfl rfl (g := (mkF m 35 #[.val (.ref o0), .val (.ref o1), .val .null, .val (.ref o3), .val (.ref o4), .val .null] [.null, (.ref o0)])) rfl rfl (hb hby d19_35)
  have f456 : Sta Z h455 "com/example/dropwire/dropwire/dnd/Actions" "NONE" "Lcom/example/dropwire/dropwire/dnd/Actions;" (.ref w_s_NONE) := f444.wr W455
  have f457 : Exa Z h455 o0 "com/example/dropwire/dropwire/dnd/DragSourceContext" := f445.wr W455
  have f458 : Fld Z h455 o0 "com/example/dropwire/dropwire/dnd/DragSourceContext" "acceptedAction" "Lcom/example/dropwire/dropwire/dnd/Actions;" (.ref w_s_NONE) := f447.other W455 (Or.inr (slot_ne (Or.inl (hw _ (List.mem_of_getElem? (i := 139) rfl))) (Or.inr (hw _ (List.mem_of_getElem? (i := 149) rfl))) (by decide) (t := (.object "com/example/dropwire/dropwire/dnd/Actions")) (t' := (.object "com/example/dropwire/dropwire/dnd/DragSourceListener")) (by decide) (by decide)))
  have f459 : Fld Z h455 o0 "com/example/dropwire/dropwire/dnd/DragSourceContext" "dragSource" "Lcom/example/dropwire/dropwire/dnd/DragSource;" (.ref o1) := f448.other W455 (Or.inr (slot_ne (Or.inr (hw _ (List.mem_of_getElem? (i := 141) rfl))) (Or.inr (hw _ (List.mem_of_getElem? (i := 149) rfl))) (by decide) (t := (.object "com/example/dropwire/dropwire/dnd/DragSource")) (t' := (.object "com/example/dropwire/dropwire/dnd/DragSourceListener")) (by decide) (by decide)))
  have f460 : Fld Z h455 o0 "com/example/dropwire/dropwire/dnd/DragSourceContext" "transferable" "Lcom/example/dropwire/dropwire/transfer/Transferable;" .null := f449.other W455 (Or.inr (slot_ne (Or.inr (hw _ (List.mem_of_getElem? (i := 143) rfl))) (Or.inr (hw _ (List.mem_of_getElem? (i := 149) rfl))) (by decide) (t := (.object "com/example/dropwire/dropwire/transfer/Transferable")) (t' := (.object "com/example/dropwire/dropwire/dnd/DragSourceListener")) (by decide) (by decide)))
  have f461 : Fld Z h455 o0 "com/example/dropwire/dropwire/dnd/DragSourceContext" "sourceActions" "Lcom/example/dropwire/dropwire/dnd/Actions;" (.ref o3) := f450.other W455 (Or.inr (slot_ne (Or.inr (hw _ (List.mem_of_getElem? (i := 145) rfl))) (Or.inr (hw _ (List.mem_of_getElem? (i := 149) rfl))) (by decide) (t := (.object "com/example/dropwire/dropwire/dnd/Actions")) (t' := (.object "com/example/dropwire/dropwire/dnd/DragSourceListener")) (by decide) (by decide)))
  have f462 : Fld Z h455 o0 "com/example/dropwire/dropwire/dnd/DragSourceContext" "userAction" "Lcom/example/dropwire/dropwire/dnd/Actions;" (.ref o4) := f451.other W455 (Or.inr (slot_ne (Or.inl (hw _ (List.mem_of_getElem? (i := 147) rfl))) (Or.inr (hw _ (List.mem_of_getElem? (i := 149) rfl))) (by decide) (t := (.object "com/example/dropwire/dropwire/dnd/Actions")) (t' := (.object "com/example/dropwire/dropwire/dnd/DragSourceListener")) (by decide) (by decide)))
  have f463 : Fld Z h455 o0 "com/example/dropwire/dropwire/dnd/DragSourceContext" "listener" "Lcom/example/dropwire/dropwire/dnd/DragSourceListener;" .null := f446.same W455
  have N464 := Fr.snoc X455 N452 g_o0
  have Z465 : n0 ≤ h455.size := Nat.le_trans Z453 (Keep.of_wr W455).1
  have K466 : Keep h0 h455 [o0] := K454.wr W455 (Or.inl (List.mem_of_getElem? (i := 0) rfl))
  refine own_go st455 ?_
  obtain ⟨fs, hr, hrun, hended, hW, hsame⟩ := X455.leave (v := none) (fun _ => rfl)
  refine own_end (v := none) ?_ hrun hended ?_ hW (hsame.mono (by decide) (by decide))
  · show Steps p.tables e below (T455.setTop (mkF m 38 #[.val (.ref o0), .val (.ref o1), .val .null, .val (.ref o3), .val (.ref o4), .val .null] [])) _
    exact X455.returnOut hx Bd.returns (hb hby d19_38) hr
  · show QdscInit Z o0 o1 o3 o4 w_s_NONE w_o0_acceptedAction w_o0_dragSource w_o0_transferable w_o0_sourceActions w_o0_userAction w_o0_listener h0 n0 _ T455.heap _
    rw [e455]
    exact ⟨rfl, N464, K466, f457, f458, f459, f460, f461, f462, f463⟩
theorem d23_0 : decode prog_17_method_4_code 0 = .ok (.aload_n 0, 1) := by decide +kernel
theorem d23_1 : decode prog_17_method_4_code 1 = .ok (.getfield 29, 3) := by decide +kernel
theorem d23_4 : decode prog_17_method_4_code 4 = .ok (.areturn, 1) := by decide +kernel
theorem ef_dscUA (m : MethodId) (x0 : Addr) : entryFrame m #[(.ref x0)] 1 = mkF m 0 #[.val (.ref x0)] [] := by first | (simp [entryFrame, mkF, argsToLocals, Value.category]; done) | rfl
def QdscUA (Z : State) (o0 : Addr) (w_o0_userAction : Addr) (h0 : Heap) (n0 : Nat) (v : Option Value) (h : Heap) (L : List Loc) : Prop := v = some (.ref w_o0_userAction) ∧ Fr n0 L ∧ h = h0
set_option maxRecDepth 65536 in
set_option maxHeartbeats 40000000 in
theorem dscUA (l : Launch) (Z : State) (a0 : Array Value) (hw : ∀ d ∈ tables_1, d.before a0 Z = true) (ws : List Jvm.Cond) (o0 : Addr) (w_o0_userAction : Addr) (h0 : Heap) (n0 : Nat) (Z0 : n0 ≤ h0.size) (F_o0_userAction : Fld Z h0 o0 "com/example/dropwire/dropwire/dnd/DragSourceContext" "userAction" "Lcom/example/dropwire/dropwire/dnd/Actions;" (.ref w_o0_userAction)) :
    MetFree l (⟨"com/example/dropwire/dropwire/dnd/DragSourceContext", "getUserAction", "()Lcom/example/dropwire/dropwire/dnd/Actions;"⟩ : MethodName) (head1 (Jvm.Cond.code (⟨"com/example/dropwire/dropwire/dnd/DragSourceContext", "getUserAction", "()Lcom/example/dropwire/dropwire/dnd/Actions;"⟩ : MethodName) prog_17_method_4_code 1 (some (.object "com/example/dropwire/dropwire/dnd/Actions")) :: ws) ({ frames := 0, cells := 0, slots := 0, locals := 0 } : Room)) (fun a U => a = #[(.ref o0)] ∧ Z.Warmed39 U.vm ∧ U.heap = h0) (fun _ _ _ _ _ => True) (fun _ U o U' => ∃ v L, o = .returned v ∧ QdscUA Z o0 w_o0_userAction h0 n0 v U'.heap L ∧ FrameEnd U o U' L ({ frames := 0, cells := 0, slots := 0, locals := 0 } : Room).cells ({ frames := 0, cells := 0, slots := 0, locals := 0 } : Room).slots) := by
  refine MetFree.of_bodySF (plainFor_of_name pn_223) hisR ?_
  intro p e s m args below meth c s₁ Bd hml0 hP hK
  obtain ⟨rfl, hZ, hh⟩ := hP
  have hx := Bd.exec
  have hby := Bd.bytes
  have hml : c.maxLocals = 1 := hml0
  have hown : s.vm.findClass "com/example/dropwire/dropwire/dnd/DragSourceContext" = some m.cls := findClass_of_methodNamed Bd.named
  have hnm := (name_of_methodNamed Bd.named Bd.method).1
  have X0 : Stand p l e ({ frames := 0, cells := 0, slots := 0, locals := 0 } : Room) s m #[(.ref o0)] below meth c s₁ [] 0 0 := Stand.of_body Bd
  have e0 : s₁.heap = h0 := by rw [← hh, Bd.state]; rfl
  have N0 := Fr.nil n0
  show own_Go p e below s (QdscUA Z o0 w_o0_userAction h0 n0) ({ frames := 0, cells := 0, slots := 0, locals := 0 } : Room).cells ({ frames := 0, cells := 0, slots := 0, locals := 0 } : Room).slots (s₁.setTop (entryFrame m #[(.ref o0)] 1))
  rw [ef_dscUA m o0]
  have K0 : Keep h0 h0 [] := Keep.refl h0 []
  refine own_go (S' := s₁.setTop (mkF m 1 #[.val (.ref o0)] [(.ref o0)])) (fun t k => ?_) ?_
  · show Steps p.tables e below (s₁.setTop (mkF m 0 #[.val (.ref o0)] [])) t
    refine XS.aloadN X0.here hx rfl (hb hby d23_0) rfl rfl ?_
    exact k
  obtain ⟨T467, X467, e467, st467⟩ := getF X0 hx hZ hown (host := "") (Or.inl (hw _ (List.mem_of_getElem? (i := 146) rfl))) Via.refl e0 F_o0_userAction (g := (mkF m 1 #[.val (.ref o0)] [(.ref o0)])) rfl rfl (hb hby d23_1)
  refine own_go st467 ?_
  obtain ⟨fs, hr, hrun, hended, hW, hsame⟩ := X467.leave (v := some (.ref w_o0_userAction)) (fun h => by rw [Bd.returns] at h; cases h)
  refine own_end (v := some (.ref w_o0_userAction)) ?_ hrun hended ?_ hW (hsame.mono (by decide) (by decide))
  · show Steps p.tables e below (T467.setTop (mkF m 4 #[.val (.ref o0)] [(.ref w_o0_userAction)])) _
    jvm_step X467.here [X467.here.top, hx, (hb hby d23_4), X467.method', Bd.returns, Value.isRef, FieldType.isReference]
    first | (intro acts; rw [hr _ acts rfl rfl rfl]) | rw [hr _ _ rfl rfl rfl]
    exact Steps.refl _
  · show QdscUA Z o0 w_o0_userAction h0 n0 _ T467.heap _
    rw [e467]
    exact ⟨rfl, N0, rfl⟩
theorem d25_0 : decode jdk_49_method_1_code 0 = .ok (.aload_n 0, 1) := by decide +kernel
theorem d25_1 : decode jdk_49_method_1_code 1 = .ok (.aload_n 1, 1) := by decide +kernel
theorem d25_2 : decode jdk_49_method_1_code 2 = .ok (.putfield 1, 3) := by decide +kernel
theorem d25_5 : decode jdk_49_method_1_code 5 = .ok (.aload_n 0, 1) := by decide +kernel
theorem d25_6 : decode jdk_49_method_1_code 6 = .ok (.invokespecial 7, 3) := by decide +kernel
theorem d25_9 : decode jdk_49_method_1_code 9 = .ok (.aload_n 0, 1) := by decide +kernel
theorem d25_10 : decode jdk_49_method_1_code 10 = .ok (.iconst (-1), 1) := by decide +kernel
theorem d25_11 : decode jdk_49_method_1_code 11 = .ok (.putfield 13, 3) := by decide +kernel
theorem d25_14 : decode jdk_49_method_1_code 14 = .ok (.aload_n 0, 1) := by decide +kernel
theorem d25_15 : decode jdk_49_method_1_code 15 = .ok (.aload_n 0, 1) := by decide +kernel
theorem d25_16 : decode jdk_49_method_1_code 16 = .ok (.getfield 1, 3) := by decide +kernel
theorem d25_19 : decode jdk_49_method_1_code 19 = .ok (.getfield 17, 3) := by decide +kernel
theorem d25_22 : decode jdk_49_method_1_code 22 = .ok (.putfield 22, 3) := by decide +kernel
theorem d25_25 : decode jdk_49_method_1_code 25 = .ok (.return_, 1) := by decide +kernel
theorem pn_241 : plainName "java/util/ArrayList$Itr" = true := by first | (simp [plainName, overriddenIn]; done) | decide +kernel
theorem ef_itrInit (m : MethodId) (x0 : Addr) (x1 : Addr) : entryFrame m #[(.ref x0), (.ref x1)] 2 = mkF m 0 #[.val (.ref x0), .val (.ref x1)] [] := by first | (simp [entryFrame, mkF, argsToLocals, Value.category]; done) | rfl
def QitrInit (Z : State) (o0 : Addr) (o1 : Addr) (w_o0_this_0 : Value) (w_o0_lastRet : Int32) (w_o0_expectedModCount : Int32) (w_o0_cursor : Int32) (w_o1_modCount : Int32) (h0 : Heap) (n0 : Nat) (v : Option Value) (h : Heap) (L : List Loc) : Prop := v = none ∧ Fr n0 L ∧ Keep h0 h [o0] ∧ Exa Z h o0 "java/util/ArrayList$Itr" ∧ Fld Z h o0 "java/util/ArrayList$Itr" "cursor" "I" (.int w_o0_cursor) ∧ Fld Z h o0 "java/util/ArrayList$Itr" "this$0" "Ljava/util/ArrayList;" (.ref o1) ∧ Fld Z h o0 "java/util/ArrayList$Itr" "lastRet" "I" (.int (-1 : Int32)) ∧ Fld Z h o0 "java/util/ArrayList$Itr" "expectedModCount" "I" (.int w_o1_modCount)
set_option maxRecDepth 65536 in
set_option maxHeartbeats 40000000 in
theorem itrInit (l : Launch) (Z : State) (a0 : Array Value) (hw : ∀ d ∈ tables_1, d.before a0 Z = true) (ws : List Jvm.Cond) (o0 : Addr) (o1 : Addr) (w_o0_this_0 : Value) (w_o0_lastRet : Int32) (w_o0_expectedModCount : Int32) (w_o0_cursor : Int32) (w_o1_modCount : Int32) (h0 : Heap) (n0 : Nat) (Z0 : n0 ≤ h0.size) (E_o0 : Exa Z h0 o0 "java/util/ArrayList$Itr") (F_o0_this_0 : Fld Z h0 o0 "java/util/ArrayList$Itr" "this$0" "Ljava/util/ArrayList;" w_o0_this_0) (F_o0_lastRet : Fld Z h0 o0 "java/util/ArrayList$Itr" "lastRet" "I" (.int w_o0_lastRet)) (F_o0_expectedModCount : Fld Z h0 o0 "java/util/ArrayList$Itr" "expectedModCount" "I" (.int w_o0_expectedModCount)) (F_o0_cursor : Fld Z h0 o0 "java/util/ArrayList$Itr" "cursor" "I" (.int w_o0_cursor)) (g_o0 : n0 ≤ o0) (F_o1_modCount : Fld Z h0 o1 "java/util/AbstractList" "modCount" "I" (.int w_o1_modCount)) (ne_o1_o0 : o1 ≠ o0) :
    MetFree l (⟨"java/util/ArrayList$Itr", "<init>", "(Ljava/util/ArrayList;)V"⟩ : MethodName) (head1 (Jvm.Cond.code (⟨"java/util/ArrayList$Itr", "<init>", "(Ljava/util/ArrayList;)V"⟩ : MethodName) jdk_49_method_1_code 2 none :: ws) ({ frames := 1, cells := 0, slots := 0, locals := 12 } : Room)) (fun a U => a = #[(.ref o0), (.ref o1)] ∧ Z.Warmed39 U.vm ∧ U.heap = h0) (fun _ _ _ _ _ => True) (fun _ U o U' => ∃ v L, o = .returned v ∧ QitrInit Z o0 o1 w_o0_this_0 w_o0_lastRet w_o0_expectedModCount w_o0_cursor w_o1_modCount h0 n0 v U'.heap L ∧ FrameEnd U o U' L ({ frames := 1, cells := 0, slots := 0, locals := 12 } : Room).cells ({ frames := 1, cells := 0, slots := 0, locals := 12 } : Room).slots) := by
  refine MetFree.of_bodySF (plainFor_of_name pn_241) hisR ?_
  intro p e s m args below meth c s₁ Bd hml0 hP hK
  obtain ⟨rfl, hZ, hh⟩ := hP
  have hx := Bd.exec
  have hby := Bd.bytes
  have hml : c.maxLocals = 2 := hml0
  have hown : s.vm.findClass "java/util/ArrayList$Itr" = some m.cls := findClass_of_methodNamed Bd.named
  have hnm := (name_of_methodNamed Bd.named Bd.method).1
  have X0 : Stand p l e ({ frames := 1, cells := 0, slots := 0, locals := 12 } : Room) s m #[(.ref o0), (.ref o1)] below meth c s₁ [] 0 0 := Stand.of_body Bd
  have e0 : s₁.heap = h0 := by rw [← hh, Bd.state]; rfl
  have N0 := Fr.nil n0
  show own_Go p e below s (QitrInit Z o0 o1 w_o0_this_0 w_o0_lastRet w_o0_expectedModCount w_o0_cursor w_o1_modCount h0 n0) ({ frames := 1, cells := 0, slots := 0, locals := 12 } : Room).cells ({ frames := 1, cells := 0, slots := 0, locals := 12 } : Room).slots (s₁.setTop (entryFrame m #[(.ref o0), (.ref o1)] 2))
  rw [ef_itrInit m o0 o1]
  have K0 : Keep h0 h0 [o0] := Keep.refl h0 [o0]
  refine own_go (S' := s₁.setTop (mkF m 2 #[.val (.ref o0), .val (.ref o1)] [(.ref o1), (.ref o0)])) (fun t k => ?_) ?_
  · show Steps p.tables e below (s₁.setTop (mkF m 0 #[.val (.ref o0), .val (.ref o1)] [])) t
    refine XS.aloadN X0.here hx rfl (hb hby d25_0) rfl rfl ?_
    show Steps p.tables e below (s₁.setTop (mkF m 1 #[.val (.ref o0), .val (.ref o1)] [(.ref o0)])) t
    refine XS.aloadN X0.here hx rfl (hb hby d25_1) rfl rfl ?_
    exact k
  obtain ⟨T468, h468, X468, e468, W468, st468⟩ := putF X0 hx hZ hown (host := "") (Or.inl (hw _ (List.mem_of_getElem? (i := 196) rfl))) Via.refl e0 F_o0_this_0 E_o0 (Or.inr ⟨(hw _ (List.mem_of_getElem? (i := 197) rfl)), rfl, hnm⟩) (hw _ (List.mem_of_getElem? (i := 190) rfl)) (ty := (.object "java/util/ArrayList")) (by decide) rfl rfl (g := (mkF m 2 #[.val (.ref o0), .val (.ref o1)] [(.ref o1), (.ref o0)])) rfl rfl (hb hby d25_2)
  have f469 : Exa Z h468 o0 "java/util/ArrayList$Itr" := E_o0.wr W468
  have f470 : Fld Z h468 o0 "java/util/ArrayList$Itr" "lastRet" "I" (.int w_o0_lastRet) := F_o0_lastRet.other W468 (Or.inr (slot_ne (Or.inl (hw _ (List.mem_of_getElem? (i := 200) rfl))) (Or.inr (hw _ (List.mem_of_getElem? (i := 197) rfl))) (by decide) (t := .int) (t' := (.object "java/util/ArrayList")) (by decide) (by decide)))
  have f471 : Fld Z h468 o0 "java/util/ArrayList$Itr" "expectedModCount" "I" (.int w_o0_expectedModCount) := F_o0_expectedModCount.other W468 (Or.inr (slot_ne (Or.inl (hw _ (List.mem_of_getElem? (i := 204) rfl))) (Or.inr (hw _ (List.mem_of_getElem? (i := 197) rfl))) (by decide) (t := .int) (t' := (.object "java/util/ArrayList")) (by decide) (by decide)))
  have f472 : Fld Z h468 o0 "java/util/ArrayList$Itr" "cursor" "I" (.int w_o0_cursor) := F_o0_cursor.other W468 (Or.inr (slot_ne (Or.inl (hw _ (List.mem_of_getElem? (i := 215) rfl))) (Or.inr (hw _ (List.mem_of_getElem? (i := 197) rfl))) (by decide) (t := .int) (t' := (.object "java/util/ArrayList")) (by decide) (by decide)))
  have f473 : Fld Z h468 o1 "java/util/AbstractList" "modCount" "I" (.int w_o1_modCount) := F_o1_modCount.other W468 (Or.inl ne_o1_o0)
  have f474 : Fld Z h468 o0 "java/util/ArrayList$Itr" "this$0" "Ljava/util/ArrayList;" (.ref o1) := F_o0_this_0.same W468
  have N475 := Fr.snoc X468 N0 g_o0
  have Z476 : n0 ≤ h468.size := Nat.le_trans Z0 (Keep.of_wr W468).1
  have K477 : Keep h0 h468 [o0] := K0.wr W468 (Or.inl (List.mem_of_getElem? (i := 0) rfl))
  refine own_go st468 ?_
  refine own_go (S' := T468.setTop (mkF m 6 #[.val (.ref o0), .val (.ref o1)] [(.ref o0)])) (fun t k => ?_) ?_
  · show Steps p.tables e below (T468.setTop (mkF m 5 #[.val (.ref o0), .val (.ref o1)] [])) t
    refine XS.aloadN X468.here hx rfl (hb hby d25_5) rfl rfl ?_
    exact k
  obtain ⟨T478, X478, e478, st478⟩ := initO X468 hx hZ hown (hw _ (List.mem_of_getElem? (i := 198) rfl)) (hw _ (List.mem_of_getElem? (i := 7) rfl)) (hw _ (List.mem_of_getElem? (i := 8) rfl)) e468 (g := (mkF m 6 #[.val (.ref o0), .val (.ref o1)] [(.ref o0)])) rfl (by rw [hml]; rfl) rfl (hb hby d25_6) (by decide) (W := 0) (by show 2 * 0 + _ ≤ _; exact Nat.le_of_eq rfl) (by decide)
  refine own_go st478 ?_
  refine own_go (S' := T478.setTop (mkF m 11 #[.val (.ref o0), .val (.ref o1)] [(.int (-1 : Int32)), (.ref o0)])) (fun t k => ?_) ?_
  · show Steps p.tables e below (T478.setTop (mkF m 9 #[.val (.ref o0), .val (.ref o1)] [])) t
    refine XS.aloadN X478.here hx rfl (hb hby d25_9) rfl rfl ?_
    show Steps p.tables e below (T478.setTop (mkF m 10 #[.val (.ref o0), .val (.ref o1)] [(.ref o0)])) t
    refine XS.iconst X478.here hx rfl (hb hby d25_10) ?_
    exact k
  obtain ⟨T479, h479, X479, e479, W479, st479⟩ := putF X478 hx hZ hown (host := "") (Or.inl (hw _ (List.mem_of_getElem? (i := 199) rfl))) Via.refl e478 f470 f469 (Or.inl (hw _ (List.mem_of_getElem? (i := 200) rfl))) (hw _ (List.mem_of_getElem? (i := 190) rfl)) (ty := .int) (by decide) rfl rfl (g := (mkF m 11 #[.val (.ref o0), .val (.ref o1)] [(.int (-1 : Int32)), (.ref o0)])) rfl rfl (hb hby d25_11)
  have f480 : Exa Z h479 o0 "java/util/ArrayList$Itr" := f469.wr W479
  have f481 : Fld Z h479 o0 "java/util/ArrayList$Itr" "expectedModCount" "I" (.int w_o0_expectedModCount) := f471.other W479 (Or.inr (slot_ne (Or.inl (hw _ (List.mem_of_getElem? (i := 204) rfl))) (Or.inl (hw _ (List.mem_of_getElem? (i := 200) rfl))) (by decide) (t := .int) (t' := .int) (by decide) (by decide)))
  have f482 : Fld Z h479 o0 "java/util/ArrayList$Itr" "cursor" "I" (.int w_o0_cursor) := f472.other W479 (Or.inr (slot_ne (Or.inl (hw _ (List.mem_of_getElem? (i := 215) rfl))) (Or.inl (hw _ (List.mem_of_getElem? (i := 200) rfl))) (by decide) (t := .int) (t' := .int) (by decide) (by decide)))
  have f483 : Fld Z h479 o1 "java/util/AbstractList" "modCount" "I" (.int w_o1_modCount) := f473.other W479 (Or.inl ne_o1_o0)
  have f484 : Fld Z h479 o0 "java/util/ArrayList$Itr" "this$0" "Ljava/util/ArrayList;" (.ref o1) := f474.other W479 (Or.inr (slot_ne (Or.inr (hw _ (List.mem_of_getElem? (i := 197) rfl))) (Or.inl (hw _ (List.mem_of_getElem? (i := 200) rfl))) (by decide) (t := (.object "java/util/ArrayList")) (t' := .int) (by decide) (by decide)))
  have f485 : Fld Z h479 o0 "java/util/ArrayList$Itr" "lastRet" "I" (.int (-1 : Int32)) := f470.same W479
  have N486 := Fr.snoc X479 N475 g_o0
  have Z487 : n0 ≤ h479.size := Nat.le_trans Z476 (Keep.of_wr W479).1
  have K488 : Keep h0 h479 [o0] := K477.wr W479 (Or.inl (List.mem_of_getElem? (i := 0) rfl))
  refine own_go st479 ?_
  refine own_go (S' := T479.setTop (mkF m 16 #[.val (.ref o0), .val (.ref o1)] [(.ref o0), (.ref o0)])) (fun t k => ?_) ?_
  · show Steps p.tables e below (T479.setTop (mkF m 14 #[.val (.ref o0), .val (.ref o1)] [])) t
    refine XS.aloadN X479.here hx rfl (hb hby d25_14) rfl rfl ?_
    show Steps p.tables e below (T479.setTop (mkF m 15 #[.val (.ref o0), .val (.ref o1)] [(.ref o0)])) t
    refine XS.aloadN X479.here hx rfl (hb hby d25_15) rfl rfl ?_
    exact k
  obtain ⟨T489, X489, e489, st489⟩ := getF X479 hx hZ hown (host := "") (Or.inl (hw _ (List.mem_of_getElem? (i := 196) rfl))) Via.refl e479 f484 (g := (mkF m 16 #[.val (.ref o0), .val (.ref o1)] [(.ref o0), (.ref o0)])) rfl rfl (hb hby d25_16)
  refine own_go st489 ?_
  obtain ⟨T490, X490, e490, st490⟩ := getF X489 hx hZ hown (host := "") (Or.inl (hw _ (List.mem_of_getElem? (i := 201) rfl))) (Via.of (hw _ (List.mem_of_getElem? (i := 202) rfl))) e489 f483 (g := (mkF m 19 #[.val (.ref o0), .val (.ref o1)] [(.ref o1), (.ref o0)])) rfl rfl (hb hby d25_19)
  refine own_go st490 ?_
  obtain ⟨T491, h491, X491, e491, W491, st491⟩ := putF X490 hx hZ hown (host := "") (Or.inl (hw _ (List.mem_of_getElem? (i := 203) rfl))) Via.refl e490 f481 f480 (Or.inl (hw _ (List.mem_of_getElem? (i := 204) rfl))) (hw _ (List.mem_of_getElem? (i := 190) rfl)) (ty := .int) (by decide) rfl rfl (g := (mkF m 22 #[.val (.ref o0), .val (.ref o1)] [(.int w_o1_modCount), (.ref o0)])) rfl rfl (hb hby d25_22)
  have f492 : Exa Z h491 o0 "java/util/ArrayList$Itr" := f480.wr W491
  have f493 : Fld Z h491 o0 "java/util/ArrayList$Itr" "cursor" "I" (.int w_o0_cursor) := f482.other W491 (Or.inr (slot_ne (Or.inl (hw _ (List.mem_of_getElem? (i := 215) rfl))) (Or.inl (hw _ (List.mem_of_getElem? (i := 204) rfl))) (by decide) (t := .int) (t' := .int) (by decide) (by decide)))
  have f494 : Fld Z h491 o1 "java/util/AbstractList" "modCount" "I" (.int w_o1_modCount) := f483.other W491 (Or.inl ne_o1_o0)
  have f495 : Fld Z h491 o0 "java/util/ArrayList$Itr" "this$0" "Ljava/util/ArrayList;" (.ref o1) := f484.other W491 (Or.inr (slot_ne (Or.inr (hw _ (List.mem_of_getElem? (i := 197) rfl))) (Or.inl (hw _ (List.mem_of_getElem? (i := 204) rfl))) (by decide) (t := (.object "java/util/ArrayList")) (t' := .int) (by decide) (by decide)))
  have f496 : Fld Z h491 o0 "java/util/ArrayList$Itr" "lastRet" "I" (.int (-1 : Int32)) := f485.other W491 (Or.inr (slot_ne (Or.inl (hw _ (List.mem_of_getElem? (i := 200) rfl))) (Or.inl (hw _ (List.mem_of_getElem? (i := 204) rfl))) (by decide) (t := .int) (t' := .int) (by decide) (by decide)))
  have f497 : Fld Z h491 o0 "java/util/ArrayList$Itr" "expectedModCount" "I" (.int w_o1_modCount) := f481.same W491
  have N498 := Fr.snoc X491 N486 g_o0
  have Z499 : n0 ≤ h491.size := Nat.le_trans Z487 (Keep.of_wr W491).1
  have K500 : Keep h0 h491 [o0] := K488.wr W491 (Or.inl (List.mem_of_getElem? (i := 0) rfl))
  refine own_go st491 ?_
  obtain ⟨fs, hr, hrun, hended, hW, hsame⟩ := X491.leave (v := none) (fun _ => rfl)
  refine own_end (v := none) ?_ hrun hended ?_ hW (hsame.mono (by decide) (by decide))
  · show Steps p.tables e below (T491.setTop (mkF m 25 #[.val (.ref o0), .val (.ref o1)] [])) _
    exact X491.returnOut hx Bd.returns (hb hby d25_25) hr
  · show QitrInit Z o0 o1 w_o0_this_0 w_o0_lastRet w_o0_expectedModCount w_o0_cursor w_o1_modCount h0 n0 _ T491.heap _
    rw [e491]
    exact ⟨rfl, N498, K500, f492, f493, f495, f496, f497⟩
theorem d24_0 : decode jdk_38_method_55_code 0 = .ok (.new 267, 3) := by decide +kernel
theorem d24_3 : decode jdk_38_method_55_code 3 = .ok (.dup, 1) := by decide +kernel
theorem d24_4 : decode jdk_38_method_55_code 4 = .ok (.aload_n 0, 1) := by decide +kernel
theorem d24_5 : decode jdk_38_method_55_code 5 = .ok (.invokespecial 269, 3) := by decide +kernel
theorem pd_246 : parseMethodDescriptor "(Ljava/util/ArrayList;)V" = some ⟨[(.object "java/util/ArrayList")], none⟩ := by decide +kernel
theorem d24_8 : decode jdk_38_method_55_code 8 = .ok (.areturn, 1) := by decide +kernel
theorem ef_iter (m : MethodId) (x0 : Addr) : entryFrame m #[(.ref x0)] 1 = mkF m 0 #[.val (.ref x0)] [] := by first | (simp [entryFrame, mkF, argsToLocals, Value.category]; done) | rfl
def Qiter (Z : State) (o0 : Addr) (w_o0_modCount : Int32) (h0 : Heap) (n0 : Nat) (v : Option Value) (h : Heap) (L : List Loc) : Prop := ∃ x0_ : Addr, v = some (.ref x0_) ∧ Fr n0 L ∧ Keep h0 h [] ∧ h0.size ≤ x0_ ∧ Exa Z h x0_ "java/util/ArrayList$Itr" ∧ Fld Z h x0_ "java/util/ArrayList$Itr" "cursor" "I" (.int (0 : Int32)) ∧ Fld Z h x0_ "java/util/ArrayList$Itr" "this$0" "Ljava/util/ArrayList;" (.ref o0) ∧ Fld Z h x0_ "java/util/ArrayList$Itr" "lastRet" "I" (.int (-1 : Int32)) ∧ Fld Z h x0_ "java/util/ArrayList$Itr" "expectedModCount" "I" (.int w_o0_modCount)
set_option maxRecDepth 65536 in
set_option maxHeartbeats 40000000 in
theorem iter (l : Launch) (Z : State) (a0 : Array Value) (hw : ∀ d ∈ tables_1, d.before a0 Z = true) (ws : List Jvm.Cond) (o0 : Addr) (w_o0_modCount : Int32) (h0 : Heap) (n0 : Nat) (Z0 : n0 ≤ h0.size) (F_o0_modCount : Fld Z h0 o0 "java/util/AbstractList" "modCount" "I" (.int w_o0_modCount)) :
    MetFree l (⟨"java/util/ArrayList", "iterator", "()Ljava/util/Iterator;"⟩ : MethodName) (head1 (Jvm.Cond.code (⟨"java/util/ArrayList", "iterator", "()Ljava/util/Iterator;"⟩ : MethodName) jdk_38_method_55_code 1 (some (.object "java/util/Iterator")) :: ws) ({ frames := 2, cells := 1, slots := 4, locals := 26 } : Room)) (fun a U => a = #[(.ref o0)] ∧ Z.Warmed39 U.vm ∧ U.heap = h0) (fun _ _ _ _ _ => True) (fun _ U o U' => ∃ v L, o = .returned v ∧ Qiter Z o0 w_o0_modCount h0 n0 v U'.heap L ∧ FrameEnd U o U' L ({ frames := 2, cells := 1, slots := 4, locals := 26 } : Room).cells ({ frames := 2, cells := 1, slots := 4, locals := 26 } : Room).slots) := by
  refine MetFree.of_bodySF (plainFor_of_name pn_18) hisR ?_
  intro p e s m args below meth c s₁ Bd hml0 hP hK
  obtain ⟨rfl, hZ, hh⟩ := hP
  have hx := Bd.exec
  have hby := Bd.bytes
  have hml : c.maxLocals = 1 := hml0
  have hown : s.vm.findClass "java/util/ArrayList" = some m.cls := findClass_of_methodNamed Bd.named
  have hnm := (name_of_methodNamed Bd.named Bd.method).1
  have X0 : Stand p l e ({ frames := 2, cells := 1, slots := 4, locals := 26 } : Room) s m #[(.ref o0)] below meth c s₁ [] 0 0 := Stand.of_body Bd
  have e0 : s₁.heap = h0 := by rw [← hh, Bd.state]; rfl
  have N0 := Fr.nil n0
  show own_Go p e below s (Qiter Z o0 w_o0_modCount h0 n0) ({ frames := 2, cells := 1, slots := 4, locals := 26 } : Room).cells ({ frames := 2, cells := 1, slots := 4, locals := 26 } : Room).slots (s₁.setTop (entryFrame m #[(.ref o0)] 1))
  rw [ef_iter m o0]
  have K0 : Keep h0 h0 [] := Keep.refl h0 []
  obtain ⟨T501, h501, X501, e501, E501, A501, D501, -, st501⟩ := newO X0 hx hZ hown (hw _ (List.mem_of_getElem? (i := 189) rfl)) (hw _ (List.mem_of_getElem? (i := 190) rfl)) (hw _ (List.mem_of_getElem? (i := 191) rfl)) e0 (g := (mkF m 0 #[.val (.ref o0)] [])) rfl (hb hby d24_0) (by decide) (by decide)
  obtain ⟨b501, g501⟩ : ∃ z, z = h0.size := ⟨_, rfl⟩
  rw [← g501] at A501 D501 st501
  have ne502 : o0 ≠ b501 := Nat.ne_of_lt (Nat.lt_of_lt_of_le F_o0_modCount.lt (Nat.le_of_eq g501.symm))
  have g_b501 : n0 ≤ b501 := Nat.le_trans Z0 (Nat.le_of_eq g501.symm)
  have sz_b501 : h0.size ≤ b501 := Nat.le_trans K0.1 (Nat.le_of_eq g501.symm)
  have K503 : Keep h0 h501 [] := K0.ext E501
  have Z504 : n0 ≤ h501.size := Nat.le_trans Z0 E501.1
  have f505 : Fld Z h501 o0 "java/util/AbstractList" "modCount" "I" (.int w_o0_modCount) := Fld.ext E501 F_o0_modCount
  have f506 : Fld Z h501 b501 "java/util/ArrayList$Itr" "this$0" "Ljava/util/ArrayList;" .null := D501 (Or.inr (hw _ (List.mem_of_getElem? (i := 197) rfl))) (ty := (.object "java/util/ArrayList")) (by decide)
  have f507 : Fld Z h501 b501 "java/util/ArrayList$Itr" "lastRet" "I" (.int (0 : Int32)) := D501 (Or.inl (hw _ (List.mem_of_getElem? (i := 200) rfl))) (ty := .int) (by decide)
  have f508 : Fld Z h501 b501 "java/util/ArrayList$Itr" "expectedModCount" "I" (.int (0 : Int32)) := D501 (Or.inl (hw _ (List.mem_of_getElem? (i := 204) rfl))) (ty := .int) (by decide)
  have f509 : Fld Z h501 b501 "java/util/ArrayList$Itr" "cursor" "I" (.int (0 : Int32)) := D501 (Or.inl (hw _ (List.mem_of_getElem? (i := 215) rfl))) (ty := .int) (by decide)
  refine own_go st501 ?_
  refine own_go (S' := T501.setTop (mkF m 5 #[.val (.ref o0)] [(.ref o0), (.ref b501), (.ref b501)])) (fun t k => ?_) ?_
  · show Steps p.tables e below (T501.setTop (mkF m 3 #[.val (.ref o0)] [(.ref b501)])) t
    refine XS.dup X501.here hx rfl (hb hby d24_3) rfl rfl ?_
    show Steps p.tables e below (T501.setTop (mkF m 4 #[.val (.ref o0)] [(.ref b501), (.ref b501)])) t
    refine XS.aloadN X501.here hx rfl (hb hby d24_4) rfl rfl ?_
    exact k
  obtain ⟨_, _, ⟨T510, L510, kk510, nn510⟩, -, X510, ⟨Lc510, hQ510, l510, y510, z510⟩, st510⟩ := X501.specialBack hx (y := (⟨"java/util/ArrayList$Itr", "<init>", "(Ljava/util/ArrayList;)V"⟩ : MethodName)) rfl hown (mvT hZ (hw _ (List.mem_of_getElem? (i := 192) rfl))) (mvT hZ (hw _ (List.mem_of_getElem? (i := 193) rfl))) (mvT hZ (hw _ (List.mem_of_getElem? (i := 195) rfl))) (by decide) (backOf (W := 1) (itrInit l Z a0 hw [] b501 o0 (.null) (0 : Int32) (0 : Int32) (0 : Int32) w_o0_modCount h501 n0 Z504 A501 f506 f507 f508 f509 g_b501 f505 ne502) hZ (hw _ (List.mem_of_getElem? (i := 195) rfl)) (hw _ (List.mem_of_getElem? (i := 191) rfl)) (by decide) (by decide)) (g := (mkF m 5 #[.val (.ref o0)] [(.ref o0), (.ref b501), (.ref b501)])) rfl (by rw [hml]; rfl) (Steps.refl _) (a := b501) (argsL := [(.ref o0)]) (rest := [(.ref b501)]) (lenOf pd_246 rfl) rfl (by show 2 * 0 + _ ≤ _; exact Nat.le_of_eq rfl) (hb hby d24_5) (fun _ _ => ⟨rfl, e501, (by decide : 1 + 0 ≤ _), (by decide : 4 + 0 ≤ _)⟩)
  dsimp only [Pt.U, Pt.locs, Pt.cells, Pt.slots] at X510 l510 y510 z510 st510 hQ510
  subst l510 y510 z510
  obtain ⟨rfl, N511, K512, p513, p514, p515, p516, p517⟩ := hQ510
  have N518 := Fr.app N0 N511
  have f519 : Fld Z T510.heap o0 "java/util/AbstractList" "modCount" "I" (.int w_o0_modCount) := f505.keep K512 (ninS ne502 nin0)
  have f520 : Exa Z T510.heap b501 "java/util/ArrayList$Itr" := A501.keep K512
  have Z521 : n0 ≤ T510.heap.size := Nat.le_trans Z504 K512.1
  have K522 : Keep h0 T510.heap [] := K503.trans K512 (allS (Or.inr sz_b501) all0)
  refine own_goT st510 ?_
  obtain ⟨fs, hr, hrun, hended, hW, hsame⟩ := X510.leave (v := some (.ref b501)) (fun h => by rw [Bd.returns] at h; cases h)
  refine own_end (v := some (.ref b501)) ?_ hrun hended ?_ hW (hsame.mono (by decide) (by decide))
  · show Steps p.tables e below (T510.setTop (mkF m 8 #[.val (.ref o0)] [(.ref b501)])) _
    jvm_step X510.here [X510.here.top, hx, (hb hby d24_8), X510.method', Bd.returns, Value.isRef, FieldType.isReference]
    first | (intro acts; rw [hr _ acts rfl rfl rfl]) | rw [hr _ _ rfl rfl rfl]
    exact Steps.refl _
  · show Qiter Z o0 w_o0_modCount h0 n0 _ T510.heap _
    exact ⟨b501, rfl, N518, K522, sz_b501, p513, p514, p515, p516, p517⟩
theorem d26_0 : decode jdk_49_method_2_code 0 = .ok (.aload_n 0, 1) := by decide +kernel
theorem d26_1 : decode jdk_49_method_2_code 1 = .ok (.getfield 25, 3) := by decide +kernel
theorem d26_4 : decode jdk_49_method_2_code 4 = .ok (.aload_n 0, 1) := by decide +kernel
theorem d26_5 : decode jdk_49_method_2_code 5 = .ok (.getfield 1, 3) := by decide +kernel
theorem d26_8 : decode jdk_49_method_2_code 8 = .ok (.getfield 28, 3) := by decide +kernel
theorem d26_11 : decode jdk_49_method_2_code 11 = .ok (.if_icmp .eq 7, 3) := by decide +kernel
theorem d26_18 : decode jdk_49_method_2_code 18 = .ok (.iconst 0, 1) := by decide +kernel
theorem d26_19 : decode jdk_49_method_2_code 19 = .ok (.ireturn, 1) := by decide +kernel
theorem ef_hasNext (m : MethodId) (x0 : Addr) : entryFrame m #[(.ref x0)] 1 = mkF m 0 #[.val (.ref x0)] [] := by first | (simp [entryFrame, mkF, argsToLocals, Value.category]; done) | rfl
def QhasNext (Z : State) (o0 : Addr) (w_o0_this_0 : Addr) (h0 : Heap) (n0 : Nat) (v : Option Value) (h : Heap) (L : List Loc) : Prop := v = some (.int (0 : Int32)) ∧ Fr n0 L ∧ h = h0
set_option maxRecDepth 65536 in
set_option maxHeartbeats 40000000 in
theorem hasNext (l : Launch) (Z : State) (a0 : Array Value) (hw : ∀ d ∈ tables_1, d.before a0 Z = true) (ws : List Jvm.Cond) (o0 : Addr) (w_o0_this_0 : Addr) (h0 : Heap) (n0 : Nat) (Z0 : n0 ≤ h0.size) (F_o0_cursor : Fld Z h0 o0 "java/util/ArrayList$Itr" "cursor" "I" (.int (0 : Int32))) (F_o0_this_0 : Fld Z h0 o0 "java/util/ArrayList$Itr" "this$0" "Ljava/util/ArrayList;" (.ref w_o0_this_0)) (F_w_o0_this_0_size : Fld Z h0 w_o0_this_0 "java/util/ArrayList" "size" "I" (.int (0 : Int32))) :
    MetFree l (⟨"java/util/ArrayList$Itr", "hasNext", "()Z"⟩ : MethodName) (head1 (Jvm.Cond.code (⟨"java/util/ArrayList$Itr", "hasNext", "()Z"⟩ : MethodName) jdk_49_method_2_code 1 (some .boolean) :: ws) ({ frames := 0, cells := 0, slots := 0, locals := 0 } : Room)) (fun a U => a = #[(.ref o0)] ∧ Z.Warmed39 U.vm ∧ U.heap = h0) (fun _ _ _ _ _ => True) (fun _ U o U' => ∃ v L, o = .returned v ∧ QhasNext Z o0 w_o0_this_0 h0 n0 v U'.heap L ∧ FrameEnd U o U' L ({ frames := 0, cells := 0, slots := 0, locals := 0 } : Room).cells ({ frames := 0, cells := 0, slots := 0, locals := 0 } : Room).slots) := by
  refine MetFree.of_bodySF (plainFor_of_name pn_241) hisR ?_
  intro p e s m args below meth c s₁ Bd hml0 hP hK
  obtain ⟨rfl, hZ, hh⟩ := hP
  have hx := Bd.exec
  have hby := Bd.bytes
  have hml : c.maxLocals = 1 := hml0
  have hown : s.vm.findClass "java/util/ArrayList$Itr" = some m.cls := findClass_of_methodNamed Bd.named
  have hnm := (name_of_methodNamed Bd.named Bd.method).1
  have X0 : Stand p l e ({ frames := 0, cells := 0, slots := 0, locals := 0 } : Room) s m #[(.ref o0)] below meth c s₁ [] 0 0 := Stand.of_body Bd
  have e0 : s₁.heap = h0 := by rw [← hh, Bd.state]; rfl
  have N0 := Fr.nil n0
  show own_Go p e below s (QhasNext Z o0 w_o0_this_0 h0 n0) ({ frames := 0, cells := 0, slots := 0, locals := 0 } : Room).cells ({ frames := 0, cells := 0, slots := 0, locals := 0 } : Room).slots (s₁.setTop (entryFrame m #[(.ref o0)] 1))
  rw [ef_hasNext m o0]
  have K0 : Keep h0 h0 [] := Keep.refl h0 []
  refine own_go (S' := s₁.setTop (mkF m 1 #[.val (.ref o0)] [(.ref o0)])) (fun t k => ?_) ?_
  · show Steps p.tables e below (s₁.setTop (mkF m 0 #[.val (.ref o0)] [])) t
    refine XS.aloadN X0.here hx rfl (hb hby d26_0) rfl rfl ?_
    exact k
  obtain ⟨T523, X523, e523, st523⟩ := getF X0 hx hZ hown (host := "") (Or.inl (hw _ (List.mem_of_getElem? (i := 214) rfl))) Via.refl e0 F_o0_cursor (g := (mkF m 1 #[.val (.ref o0)] [(.ref o0)])) rfl rfl (hb hby d26_1)
  refine own_go st523 ?_
  refine own_go (S' := T523.setTop (mkF m 5 #[.val (.ref o0)] [(.ref o0), (.int (0 : Int32))])) (fun t k => ?_) ?_
  · show Steps p.tables e below (T523.setTop (mkF m 4 #[.val (.ref o0)] [(.int (0 : Int32))])) t
    refine XS.aloadN X523.here hx rfl (hb hby d26_4) rfl rfl ?_
    exact k
  obtain ⟨T524, X524, e524, st524⟩ := getF X523 hx hZ hown (host := "") (Or.inl (hw _ (List.mem_of_getElem? (i := 196) rfl))) Via.refl e523 F_o0_this_0 (g := (mkF m 5 #[.val (.ref o0)] [(.ref o0), (.int (0 : Int32))])) rfl rfl (hb hby d26_5)
  refine own_go st524 ?_
  obtain ⟨T525, X525, e525, st525⟩ := getF X524 hx hZ hown (Or.inr (hw _ (List.mem_of_getElem? (i := 216) rfl))) Via.refl e524 F_w_o0_this_0_size (g := (mkF m 8 #[.val (.ref o0)] [(.ref w_o0_this_0), (.int (0 : Int32))])) rfl rfl (hb hby d26_8)
  refine own_go st525 ?_
  refine own_go (S' := T525.setTop (mkF m 19 #[.val (.ref o0)] [(.int (0 : Int32))])) (fun t k => ?_) ?_
  · show Steps p.tables e below (T525.setTop (mkF m 11 #[.val (.ref o0)] [(.int (0 : Int32)), (.int (0 : Int32))])) t
    refine XS.icmpYes X525.here hx rfl (pc0 := 11) (pc' := 18) rfl (hb hby d26_11) rfl (teq (by decide)).1 (by decide) (by decide) ?_
    show Steps p.tables e below (T525.setTop (mkF m 18 #[.val (.ref o0)] [])) t
    refine XS.iconst X525.here hx rfl (hb hby d26_18) ?_
    exact k
  obtain ⟨fs, hr, hrun, hended, hW, hsame⟩ := X525.leave (v := some (.int (0 : Int32))) (fun h => by rw [Bd.returns] at h; cases h)
  refine own_end (v := some (.int (0 : Int32))) ?_ hrun hended ?_ hW (hsame.mono (by decide) (by decide))
  · show Steps p.tables e below (T525.setTop (mkF m 19 #[.val (.ref o0)] [(.int (0 : Int32))])) _
    exact retN X525 hx (t := .boolean) Bd.returns (by simp) (hb hby d26_19) hr
  · show QhasNext Z o0 w_o0_this_0 h0 n0 _ T525.heap _
    rw [e525]
    exact ⟨rfl, N0, rfl⟩
theorem d22_0 : decode prog_44_method_6_code 0 = .ok (.aload_n 0, 1) := by decide +kernel
theorem d22_1 : decode prog_44_method_6_code 1 = .ok (.getfield 53, 3) := by decide +kernel
theorem d22_4 : decode prog_44_method_6_code 4 = .ok (.ifnull 13, 3) := by decide +kernel
theorem d22_17 : decode prog_44_method_6_code 17 = .ok (.aload_n 0, 1) := by decide +kernel
theorem d22_18 : decode prog_44_method_6_code 18 = .ok (.aload_n 1, 1) := by decide +kernel
theorem d22_19 : decode prog_44_method_6_code 19 = .ok (.putfield 53, 3) := by decide +kernel
theorem d22_22 : decode prog_44_method_6_code 22 = .ok (.aload_n 0, 1) := by decide +kernel
theorem d22_23 : decode prog_44_method_6_code 23 = .ok (.aload_n 2, 1) := by decide +kernel
theorem d22_24 : decode prog_44_method_6_code 24 = .ok (.putfield 24, 3) := by decide +kernel
theorem d22_27 : decode prog_44_method_6_code 27 = .ok (.aload_n 0, 1) := by decide +kernel
theorem d22_28 : decode prog_44_method_6_code 28 = .ok (.aload_n 0, 1) := by decide +kernel
theorem d22_29 : decode prog_44_method_6_code 29 = .ok (.getfield 122, 3) := by decide +kernel
theorem d22_32 : decode prog_44_method_6_code 32 = .ok (.ifnonnull 10, 3) := by decide +kernel
theorem d22_35 : decode prog_44_method_6_code 35 = .ok (.aload_n 1, 1) := by decide +kernel
theorem d22_36 : decode prog_44_method_6_code 36 = .ok (.invokevirtual 126, 3) := by decide +kernel
theorem d22_39 : decode prog_44_method_6_code 39 = .ok (.goto 10, 3) := by decide +kernel
theorem d22_49 : decode prog_44_method_6_code 49 = .ok (.putfield 81, 3) := by decide +kernel
theorem d22_52 : decode prog_44_method_6_code 52 = .ok (.aload_n 0, 1) := by decide +kernel
theorem d22_53 : decode prog_44_method_6_code 53 = .ok (.getfield 16, 3) := by decide +kernel
theorem d22_56 : decode prog_44_method_6_code 56 = .ok (.invokeinterface 135 1, 5) := by decide +kernel
theorem pd_276 : parseMethodDescriptor "()Ljava/util/Iterator;" = some ⟨[], some (.object "java/util/Iterator")⟩ := by decide +kernel
theorem d22_61 : decode prog_44_method_6_code 61 = .ok (.astore_n 3, 1) := by decide +kernel
theorem d22_62 : decode prog_44_method_6_code 62 = .ok (.aload_n 3, 1) := by decide +kernel
theorem d22_63 : decode prog_44_method_6_code 63 = .ok (.invokeinterface 139 1, 5) := by decide +kernel
theorem pd_280 : parseMethodDescriptor "()Z" = some ⟨[], some .boolean⟩ := by decide +kernel
theorem d22_68 : decode prog_44_method_6_code 68 = .ok (.ifCond .eq 31, 3) := by decide +kernel
theorem d22_99 : decode prog_44_method_6_code 99 = .ok (.return_, 1) := by decide +kernel
theorem ef_ipStart (m : MethodId) (x0 : Addr) (x1 : Addr) (x2 : Addr) : entryFrame m #[(.ref x0), (.ref x1), (.ref x2)] 5 = mkF m 0 #[.val (.ref x0), .val (.ref x1), .val (.ref x2), .unset, .unset] [] := by first | (simp [entryFrame, mkF, argsToLocals, Value.category]; done) | rfl
def QipStart (Z : State) (o0 : Addr) (o1 : Addr) (o2 : Addr) (w_o0_components : Value) (w_o0_recognizers : Addr) (w_o0_hotspot : Value) (w_o0_plain : Value) (w_o0_under : Value) (w_o0_visit : Value) (w_o1_userAction : Addr) (w_w_o0_recognizers_modCount : Int32) (h0 : Heap) (n0 : Nat) (v : Option Value) (h : Heap) (L : List Loc) : Prop := v = none ∧ Fr n0 L ∧ Keep h0 h [o0] ∧ Exa Z h o0 "com/example/dropwire/dropwire/inprocess/InProcessPeer" ∧ Fld Z h o0 "com/example/dropwire/dropwire/inprocess/InProcessPeer" "components" "Ljava/util/List;" w_o0_components ∧ Fld Z h o0 "com/example/dropwire/dropwire/inprocess/InProcessPeer" "recognizers" "Ljava/util/List;" (.ref w_o0_recognizers) ∧ Fld Z h o0 "com/example/dropwire/dropwire/inprocess/InProcessPeer" "recognizing" "Lcom/example/dropwire/dropwire/inprocess/InProcessPeer$Recognizer;" .null ∧ Fld Z h o0 "com/example/dropwire/dropwire/inprocess/InProcessPeer" "under" "Lcom/example/dropwire/dropwire/inprocess/InProcessPeer$Component;" w_o0_under ∧ Fld Z h o0 "com/example/dropwire/dropwire/inprocess/InProcessPeer" "visit" "Lcom/example/dropwire/dropwire/dnd/DropTargetVisit;" w_o0_visit ∧ Fld Z h o0 "com/example/dropwire/dropwire/inprocess/InProcessPeer" "drag" "Lcom/example/dropwire/dropwire/dnd/DragSourceContext;" (.ref o1) ∧ Fld Z h o0 "com/example/dropwire/dropwire/inprocess/InProcessPeer" "hotspot" "Lcom/example/dropwire/dropwire/dnd/Point;" (.ref o2) ∧ Fld Z h o0 "com/example/dropwire/dropwire/inprocess/InProcessPeer" "plain" "Lcom/example/dropwire/dropwire/dnd/Actions;" (.ref w_o1_userAction)
set_option maxRecDepth 65536 in
set_option maxHeartbeats 40000000 in
theorem ipStart (l : Launch) (Z : State) (a0 : Array Value) (hw : ∀ d ∈ tables_1, d.before a0 Z = true) (ws : List Jvm.Cond) (o0 : Addr) (o1 : Addr) (o2 : Addr) (w_o0_components : Value) (w_o0_recognizers : Addr) (w_o0_hotspot : Value) (w_o0_plain : Value) (w_o0_under : Value) (w_o0_visit : Value) (w_o1_userAction : Addr) (w_w_o0_recognizers_modCount : Int32) (h0 : Heap) (n0 : Nat) (Z0 : n0 ≤ h0.size) (F_o0_drag : Fld Z h0 o0 "com/example/dropwire/dropwire/inprocess/InProcessPeer" "drag" "Lcom/example/dropwire/dropwire/dnd/DragSourceContext;" .null) (E_o0 : Exa Z h0 o0 "com/example/dropwire/dropwire/inprocess/InProcessPeer") (g_o0 : n0 ≤ o0) (F_o0_components : Fld Z h0 o0 "com/example/dropwire/dropwire/inprocess/InProcessPeer" "components" "Ljava/util/List;" w_o0_components) (F_o0_recognizers : Fld Z h0 o0 "com/example/dropwire/dropwire/inprocess/InProcessPeer" "recognizers" "Ljava/util/List;" (.ref w_o0_recognizers)) (F_o0_hotspot : Fld Z h0 o0 "com/example/dropwire/dropwire/inprocess/InProcessPeer" "hotspot" "Lcom/example/dropwire/dropwire/dnd/Point;" w_o0_hotspot) (F_o0_recognizing : Fld Z h0 o0 "com/example/dropwire/dropwire/inprocess/InProcessPeer" "recognizing" "Lcom/example/dropwire/dropwire/inprocess/InProcessPeer$Recognizer;" .null) (F_o0_plain : Fld Z h0 o0 "com/example/dropwire/dropwire/inprocess/InProcessPeer" "plain" "Lcom/example/dropwire/dropwire/dnd/Actions;" w_o0_plain) (F_o0_under : Fld Z h0 o0 "com/example/dropwire/dropwire/inprocess/InProcessPeer" "under" "Lcom/example/dropwire/dropwire/inprocess/InProcessPeer$Component;" w_o0_under) (F_o0_visit : Fld Z h0 o0 "com/example/dropwire/dropwire/inprocess/InProcessPeer" "visit" "Lcom/example/dropwire/dropwire/dnd/DropTargetVisit;" w_o0_visit) (F_o1_userAction : Fld Z h0 o1 "com/example/dropwire/dropwire/dnd/DragSourceContext" "userAction" "Lcom/example/dropwire/dropwire/dnd/Actions;" (.ref w_o1_userAction)) (ne_o1_o0 : o1 ≠ o0) (E_o1 : Exa Z h0 o1 "com/example/dropwire/dropwire/dnd/DragSourceContext") (F_w_o0_recognizers_modCount : Fld Z h0 w_o0_recognizers "java/util/AbstractList" "modCount" "I" (.int w_w_o0_recognizers_modCount)) (ne_w_o0_recognizers_o0 : w_o0_recognizers ≠ o0) (E_w_o0_recognizers : Exa Z h0 w_o0_recognizers "java/util/ArrayList") (F_w_o0_recognizers_size : Fld Z h0 w_o0_recognizers "java/util/ArrayList" "size" "I" (.int (0 : Int32))) :
    MetFree l (⟨"com/example/dropwire/dropwire/inprocess/InProcessPeer", "startDrag", "(Lcom/example/dropwire/dropwire/dnd/DragSourceContext;Lcom/example/dropwire/dropwire/dnd/Point;)V"⟩ : MethodName) (head1 (Jvm.Cond.code (⟨"com/example/dropwire/dropwire/inprocess/InProcessPeer", "startDrag", "(Lcom/example/dropwire/dropwire/dnd/DragSourceContext;Lcom/example/dropwire/dropwire/dnd/Point;)V"⟩ : MethodName) prog_44_method_6_code 5 none :: ws) ({ frames := 3, cells := 1, slots := 4, locals := 38 } : Room)) (fun a U => a = #[(.ref o0), (.ref o1), (.ref o2)] ∧ Z.Warmed39 U.vm ∧ U.heap = h0) (fun _ _ _ _ _ => True) (fun _ U o U' => ∃ v L, o = .returned v ∧ QipStart Z o0 o1 o2 w_o0_components w_o0_recognizers w_o0_hotspot w_o0_plain w_o0_under w_o0_visit w_o1_userAction w_w_o0_recognizers_modCount h0 n0 v U'.heap L ∧ FrameEnd U o U' L ({ frames := 3, cells := 1, slots := 4, locals := 38 } : Room).cells ({ frames := 3, cells := 1, slots := 4, locals := 38 } : Room).slots) := by
  refine MetFree.of_bodySF (plainFor_of_name pn_54) hisR ?_
  intro p e s m args below meth c s₁ Bd hml0 hP hK
  obtain ⟨rfl, hZ, hh⟩ := hP
  have hx := Bd.exec
  have hby := Bd.bytes
  have hml : c.maxLocals = 5 := hml0
  have hown : s.vm.findClass "com/example/dropwire/dropwire/inprocess/InProcessPeer" = some m.cls := findClass_of_methodNamed Bd.named
  have hnm := (name_of_methodNamed Bd.named Bd.method).1
  have X0 : Stand p l e ({ frames := 3, cells := 1, slots := 4, locals := 38 } : Room) s m #[(.ref o0), (.ref o1), (.ref o2)] below meth c s₁ [] 0 0 := Stand.of_body Bd
  have e0 : s₁.heap = h0 := by rw [← hh, Bd.state]; rfl
  have N0 := Fr.nil n0
  show own_Go p e below s (QipStart Z o0 o1 o2 w_o0_components w_o0_recognizers w_o0_hotspot w_o0_plain w_o0_under w_o0_visit w_o1_userAction w_w_o0_recognizers_modCount h0 n0) ({ frames := 3, cells := 1, slots := 4, locals := 38 } : Room).cells ({ frames := 3, cells := 1, slots := 4, locals := 38 } : Room).slots (s₁.setTop (entryFrame m #[(.ref o0), (.ref o1), (.ref o2)] 5))
  rw [ef_ipStart m o0 o1 o2]
  have K0 : Keep h0 h0 [o0] := Keep.refl h0 [o0]
  refine own_go (S' := s₁.setTop (mkF m 1 #[.val (.ref o0), .val (.ref o1), .val (.ref o2), .unset, .unset] [(.ref o0)])) (fun t k => ?_) ?_
  · show Steps p.tables e below (s₁.setTop (mkF m 0 #[.val (.ref o0), .val (.ref o1), .val (.ref o2), .unset, .unset] [])) t
    refine XS.aloadN X0.here hx rfl (hb hby d22_0) rfl rfl ?_
    exact k
  obtain ⟨T526, X526, e526, st526⟩ := getF X0 hx hZ hown (host := "") (Or.inl (hw _ (List.mem_of_getElem? (i := 60) rfl))) Via.refl e0 F_o0_drag (g := (mkF m 1 #[.val (.ref o0), .val (.ref o1), .val (.ref o2), .unset, .unset] [(.ref o0)])) rfl rfl (hb hby d22_1)
  refine own_go st526 ?_
  refine own_go (S' := T526.setTop (mkF m 19 #[.val (.ref o0), .val (.ref o1), .val (.ref o2), .unset, .unset] [(.ref o1), (.ref o0)])) (fun t k => ?_) ?_
  · show Steps p.tables e below (T526.setTop (mkF m 4 #[.val (.ref o0), .val (.ref o1), .val (.ref o2), .unset, .unset] [.null])) t
    refine XS.ifnullYes X526.here hx rfl (pc0 := 4) (pc' := 17) rfl (hb hby d22_4) rfl (by decide) (by decide) ?_
    show Steps p.tables e below (T526.setTop (mkF m 17 #[.val (.ref o0), .val (.ref o1), .val (.ref o2), .unset, .unset] [])) t
    refine XS.aloadN X526.here hx rfl (hb hby d22_17) rfl rfl ?_
    show Steps p.tables e below (T526.setTop (mkF m 18 #[.val (.ref o0), .val (.ref o1), .val (.ref o2), .unset, .unset] [(.ref o0)])) t
    refine XS.aloadN X526.here hx rfl (hb hby d22_18) rfl rfl ?_
    exact k
  obtain ⟨T527, h527, X527, e527, W527, st527⟩ := putF X526 hx hZ hown (host := "") (Or.inl (hw _ (List.mem_of_getElem? (i := 60) rfl))) Via.refl e526 F_o0_drag E_o0 (Or.inl (hw _ (List.mem_of_getElem? (i := 61) rfl))) (hw _ (List.mem_of_getElem? (i := 1) rfl)) (ty := (.object "com/example/dropwire/dropwire/dnd/DragSourceContext")) (by decide) rfl rfl (g := (mkF m 19 #[.val (.ref o0), .val (.ref o1), .val (.ref o2), .unset, .unset] [(.ref o1), (.ref o0)])) rfl rfl (hb hby d22_19)
  have f528 : Exa Z h527 o0 "com/example/dropwire/dropwire/inprocess/InProcessPeer" := E_o0.wr W527
  have f529 : Fld Z h527 o0 "com/example/dropwire/dropwire/inprocess/InProcessPeer" "components" "Ljava/util/List;" w_o0_components := F_o0_components.other W527 (Or.inr (slot_ne (Or.inr (hw _ (List.mem_of_getElem? (i := 34) rfl))) (Or.inl (hw _ (List.mem_of_getElem? (i := 61) rfl))) (by decide) (t := (.object "java/util/List")) (t' := (.object "com/example/dropwire/dropwire/dnd/DragSourceContext")) (by decide) (by decide)))
  have f530 : Fld Z h527 o0 "com/example/dropwire/dropwire/inprocess/InProcessPeer" "recognizers" "Ljava/util/List;" (.ref w_o0_recognizers) := F_o0_recognizers.other W527 (Or.inr (slot_ne (Or.inr (hw _ (List.mem_of_getElem? (i := 36) rfl))) (Or.inl (hw _ (List.mem_of_getElem? (i := 61) rfl))) (by decide) (t := (.object "java/util/List")) (t' := (.object "com/example/dropwire/dropwire/dnd/DragSourceContext")) (by decide) (by decide)))
  have f531 : Fld Z h527 o0 "com/example/dropwire/dropwire/inprocess/InProcessPeer" "hotspot" "Lcom/example/dropwire/dropwire/dnd/Point;" w_o0_hotspot := F_o0_hotspot.other W527 (Or.inr (slot_ne (Or.inl (hw _ (List.mem_of_getElem? (i := 54) rfl))) (Or.inl (hw _ (List.mem_of_getElem? (i := 61) rfl))) (by decide) (t := (.object "com/example/dropwire/dropwire/dnd/Point")) (t' := (.object "com/example/dropwire/dropwire/dnd/DragSourceContext")) (by decide) (by decide)))
  have f532 : Fld Z h527 o0 "com/example/dropwire/dropwire/inprocess/InProcessPeer" "recognizing" "Lcom/example/dropwire/dropwire/inprocess/InProcessPeer$Recognizer;" .null := F_o0_recognizing.other W527 (Or.inr (slot_ne (Or.inl (hw _ (List.mem_of_getElem? (i := 172) rfl))) (Or.inl (hw _ (List.mem_of_getElem? (i := 61) rfl))) (by decide) (t := (.object "com/example/dropwire/dropwire/inprocess/InProcessPeer$Recognizer")) (t' := (.object "com/example/dropwire/dropwire/dnd/DragSourceContext")) (by decide) (by decide)))
  have f533 : Fld Z h527 o0 "com/example/dropwire/dropwire/inprocess/InProcessPeer" "plain" "Lcom/example/dropwire/dropwire/dnd/Actions;" w_o0_plain := F_o0_plain.other W527 (Or.inr (slot_ne (Or.inl (hw _ (List.mem_of_getElem? (i := 179) rfl))) (Or.inl (hw _ (List.mem_of_getElem? (i := 61) rfl))) (by decide) (t := (.object "com/example/dropwire/dropwire/dnd/Actions")) (t' := (.object "com/example/dropwire/dropwire/dnd/DragSourceContext")) (by decide) (by decide)))
  have f534 : Fld Z h527 o0 "com/example/dropwire/dropwire/inprocess/InProcessPeer" "under" "Lcom/example/dropwire/dropwire/inprocess/InProcessPeer$Component;" w_o0_under := F_o0_under.other W527 (Or.inr (slot_ne (Or.inl (hw _ (List.mem_of_getElem? (i := 232) rfl))) (Or.inl (hw _ (List.mem_of_getElem? (i := 61) rfl))) (by decide) (t := (.object "com/example/dropwire/dropwire/inprocess/InProcessPeer$Component")) (t' := (.object "com/example/dropwire/dropwire/dnd/DragSourceContext")) (by decide) (by decide)))
  have f535 : Fld Z h527 o0 "com/example/dropwire/dropwire/inprocess/InProcessPeer" "visit" "Lcom/example/dropwire/dropwire/dnd/DropTargetVisit;" w_o0_visit := F_o0_visit.other W527 (Or.inr (slot_ne (Or.inl (hw _ (List.mem_of_getElem? (i := 234) rfl))) (Or.inl (hw _ (List.mem_of_getElem? (i := 61) rfl))) (by decide) (t := (.object "com/example/dropwire/dropwire/dnd/DropTargetVisit")) (t' := (.object "com/example/dropwire/dropwire/dnd/DragSourceContext")) (by decide) (by decide)))
  have f536 : Fld Z h527 o1 "com/example/dropwire/dropwire/dnd/DragSourceContext" "userAction" "Lcom/example/dropwire/dropwire/dnd/Actions;" (.ref w_o1_userAction) := F_o1_userAction.other W527 (Or.inl ne_o1_o0)
  have f537 : Exa Z h527 o1 "com/example/dropwire/dropwire/dnd/DragSourceContext" := E_o1.wr W527
  have f538 : Fld Z h527 w_o0_recognizers "java/util/AbstractList" "modCount" "I" (.int w_w_o0_recognizers_modCount) := F_w_o0_recognizers_modCount.other W527 (Or.inl ne_w_o0_recognizers_o0)
  have f539 : Exa Z h527 w_o0_recognizers "java/util/ArrayList" := E_w_o0_recognizers.wr W527
  have f540 : Fld Z h527 w_o0_recognizers "java/util/ArrayList" "size" "I" (.int (0 : Int32)) := F_w_o0_recognizers_size.other W527 (Or.inl ne_w_o0_recognizers_o0)
  have f541 : Fld Z h527 o0 "com/example/dropwire/dropwire/inprocess/InProcessPeer" "drag" "Lcom/example/dropwire/dropwire/dnd/DragSourceContext;" (.ref o1) := F_o0_drag.same W527
  have N542 := Fr.snoc X527 N0 g_o0
  have Z543 : n0 ≤ h527.size := Nat.le_trans Z0 (Keep.of_wr W527).1
  have K544 : Keep h0 h527 [o0] := K0.wr W527 (Or.inl (List.mem_of_getElem? (i := 0) rfl))
  refine own_go st527 ?_
  refine own_go (S' := T527.setTop (mkF m 24 #[.val (.ref o0), .val (.ref o1), .val (.ref o2), .unset, .unset] [(.ref o2), (.ref o0)])) (fun t k => ?_) ?_
  · show Steps p.tables e below (T527.setTop (mkF m 22 #[.val (.ref o0), .val (.ref o1), .val (.ref o2), .unset, .unset] [])) t
    refine XS.aloadN X527.here hx rfl (hb hby d22_22) rfl rfl ?_
    show Steps p.tables e below (T527.setTop (mkF m 23 #[.val (.ref o0), .val (.ref o1), .val (.ref o2), .unset, .unset] [(.ref o0)])) t
    refine XS.aloadN X527.here hx rfl (hb hby d22_23) rfl rfl ?_
    exact k
  obtain ⟨T545, h545, X545, e545, W545, st545⟩ := putF X527 hx hZ hown (host := "") (Or.inl (hw _ (List.mem_of_getElem? (i := 53) rfl))) Via.refl e527 f531 f528 (Or.inl (hw _ (List.mem_of_getElem? (i := 54) rfl))) (hw _ (List.mem_of_getElem? (i := 1) rfl)) (ty := (.object "com/example/dropwire/dropwire/dnd/Point")) (by decide) rfl rfl (g := (mkF m 24 #[.val (.ref o0), .val (.ref o1), .val (.ref o2), .unset, .unset] [(.ref o2), (.ref o0)])) rfl rfl (hb hby d22_24)
  have f546 : Exa Z h545 o0 "com/example/dropwire/dropwire/inprocess/InProcessPeer" := f528.wr W545
  have f547 : Fld Z h545 o0 "com/example/dropwire/dropwire/inprocess/InProcessPeer" "components" "Ljava/util/List;" w_o0_components := f529.other W545 (Or.inr (slot_ne (Or.inr (hw _ (List.mem_of_getElem? (i := 34) rfl))) (Or.inl (hw _ (List.mem_of_getElem? (i := 54) rfl))) (by decide) (t := (.object "java/util/List")) (t' := (.object "com/example/dropwire/dropwire/dnd/Point")) (by decide) (by decide)))
  have f548 : Fld Z h545 o0 "com/example/dropwire/dropwire/inprocess/InProcessPeer" "recognizers" "Ljava/util/List;" (.ref w_o0_recognizers) := f530.other W545 (Or.inr (slot_ne (Or.inr (hw _ (List.mem_of_getElem? (i := 36) rfl))) (Or.inl (hw _ (List.mem_of_getElem? (i := 54) rfl))) (by decide) (t := (.object "java/util/List")) (t' := (.object "com/example/dropwire/dropwire/dnd/Point")) (by decide) (by decide)))
  have f549 : Fld Z h545 o0 "com/example/dropwire/dropwire/inprocess/InProcessPeer" "recognizing" "Lcom/example/dropwire/dropwire/inprocess/InProcessPeer$Recognizer;" .null := f532.other W545 (Or.inr (slot_ne (Or.inl (hw _ (List.mem_of_getElem? (i := 172) rfl))) (Or.inl (hw _ (List.mem_of_getElem? (i := 54) rfl))) (by decide) (t := (.object "com/example/dropwire/dropwire/inprocess/InProcessPeer$Recognizer")) (t' := (.object "com/example/dropwire/dropwire/dnd/Point")) (by decide) (by decide)))
  have f550 : Fld Z h545 o0 "com/example/dropwire/dropwire/inprocess/InProcessPeer" "plain" "Lcom/example/dropwire/dropwire/dnd/Actions;" w_o0_plain := f533.other W545 (Or.inr (slot_ne (Or.inl (hw _ (List.mem_of_getElem? (i := 179) rfl))) (Or.inl (hw _ (List.mem_of_getElem? (i := 54) rfl))) (by decide) (t := (.object "com/example/dropwire/dropwire/dnd/Actions")) (t' := (.object "com/example/dropwire/dropwire/dnd/Point")) (by decide) (by decide)))
  have f551 : Fld Z h545 o0 "com/example/dropwire/dropwire/inprocess/InProcessPeer" "under" "Lcom/example/dropwire/dropwire/inprocess/InProcessPeer$Component;" w_o0_under := f534.other W545 (Or.inr (slot_ne (Or.inl (hw _ (List.mem_of_getElem? (i := 232) rfl))) (Or.inl (hw _ (List.mem_of_getElem? (i := 54) rfl))) (by decide) (t := (.object "com/example/dropwire/dropwire/inprocess/InProcessPeer$Component")) (t' := (.object "com/example/dropwire/dropwire/dnd/Point")) (by decide) (by decide)))
  have f552 : Fld Z h545 o0 "com/example/dropwire/dropwire/inprocess/InProcessPeer" "visit" "Lcom/example/dropwire/dropwire/dnd/DropTargetVisit;" w_o0_visit := f535.other W545 (Or.inr (slot_ne (Or.inl (hw _ (List.mem_of_getElem? (i := 234) rfl))) (Or.inl (hw _ (List.mem_of_getElem? (i := 54) rfl))) (by decide) (t := (.object "com/example/dropwire/dropwire/dnd/DropTargetVisit")) (t' := (.object "com/example/dropwire/dropwire/dnd/Point")) (by decide) (by decide)))
  have f553 : Fld Z h545 o1 "com/example/dropwire/dropwire/dnd/DragSourceContext" "userAction" "Lcom/example/dropwire/dropwire/dnd/Actions;" (.ref w_o1_userAction) := f536.other W545 (Or.inl ne_o1_o0)
  have f554 : Exa Z h545 o1 "com/example/dropwire/dropwire/dnd/DragSourceContext" := f537.wr W545
  have f555 : Fld Z h545 w_o0_recognizers "java/util/AbstractList" "modCount" "I" (.int w_w_o0_recognizers_modCount) := f538.other W545 (Or.inl ne_w_o0_recognizers_o0)
  have f556 : Exa Z h545 w_o0_recognizers "java/util/ArrayList" := f539.wr W545
  have f557 : Fld Z h545 w_o0_recognizers "java/util/ArrayList" "size" "I" (.int (0 : Int32)) := f540.other W545 (Or.inl ne_w_o0_recognizers_o0)
  have f558 : Fld Z h545 o0 "com/example/dropwire/dropwire/inprocess/InProcessPeer" "drag" "Lcom/example/dropwire/dropwire/dnd/DragSourceContext;" (.ref o1) := f541.other W545 (Or.inr (slot_ne (Or.inl (hw _ (List.mem_of_getElem? (i := 61) rfl))) (Or.inl (hw _ (List.mem_of_getElem? (i := 54) rfl))) (by decide) (t := (.object "com/example/dropwire/dropwire/dnd/DragSourceContext")) (t' := (.object "com/example/dropwire/dropwire/dnd/Point")) (by decide) (by decide)))
  have f559 : Fld Z h545 o0 "com/example/dropwire/dropwire/inprocess/InProcessPeer" "hotspot" "Lcom/example/dropwire/dropwire/dnd/Point;" (.ref o2) := f531.same W545
  have N560 := Fr.snoc X545 N542 g_o0
  have Z561 : n0 ≤ h545.size := Nat.le_trans Z543 (Keep.of_wr W545).1
  have K562 : Keep h0 h545 [o0] := K544.wr W545 (Or.inl (List.mem_of_getElem? (i := 0) rfl))
  refine own_go st545 ?_
  refine own_go (S' := T545.setTop (mkF m 29 #[.val (.ref o0), .val (.ref o1), .val (.ref o2), .unset, .unset] [(.ref o0), (.ref o0)])) (fun t k => ?_) ?_
  · show Steps p.tables e below (T545.setTop (mkF m 27 #[.val (.ref o0), .val (.ref o1), .val (.ref o2), .unset, .unset] [])) t
    refine XS.aloadN X545.here hx rfl (hb hby d22_27) rfl rfl ?_
    show Steps p.tables e below (T545.setTop (mkF m 28 #[.val (.ref o0), .val (.ref o1), .val (.ref o2), .unset, .unset] [(.ref o0)])) t
    refine XS.aloadN X545.here hx rfl (hb hby d22_28) rfl rfl ?_
    exact k
  obtain ⟨T563, X563, e563, st563⟩ := getF X545 hx hZ hown (host := "") (Or.inl (hw _ (List.mem_of_getElem? (i := 171) rfl))) Via.refl e545 f549 (g := (mkF m 29 #[.val (.ref o0), .val (.ref o1), .val (.ref o2), .unset, .unset] [(.ref o0), (.ref o0)])) rfl rfl (hb hby d22_29)
  refine own_go st563 ?_
  refine own_go (S' := T563.setTop (mkF m 36 #[.val (.ref o0), .val (.ref o1), .val (.ref o2), .unset, .unset] [(.ref o1), (.ref o0)])) (fun t k => ?_) ?_
  · show Steps p.tables e below (T563.setTop (mkF m 32 #[.val (.ref o0), .val (.ref o1), .val (.ref o2), .unset, .unset] [.null, (.ref o0)])) t
    refine XS.ifnonnullNo X563.here hx rfl (hb hby d22_32) rfl ?_
    show Steps p.tables e below (T563.setTop (mkF m 35 #[.val (.ref o0), .val (.ref o1), .val (.ref o2), .unset, .unset] [(.ref o0)])) t
    refine XS.aloadN X563.here hx rfl (hb hby d22_35) rfl rfl ?_
    exact k
  obtain ⟨cq564, kq564, qa564, qb564, qc564⟩ := isOf hZ e563 f554
  obtain ⟨_, _, ⟨T564, L564, kk564, nn564⟩, -, X564, ⟨Lc564, hQ564, l564, y564, z564⟩, st564⟩ := X563.virtualBack hx (y := (⟨"com/example/dropwire/dropwire/dnd/DragSourceContext", "getUserAction", "()Lcom/example/dropwire/dropwire/dnd/Actions;"⟩ : MethodName)) (z := (⟨"com/example/dropwire/dropwire/dnd/DragSourceContext", "getUserAction", "()Lcom/example/dropwire/dropwire/dnd/Actions;"⟩ : MethodName)) hown (mvT hZ (hw _ (List.mem_of_getElem? (i := 173) rfl))) (mvT hZ (hw _ (List.mem_of_getElem? (i := 174) rfl))) (notFace_of_selects (args := #[]) (mvT hZ (hw _ (List.mem_of_getElem? (i := 176) rfl)))) (mvT hZ (hw _ (List.mem_of_getElem? (i := 176) rfl))) (mvT hZ (hw _ (List.mem_of_getElem? (i := 175) rfl))) (by decide) (backOf (W := 1) (dscUA l Z a0 hw [] o1 w_o1_userAction h545 n0 Z561 f553) hZ (hw _ (List.mem_of_getElem? (i := 177) rfl)) (hw _ (List.mem_of_getElem? (i := 126) rfl)) (by decide) (by decide)) qa564 qc564 (g := (mkF m 36 #[.val (.ref o0), .val (.ref o1), .val (.ref o2), .unset, .unset] [(.ref o1), (.ref o0)])) rfl (by rw [hml]; rfl) (Steps.refl _) (argsL := []) (rest := [(.ref o0)]) (lenOf pd_172 rfl) rfl (by show 2 * 0 + _ ≤ _; exact Nat.le_of_eq rfl) (hb hby d22_36) (fun _ _ => ⟨rfl, e563, (by decide : 0 + 0 ≤ _), (by decide : 0 + 0 ≤ _)⟩)
  dsimp only [Pt.U, Pt.locs, Pt.cells, Pt.slots] at X564 l564 y564 z564 st564 hQ564
  subst l564 y564 z564
  obtain ⟨rfl, N565, e564⟩ := hQ564
  have N567 := Fr.app N560 N565
  refine own_goT st564 ?_
  refine own_go (S' := T564.setTop (mkF m 49 #[.val (.ref o0), .val (.ref o1), .val (.ref o2), .unset, .unset] [(.ref w_o1_userAction), (.ref o0)])) (fun t k => ?_) ?_
  · show Steps p.tables e below (T564.setTop (mkF m 39 #[.val (.ref o0), .val (.ref o1), .val (.ref o2), .unset, .unset] [(.ref w_o1_userAction), (.ref o0)])) t
    refine XS.goto X564.here hx rfl (pc0 := 39) (pc' := 49) rfl (hb hby d22_39) (by decide) (by decide) ?_
    exact k
  obtain ⟨T568, h568, X568, e568, W568, st568⟩ := putF X564 hx hZ hown (host := "") (Or.inl (hw _ (List.mem_of_getElem? (i := 178) rfl))) Via.refl e564 f550 f546 (Or.inl (hw _ (List.mem_of_getElem? (i := 179) rfl))) (hw _ (List.mem_of_getElem? (i := 1) rfl)) (ty := (.object "com/example/dropwire/dropwire/dnd/Actions")) (by decide) rfl rfl (g := (mkF m 49 #[.val (.ref o0), .val (.ref o1), .val (.ref o2), .unset, .unset] [(.ref w_o1_userAction), (.ref o0)])) rfl rfl (hb hby d22_49)
  have f569 : Exa Z h568 o0 "com/example/dropwire/dropwire/inprocess/InProcessPeer" := f546.wr W568
  have f570 : Fld Z h568 o0 "com/example/dropwire/dropwire/inprocess/InProcessPeer" "components" "Ljava/util/List;" w_o0_components := f547.other W568 (Or.inr (slot_ne (Or.inr (hw _ (List.mem_of_getElem? (i := 34) rfl))) (Or.inl (hw _ (List.mem_of_getElem? (i := 179) rfl))) (by decide) (t := (.object "java/util/List")) (t' := (.object "com/example/dropwire/dropwire/dnd/Actions")) (by decide) (by decide)))
  have f571 : Fld Z h568 o0 "com/example/dropwire/dropwire/inprocess/InProcessPeer" "recognizers" "Ljava/util/List;" (.ref w_o0_recognizers) := f548.other W568 (Or.inr (slot_ne (Or.inr (hw _ (List.mem_of_getElem? (i := 36) rfl))) (Or.inl (hw _ (List.mem_of_getElem? (i := 179) rfl))) (by decide) (t := (.object "java/util/List")) (t' := (.object "com/example/dropwire/dropwire/dnd/Actions")) (by decide) (by decide)))
  have f572 : Fld Z h568 o0 "com/example/dropwire/dropwire/inprocess/InProcessPeer" "recognizing" "Lcom/example/dropwire/dropwire/inprocess/InProcessPeer$Recognizer;" .null := f549.other W568 (Or.inr (slot_ne (Or.inl (hw _ (List.mem_of_getElem? (i := 172) rfl))) (Or.inl (hw _ (List.mem_of_getElem? (i := 179) rfl))) (by decide) (t := (.object "com/example/dropwire/dropwire/inprocess/InProcessPeer$Recognizer")) (t' := (.object "com/example/dropwire/dropwire/dnd/Actions")) (by decide) (by decide)))
  have f573 : Fld Z h568 o0 "com/example/dropwire/dropwire/inprocess/InProcessPeer" "under" "Lcom/example/dropwire/dropwire/inprocess/InProcessPeer$Component;" w_o0_under := f551.other W568 (Or.inr (slot_ne (Or.inl (hw _ (List.mem_of_getElem? (i := 232) rfl))) (Or.inl (hw _ (List.mem_of_getElem? (i := 179) rfl))) (by decide) (t := (.object "com/example/dropwire/dropwire/inprocess/InProcessPeer$Component")) (t' := (.object "com/example/dropwire/dropwire/dnd/Actions")) (by decide) (by decide)))
  have f574 : Fld Z h568 o0 "com/example/dropwire/dropwire/inprocess/InProcessPeer" "visit" "Lcom/example/dropwire/dropwire/dnd/DropTargetVisit;" w_o0_visit := f552.other W568 (Or.inr (slot_ne (Or.inl (hw _ (List.mem_of_getElem? (i := 234) rfl))) (Or.inl (hw _ (List.mem_of_getElem? (i := 179) rfl))) (by decide) (t := (.object "com/example/dropwire/dropwire/dnd/DropTargetVisit")) (t' := (.object "com/example/dropwire/dropwire/dnd/Actions")) (by decide) (by decide)))
  have f575 : Fld Z h568 o1 "com/example/dropwire/dropwire/dnd/DragSourceContext" "userAction" "Lcom/example/dropwire/dropwire/dnd/Actions;" (.ref w_o1_userAction) := f553.other W568 (Or.inl ne_o1_o0)
  have f576 : Exa Z h568 o1 "com/example/dropwire/dropwire/dnd/DragSourceContext" := f554.wr W568
  have f577 : Fld Z h568 w_o0_recognizers "java/util/AbstractList" "modCount" "I" (.int w_w_o0_recognizers_modCount) := f555.other W568 (Or.inl ne_w_o0_recognizers_o0)
  have f578 : Exa Z h568 w_o0_recognizers "java/util/ArrayList" := f556.wr W568
  have f579 : Fld Z h568 w_o0_recognizers "java/util/ArrayList" "size" "I" (.int (0 : Int32)) := f557.other W568 (Or.inl ne_w_o0_recognizers_o0)
  have f580 : Fld Z h568 o0 "com/example/dropwire/dropwire/inprocess/InProcessPeer" "drag" "Lcom/example/dropwire/dropwire/dnd/DragSourceContext;" (.ref o1) := f558.other W568 (Or.inr (slot_ne (Or.inl (hw _ (List.mem_of_getElem? (i := 61) rfl))) (Or.inl (hw _ (List.mem_of_getElem? (i := 179) rfl))) (by decide) (t := (.object "com/example/dropwire/dropwire/dnd/DragSourceContext")) (t' := (.object "com/example/dropwire/dropwire/dnd/Actions")) (by decide) (by decide)))
  have f581 : Fld Z h568 o0 "com/example/dropwire/dropwire/inprocess/InProcessPeer" "hotspot" "Lcom/example/dropwire/dropwire/dnd/Point;" (.ref o2) := f559.other W568 (Or.inr (slot_ne (Or.inl (hw _ (List.mem_of_getElem? (i := 54) rfl))) (Or.inl (hw _ (List.mem_of_getElem? (i := 179) rfl))) (by decide) (t := (.object "com/example/dropwire/dropwire/dnd/Point")) (t' := (.object "com/example/dropwire/dropwire/dnd/Actions")) (by decide) (by decide)))
  have f582 : Fld Z h568 o0 "com/example/dropwire/dropwire/inprocess/InProcessPeer" "plain" "Lcom/example/dropwire/dropwire/dnd/Actions;" (.ref w_o1_userAction) := f550.same W568
  have N583 := Fr.snoc X568 N567 g_o0
  have Z584 : n0 ≤ h568.size := Nat.le_trans Z561 (Keep.of_wr W568).1
  have K585 : Keep h0 h568 [o0] := K562.wr W568 (Or.inl (List.mem_of_getElem? (i := 0) rfl))
  refine own_go st568 ?_
  refine own_go (S' := T568.setTop (mkF m 53 #[.val (.ref o0), .val (.ref o1), .val (.ref o2), .unset, .unset] [(.ref o0)])) (fun t k => ?_) ?_
  · show Steps p.tables e below (T568.setTop (mkF m 52 #[.val (.ref o0), .val (.ref o1), .val (.ref o2), .unset, .unset] [])) t
    refine XS.aloadN X568.here hx rfl (hb hby d22_52) rfl rfl ?_
    exact k
  obtain ⟨T586, X586, e586, st586⟩ := getF X568 hx hZ hown (host := "") (Or.inl (hw _ (List.mem_of_getElem? (i := 35) rfl))) Via.refl e568 f571 (g := (mkF m 53 #[.val (.ref o0), .val (.ref o1), .val (.ref o2), .unset, .unset] [(.ref o0)])) rfl rfl (hb hby d22_53)
  refine own_go st586 ?_
  obtain ⟨cq587, kq587, qa587, qb587, qc587⟩ := isOf hZ e586 f578
  obtain ⟨_, _, ⟨T587, L587, kk587, nn587⟩, -, X587, ⟨Lc587, hQ587, l587, y587, z587⟩, st587⟩ := X586.interfaceBack hx (xi := (⟨"java/util/List", "iterator", "()Ljava/util/Iterator;"⟩ : MethodName)) (y := (⟨"java/util/ArrayList", "iterator", "()Ljava/util/Iterator;"⟩ : MethodName)) hown (mvT hZ (hw _ (List.mem_of_getElem? (i := 180) rfl))) (mvT hZ (hw _ (List.mem_of_getElem? (i := 181) rfl))) (mvT hZ (hw _ (List.mem_of_getElem? (i := 182) rfl))) (mvT hZ (hw _ (List.mem_of_getElem? (i := 183) rfl))) (mvT hZ (hw _ (List.mem_of_getElem? (i := 184) rfl))) (mvT hZ (hw _ (List.mem_of_getElem? (i := 185) rfl))) (mvT hZ (hw _ (List.mem_of_getElem? (i := 186) rfl))) (mvT hZ (hw _ (List.mem_of_getElem? (i := 187) rfl))) (by decide) (backOf (W := 0) (iter l Z a0 hw [] w_o0_recognizers w_w_o0_recognizers_modCount h568 n0 Z584 f577) hZ (hw _ (List.mem_of_getElem? (i := 188) rfl)) (hw _ (List.mem_of_getElem? (i := 11) rfl)) (by decide) (by decide)) qa587 qb587 qc587 (g := (mkF m 56 #[.val (.ref o0), .val (.ref o1), .val (.ref o2), .unset, .unset] [(.ref w_o0_recognizers)])) rfl (by rw [hml]; rfl) (Steps.refl _) (argsL := []) (rest := []) (lenOf pd_276 rfl) rfl (by show 2 * 0 + _ ≤ _; exact Nat.le_of_eq rfl) (hb hby d22_56) (fun _ _ => ⟨rfl, e586, (by decide : 0 + 1 ≤ _), (by decide : 0 + 4 ≤ _)⟩)
  dsimp only [Pt.U, Pt.locs, Pt.cells, Pt.slots] at X587 l587 y587 z587 st587 hQ587
  subst l587 y587 z587
  obtain ⟨b588, rfl, N589, K590, p591, p592, p593, p594, p595, p596⟩ := hQ587
  have N597 := Fr.app N583 N589
  have ne598 : o0 ≠ b588 := Nat.ne_of_lt (Nat.lt_of_lt_of_le f569.lt p591)
  have ne599 : o1 ≠ b588 := Nat.ne_of_lt (Nat.lt_of_lt_of_le f575.lt p591)
  have ne600 : w_o0_recognizers ≠ b588 := Nat.ne_of_lt (Nat.lt_of_lt_of_le f577.lt p591)
  have g_b588 : n0 ≤ b588 := Nat.le_trans Z584 p591
  have sz_b588 : h0.size ≤ b588 := Nat.le_trans K585.1 p591
  have f601 : Exa Z T587.heap o0 "com/example/dropwire/dropwire/inprocess/InProcessPeer" := f569.keep K590
  have f602 : Fld Z T587.heap o0 "com/example/dropwire/dropwire/inprocess/InProcessPeer" "components" "Ljava/util/List;" w_o0_components := f570.keep K590 nin0
  have f603 : Fld Z T587.heap o0 "com/example/dropwire/dropwire/inprocess/InProcessPeer" "recognizers" "Ljava/util/List;" (.ref w_o0_recognizers) := f571.keep K590 nin0
  have f604 : Fld Z T587.heap o0 "com/example/dropwire/dropwire/inprocess/InProcessPeer" "recognizing" "Lcom/example/dropwire/dropwire/inprocess/InProcessPeer$Recognizer;" .null := f572.keep K590 nin0
  have f605 : Fld Z T587.heap o0 "com/example/dropwire/dropwire/inprocess/InProcessPeer" "under" "Lcom/example/dropwire/dropwire/inprocess/InProcessPeer$Component;" w_o0_under := f573.keep K590 nin0
  have f606 : Fld Z T587.heap o0 "com/example/dropwire/dropwire/inprocess/InProcessPeer" "visit" "Lcom/example/dropwire/dropwire/dnd/DropTargetVisit;" w_o0_visit := f574.keep K590 nin0
  have f607 : Fld Z T587.heap o1 "com/example/dropwire/dropwire/dnd/DragSourceContext" "userAction" "Lcom/example/dropwire/dropwire/dnd/Actions;" (.ref w_o1_userAction) := f575.keep K590 nin0
  have f608 : Exa Z T587.heap o1 "com/example/dropwire/dropwire/dnd/DragSourceContext" := f576.keep K590
  have f609 : Fld Z T587.heap w_o0_recognizers "java/util/AbstractList" "modCount" "I" (.int w_w_o0_recognizers_modCount) := f577.keep K590 nin0
  have f610 : Exa Z T587.heap w_o0_recognizers "java/util/ArrayList" := f578.keep K590
  have f611 : Fld Z T587.heap w_o0_recognizers "java/util/ArrayList" "size" "I" (.int (0 : Int32)) := f579.keep K590 nin0
  have f612 : Fld Z T587.heap o0 "com/example/dropwire/dropwire/inprocess/InProcessPeer" "drag" "Lcom/example/dropwire/dropwire/dnd/DragSourceContext;" (.ref o1) := f580.keep K590 nin0
  have f613 : Fld Z T587.heap o0 "com/example/dropwire/dropwire/inprocess/InProcessPeer" "hotspot" "Lcom/example/dropwire/dropwire/dnd/Point;" (.ref o2) := f581.keep K590 nin0
  have f614 : Fld Z T587.heap o0 "com/example/dropwire/dropwire/inprocess/InProcessPeer" "plain" "Lcom/example/dropwire/dropwire/dnd/Actions;" (.ref w_o1_userAction) := f582.keep K590 nin0
  have Z615 : n0 ≤ T587.heap.size := Nat.le_trans Z584 K590.1
  have K616 : Keep h0 T587.heap [o0] := K585.trans K590 all0
  refine own_goT st587 ?_
  refine own_go (S' := T587.setTop (mkF m 63 #[.val (.ref o0), .val (.ref o1), .val (.ref o2), .val (.ref b588), .unset] [(.ref b588)])) (fun t k => ?_) ?_
  · show Steps p.tables e below (T587.setTop (mkF m 61 #[.val (.ref o0), .val (.ref o1), .val (.ref o2), .unset, .unset] [(.ref b588)])) t
    refine XS.astoreN X587.here hx rfl (hb hby d22_61) rfl rfl (l' := #[.val (.ref o0), .val (.ref o1), .val (.ref o2), .val (.ref b588), .unset]) rfl ?_
    show Steps p.tables e below (T587.setTop (mkF m 62 #[.val (.ref o0), .val (.ref o1), .val (.ref o2), .val (.ref b588), .unset] [])) t
    refine XS.aloadN X587.here hx rfl (hb hby d22_62) rfl rfl ?_
    exact k
  obtain ⟨cq617, kq617, qa617, qb617, qc617⟩ := isOf hZ rfl p592
  obtain ⟨_, _, ⟨T617, L617, kk617, nn617⟩, -, X617, ⟨Lc617, hQ617, l617, y617, z617⟩, st617⟩ := X587.interfaceBack hx (xi := (⟨"java/util/Iterator", "hasNext", "()Z"⟩ : MethodName)) (y := (⟨"java/util/ArrayList$Itr", "hasNext", "()Z"⟩ : MethodName)) hown (mvT hZ (hw _ (List.mem_of_getElem? (i := 205) rfl))) (mvT hZ (hw _ (List.mem_of_getElem? (i := 206) rfl))) (mvT hZ (hw _ (List.mem_of_getElem? (i := 207) rfl))) (mvT hZ (hw _ (List.mem_of_getElem? (i := 208) rfl))) (mvT hZ (hw _ (List.mem_of_getElem? (i := 209) rfl))) (mvT hZ (hw _ (List.mem_of_getElem? (i := 210) rfl))) (mvT hZ (hw _ (List.mem_of_getElem? (i := 211) rfl))) (mvT hZ (hw _ (List.mem_of_getElem? (i := 212) rfl))) (by decide) (backOf (W := 0) (hasNext l Z a0 hw [] b588 w_o0_recognizers T587.heap n0 Z615 p593 p594 f611) hZ (hw _ (List.mem_of_getElem? (i := 213) rfl)) (hw _ (List.mem_of_getElem? (i := 191) rfl)) (by decide) (by decide)) qa617 qb617 qc617 (g := (mkF m 63 #[.val (.ref o0), .val (.ref o1), .val (.ref o2), .val (.ref b588), .unset] [(.ref b588)])) rfl (by rw [hml]; rfl) (Steps.refl _) (argsL := []) (rest := []) (lenOf pd_280 rfl) rfl (by show 2 * 0 + _ ≤ _; exact Nat.le_of_eq rfl) (hb hby d22_63) (fun _ _ => ⟨rfl, rfl, (by decide : 1 + 0 ≤ _), (by decide : 4 + 0 ≤ _)⟩)
  dsimp only [Pt.U, Pt.locs, Pt.cells, Pt.slots] at X617 l617 y617 z617 st617 hQ617
  subst l617 y617 z617
  obtain ⟨rfl, N618, e617⟩ := hQ617
  have N620 := Fr.app N597 N618
  refine own_goT st617 ?_
  refine own_go (S' := T617.setTop (mkF m 99 #[.val (.ref o0), .val (.ref o1), .val (.ref o2), .val (.ref b588), .unset] [])) (fun t k => ?_) ?_
  · show Steps p.tables e below (T617.setTop (mkF m 68 #[.val (.ref o0), .val (.ref o1), .val (.ref o2), .val (.ref b588), .unset] [(.int (0 : Int32))])) t
    refine XS.ifYes X617.here hx rfl (pc0 := 68) (pc' := 99) rfl (hb hby d22_68) rfl ((if0 _ _).trans (teq (by decide)).1) (by decide) (by decide) ?_
    exact k
  obtain ⟨fs, hr, hrun, hended, hW, hsame⟩ := X617.leave (v := none) (fun _ => rfl)
  refine own_end (v := none) ?_ hrun hended ?_ hW (hsame.mono (by decide) (by decide))
  · show Steps p.tables e below (T617.setTop (mkF m 99 #[.val (.ref o0), .val (.ref o1), .val (.ref o2), .val (.ref b588), .unset] [])) _
    exact X617.returnOut hx Bd.returns (hb hby d22_99) hr
  · show QipStart Z o0 o1 o2 w_o0_components w_o0_recognizers w_o0_hotspot w_o0_plain w_o0_under w_o0_visit w_o1_userAction w_w_o0_recognizers_modCount h0 n0 _ T617.heap _
    rw [e617]
    exact ⟨rfl, N620, K616, f601, f602, f603, f604, f605, f606, f612, f613, f614⟩
theorem d17_0 : decode prog_16_method_3_code 0 = .ok (.new 13, 3) := by decide +kernel
theorem d17_3 : decode prog_16_method_3_code 3 = .ok (.dup, 1) := by decide +kernel
theorem d17_4 : decode prog_16_method_3_code 4 = .ok (.aload_n 0, 1) := by decide +kernel
theorem d17_5 : decode prog_16_method_3_code 5 = .ok (.aload_n 2, 1) := by decide +kernel
theorem d17_6 : decode prog_16_method_3_code 6 = .ok (.aload_n 3, 1) := by decide +kernel
theorem d17_7 : decode prog_16_method_3_code 7 = .ok (.aload_n 1, 1) := by decide +kernel
theorem d17_8 : decode prog_16_method_3_code 8 = .ok (.invokevirtual 15, 3) := by decide +kernel
theorem d17_11 : decode prog_16_method_3_code 11 = .ok (.aload 4, 2) := by decide +kernel
theorem d17_13 : decode prog_16_method_3_code 13 = .ok (.invokespecial 21, 3) := by decide +kernel
theorem pd_292 : parseMethodDescriptor "(Lcom/example/dropwire/dropwire/dnd/DragSource;Lcom/example/dropwire/dropwire/transfer/Transferable;Lcom/example/dropwire/dropwire/dnd/Actions;Lcom/example/dropwire/dropwire/dnd/Actions;Lcom/example/dropwire/dropwire/dnd/DragSourceListener;)V" = some ⟨[(.object "com/example/dropwire/dropwire/dnd/DragSource"), (.object "com/example/dropwire/dropwire/transfer/Transferable"), (.object "com/example/dropwire/dropwire/dnd/Actions"), (.object "com/example/dropwire/dropwire/dnd/Actions"), (.object "com/example/dropwire/dropwire/dnd/DragSourceListener")], none⟩ := by decide +kernel
theorem d17_16 : decode prog_16_method_3_code 16 = .ok (.astore 5, 2) := by decide +kernel
theorem d17_18 : decode prog_16_method_3_code 18 = .ok (.aload_n 0, 1) := by decide +kernel
theorem d17_19 : decode prog_16_method_3_code 19 = .ok (.dup, 1) := by decide +kernel
theorem d17_20 : decode prog_16_method_3_code 20 = .ok (.astore 6, 2) := by decide +kernel
theorem d17_22 : decode prog_16_method_3_code 22 = .ok (.monitorenter, 1) := by decide +kernel
theorem d17_23 : decode prog_16_method_3_code 23 = .ok (.aload_n 0, 1) := by decide +kernel
theorem d17_24 : decode prog_16_method_3_code 24 = .ok (.getfield 24, 3) := by decide +kernel
theorem d17_27 : decode prog_16_method_3_code 27 = .ok (.ifnull 13, 3) := by decide +kernel
theorem d17_40 : decode prog_16_method_3_code 40 = .ok (.aload_n 0, 1) := by decide +kernel
theorem d17_41 : decode prog_16_method_3_code 41 = .ok (.aload 5, 2) := by decide +kernel
theorem d17_43 : decode prog_16_method_3_code 43 = .ok (.putfield 24, 3) := by decide +kernel
theorem d17_46 : decode prog_16_method_3_code 46 = .ok (.aload 6, 2) := by decide +kernel
theorem d17_48 : decode prog_16_method_3_code 48 = .ok (.monitorexit, 1) := by decide +kernel
theorem d17_49 : decode prog_16_method_3_code 49 = .ok (.goto 11, 3) := by decide +kernel
theorem d17_60 : decode prog_16_method_3_code 60 = .ok (.aload_n 1, 1) := by decide +kernel
theorem d17_61 : decode prog_16_method_3_code 61 = .ok (.invokevirtual 35, 3) := by decide +kernel
theorem pd_309 : parseMethodDescriptor "()Lcom/example/dropwire/dropwire/dnd/DragSourcePeer;" = some ⟨[], some (.object "com/example/dropwire/dropwire/dnd/DragSourcePeer")⟩ := by decide +kernel
theorem d17_64 : decode prog_16_method_3_code 64 = .ok (.aload 5, 2) := by decide +kernel
theorem d17_66 : decode prog_16_method_3_code 66 = .ok (.aload_n 1, 1) := by decide +kernel
theorem d17_67 : decode prog_16_method_3_code 67 = .ok (.invokevirtual 39, 3) := by decide +kernel
theorem pd_313 : parseMethodDescriptor "()Lcom/example/dropwire/dropwire/dnd/Point;" = some ⟨[], some (.object "com/example/dropwire/dropwire/dnd/Point")⟩ := by decide +kernel
theorem d17_70 : decode prog_16_method_3_code 70 = .ok (.invokeinterface 43 3, 5) := by decide +kernel
theorem pd_315 : parseMethodDescriptor "(Lcom/example/dropwire/dropwire/dnd/DragSourceContext;Lcom/example/dropwire/dropwire/dnd/Point;)V" = some ⟨[(.object "com/example/dropwire/dropwire/dnd/DragSourceContext"), (.object "com/example/dropwire/dropwire/dnd/Point")], none⟩ := by decide +kernel
theorem d17_75 : decode prog_16_method_3_code 75 = .ok (.goto 13, 3) := by decide +kernel
theorem d17_88 : decode prog_16_method_3_code 88 = .ok (.aload 5, 2) := by decide +kernel
theorem d17_90 : decode prog_16_method_3_code 90 = .ok (.areturn, 1) := by decide +kernel
theorem ef_dsStart (m : MethodId) (x0 : Addr) (x1 : Addr) (x3 : Addr) : entryFrame m #[(.ref x0), (.ref x1), .null, (.ref x3), .null] 8 = mkF m 0 #[.val (.ref x0), .val (.ref x1), .val .null, .val (.ref x3), .val .null, .unset, .unset, .unset] [] := by first | (simp [entryFrame, mkF, argsToLocals, Value.category]; done) | rfl
def QdsStart (Z : State) (o0 : Addr) (o1 : Addr) (o3 : Addr) (w_o1_userAction : Addr) (w_s_NONE : Addr) (w_o1_peer : Addr) (w_o1_origin : Addr) (w_w_o1_peer_components : Value) (w_w_o1_peer_recognizers : Addr) (w_w_o1_peer_hotspot : Value) (w_w_o1_peer_plain : Value) (w_w_o1_peer_under : Value) (w_w_o1_peer_visit : Value) (w_w_w_o1_peer_recognizers_modCount : Int32) (h0 : Heap) (n0 : Nat) (v : Option Value) (h : Heap) (L : List Loc) : Prop := ∃ x0_ : Addr, v = some (.ref x0_) ∧ Fr n0 L ∧ Keep h0 h [o0, w_o1_peer] ∧ h0.size ≤ x0_ ∧ Exa Z h o0 "com/example/dropwire/dropwire/dnd/DragSource" ∧ Fld Z h o0 "com/example/dropwire/dropwire/dnd/DragSource" "current" "Lcom/example/dropwire/dropwire/dnd/DragSourceContext;" (.ref x0_) ∧ Exa Z h w_o1_peer "com/example/dropwire/dropwire/inprocess/InProcessPeer" ∧ Fld Z h w_o1_peer "com/example/dropwire/dropwire/inprocess/InProcessPeer" "components" "Ljava/util/List;" w_w_o1_peer_components ∧ Fld Z h w_o1_peer "com/example/dropwire/dropwire/inprocess/InProcessPeer" "recognizers" "Ljava/util/List;" (.ref w_w_o1_peer_recognizers) ∧ Fld Z h w_o1_peer "com/example/dropwire/dropwire/inprocess/InProcessPeer" "recognizing" "Lcom/example/dropwire/dropwire/inprocess/InProcessPeer$Recognizer;" .null ∧ Fld Z h w_o1_peer "com/example/dropwire/dropwire/inprocess/InProcessPeer" "under" "Lcom/example/dropwire/dropwire/inprocess/InProcessPeer$Component;" w_w_o1_peer_under ∧ Fld Z h w_o1_peer "com/example/dropwire/dropwire/inprocess/InProcessPeer" "visit" "Lcom/example/dropwire/dropwire/dnd/DropTargetVisit;" w_w_o1_peer_visit ∧ Fld Z h w_o1_peer "com/example/dropwire/dropwire/inprocess/InProcessPeer" "drag" "Lcom/example/dropwire/dropwire/dnd/DragSourceContext;" (.ref x0_) ∧ Fld Z h w_o1_peer "com/example/dropwire/dropwire/inprocess/InProcessPeer" "hotspot" "Lcom/example/dropwire/dropwire/dnd/Point;" (.ref w_o1_origin) ∧ Fld Z h w_o1_peer "com/example/dropwire/dropwire/inprocess/InProcessPeer" "plain" "Lcom/example/dropwire/dropwire/dnd/Actions;" (.ref w_o1_userAction) ∧ Exa Z h x0_ "com/example/dropwire/dropwire/dnd/DragSourceContext" ∧ Fld Z h x0_ "com/example/dropwire/dropwire/dnd/DragSourceContext" "acceptedAction" "Lcom/example/dropwire/dropwire/dnd/Actions;" (.ref w_s_NONE) ∧ Fld Z h x0_ "com/example/dropwire/dropwire/dnd/DragSourceContext" "dragSource" "Lcom/example/dropwire/dropwire/dnd/DragSource;" (.ref o0) ∧ Fld Z h x0_ "com/example/dropwire/dropwire/dnd/DragSourceContext" "transferable" "Lcom/example/dropwire/dropwire/transfer/Transferable;" .null ∧ Fld Z h x0_ "com/example/dropwire/dropwire/dnd/DragSourceContext" "sourceActions" "Lcom/example/dropwire/dropwire/dnd/Actions;" (.ref o3) ∧ Fld Z h x0_ "com/example/dropwire/dropwire/dnd/DragSourceContext" "userAction" "Lcom/example/dropwire/dropwire/dnd/Actions;" (.ref w_o1_userAction) ∧ Fld Z h x0_ "com/example/dropwire/dropwire/dnd/DragSourceContext" "listener" "Lcom/example/dropwire/dropwire/dnd/DragSourceListener;" .null
set_option maxRecDepth 65536 in
set_option maxHeartbeats 40000000 in
theorem dsStart (l : Launch) (Z : State) (a0 : Array Value) (hw : ∀ d ∈ tables_1, d.before a0 Z = true) (ws : List Jvm.Cond) (o0 : Addr) (o1 : Addr) (o3 : Addr) (w_o1_userAction : Addr) (w_s_NONE : Addr) (w_o1_peer : Addr) (w_o1_origin : Addr) (w_w_o1_peer_components : Value) (w_w_o1_peer_recognizers : Addr) (w_w_o1_peer_hotspot : Value) (w_w_o1_peer_plain : Value) (w_w_o1_peer_under : Value) (w_w_o1_peer_visit : Value) (w_w_w_o1_peer_recognizers_modCount : Int32) (h0 : Heap) (n0 : Nat) (Z0 : n0 ≤ h0.size) (F_o1_userAction : Fld Z h0 o1 "com/example/dropwire/dropwire/dnd/DragGesture" "userAction" "Lcom/example/dropwire/dropwire/dnd/Actions;" (.ref w_o1_userAction)) (E_o1 : Exa Z h0 o1 "com/example/dropwire/dropwire/dnd/DragGesture") (S_NONE : Sta Z h0 "com/example/dropwire/dropwire/dnd/Actions" "NONE" "Lcom/example/dropwire/dropwire/dnd/Actions;" (.ref w_s_NONE)) (U_o0 : Unt h0 o0) (F_o0_current : Fld Z h0 o0 "com/example/dropwire/dropwire/dnd/DragSource" "current" "Lcom/example/dropwire/dropwire/dnd/DragSourceContext;" .null) (E_o0 : Exa Z h0 o0 "com/example/dropwire/dropwire/dnd/DragSource") (g_o0 : n0 ≤ o0) (F_o1_peer : Fld Z h0 o1 "com/example/dropwire/dropwire/dnd/DragGesture" "peer" "Lcom/example/dropwire/dropwire/dnd/DragSourcePeer;" (.ref w_o1_peer)) (F_o1_origin : Fld Z h0 o1 "com/example/dropwire/dropwire/dnd/DragGesture" "origin" "Lcom/example/dropwire/dropwire/dnd/Point;" (.ref w_o1_origin)) (F_w_o1_peer_drag : Fld Z h0 w_o1_peer "com/example/dropwire/dropwire/inprocess/InProcessPeer" "drag" "Lcom/example/dropwire/dropwire/dnd/DragSourceContext;" .null) (ne_w_o1_peer_o0 : w_o1_peer ≠ o0) (E_w_o1_peer : Exa Z h0 w_o1_peer "com/example/dropwire/dropwire/inprocess/InProcessPeer") (g_w_o1_peer : n0 ≤ w_o1_peer) (F_w_o1_peer_components : Fld Z h0 w_o1_peer "com/example/dropwire/dropwire/inprocess/InProcessPeer" "components" "Ljava/util/List;" w_w_o1_peer_components) (F_w_o1_peer_recognizers : Fld Z h0 w_o1_peer "com/example/dropwire/dropwire/inprocess/InProcessPeer" "recognizers" "Ljava/util/List;" (.ref w_w_o1_peer_recognizers)) (F_w_o1_peer_hotspot : Fld Z h0 w_o1_peer "com/example/dropwire/dropwire/inprocess/InProcessPeer" "hotspot" "Lcom/example/dropwire/dropwire/dnd/Point;" w_w_o1_peer_hotspot) (F_w_o1_peer_recognizing : Fld Z h0 w_o1_peer "com/example/dropwire/dropwire/inprocess/InProcessPeer" "recognizing" "Lcom/example/dropwire/dropwire/inprocess/InProcessPeer$Recognizer;" .null) (F_w_o1_peer_plain : Fld Z h0 w_o1_peer "com/example/dropwire/dropwire/inprocess/InProcessPeer" "plain" "Lcom/example/dropwire/dropwire/dnd/Actions;" w_w_o1_peer_plain) (F_w_o1_peer_under : Fld Z h0 w_o1_peer "com/example/dropwire/dropwire/inprocess/InProcessPeer" "under" "Lcom/example/dropwire/dropwire/inprocess/InProcessPeer$Component;" w_w_o1_peer_under) (F_w_o1_peer_visit : Fld Z h0 w_o1_peer "com/example/dropwire/dropwire/inprocess/InProcessPeer" "visit" "Lcom/example/dropwire/dropwire/dnd/DropTargetVisit;" w_w_o1_peer_visit) (F_w_w_o1_peer_recognizers_modCount : Fld Z h0 w_w_o1_peer_recognizers "java/util/AbstractList" "modCount" "I" (.int w_w_w_o1_peer_recognizers_modCount)) (ne_w_w_o1_peer_recognizers_o0 : w_w_o1_peer_recognizers ≠ o0) (ne_w_w_o1_peer_recognizers_w_o1_peer : w_w_o1_peer_recognizers ≠ w_o1_peer) (E_w_w_o1_peer_recognizers : Exa Z h0 w_w_o1_peer_recognizers "java/util/ArrayList") (F_w_w_o1_peer_recognizers_size : Fld Z h0 w_w_o1_peer_recognizers "java/util/ArrayList" "size" "I" (.int (0 : Int32))) :
    MetFree l (⟨"com/example/dropwire/dropwire/dnd/DragSource", "startDrag", "(Lcom/example/dropwire/dropwire/dnd/DragGesture;Lcom/example/dropwire/dropwire/transfer/Transferable;Lcom/example/dropwire/dropwire/dnd/Actions;Lcom/example/dropwire/dropwire/dnd/DragSourceListener;)Lcom/example/dropwire/dropwire/dnd/DragSourceContext;"⟩ : MethodName) (head1 (Jvm.Cond.codeWith (⟨"com/example/dropwire/dropwire/dnd/DragSource", "startDrag", "(Lcom/example/dropwire/dropwire/dnd/DragGesture;Lcom/example/dropwire/dropwire/transfer/Transferable;Lcom/example/dropwire/dropwire/dnd/Actions;Lcom/example/dropwire/dropwire/dnd/DragSourceListener;)Lcom/example/dropwire/dropwire/dnd/DragSourceContext;"⟩ : MethodName) prog_16_method_3_code 8 (some (.object "com/example/dropwire/dropwire/dnd/DragSourceContext")) [((23 : Nat), (49 : Nat), (52 : Nat), (0 : Nat)), ((52 : Nat), (57 : Nat), (52 : Nat), (0 : Nat)), ((60 : Nat), (75 : Nat), (78 : Nat), (49 : Nat))] :: ws) ({ frames := 4, cells := 2, slots := 13, locals := 56 } : Room)) (fun a U => a = #[(.ref o0), (.ref o1), .null, (.ref o3), .null] ∧ Z.Warmed39 U.vm ∧ U.heap = h0) (fun _ _ _ _ _ => True) (fun _ U o U' => ∃ v L, o = .returned v ∧ QdsStart Z o0 o1 o3 w_o1_userAction w_s_NONE w_o1_peer w_o1_origin w_w_o1_peer_components w_w_o1_peer_recognizers w_w_o1_peer_hotspot w_w_o1_peer_plain w_w_o1_peer_under w_w_o1_peer_visit w_w_w_o1_peer_recognizers_modCount h0 n0 v U'.heap L ∧ FrameEnd U o U' L ({ frames := 4, cells := 2, slots := 13, locals := 56 } : Room).cells ({ frames := 4, cells := 2, slots := 13, locals := 56 } : Room).slots) := by
  refine MetFree.of_bodySF (plainFor_of_name pn_116) hisWith ?_
  intro p e s m args below meth c s₁ Bd hml0 hP hK
  obtain ⟨rfl, hZ, hh⟩ := hP
  have hx := Bd.exec
  have hby := Bd.bytes
  have hml : c.maxLocals = 8 := hml0
  have hown : s.vm.findClass "com/example/dropwire/dropwire/dnd/DragSource" = some m.cls := findClass_of_methodNamed Bd.named
  have hnm := (name_of_methodNamed Bd.named Bd.method).1
  have X0 : Stand p l e ({ frames := 4, cells := 2, slots := 13, locals := 56 } : Room) s m #[(.ref o0), (.ref o1), .null, (.ref o3), .null] below meth c s₁ [] 0 0 := Stand.of_body Bd
  have e0 : s₁.heap = h0 := by rw [← hh, Bd.state]; rfl
  have N0 := Fr.nil n0
  show own_Go p e below s (QdsStart Z o0 o1 o3 w_o1_userAction w_s_NONE w_o1_peer w_o1_origin w_w_o1_peer_components w_w_o1_peer_recognizers w_w_o1_peer_hotspot w_w_o1_peer_plain w_w_o1_peer_under w_w_o1_peer_visit w_w_w_o1_peer_recognizers_modCount h0 n0) ({ frames := 4, cells := 2, slots := 13, locals := 56 } : Room).cells ({ frames := 4, cells := 2, slots := 13, locals := 56 } : Room).slots (s₁.setTop (entryFrame m #[(.ref o0), (.ref o1), .null, (.ref o3), .null] 8))
  rw [ef_dsStart m o0 o1 o3]
  have K0 : Keep h0 h0 [o0, w_o1_peer] := Keep.refl h0 [o0, w_o1_peer]
  obtain ⟨T621, h621, X621, e621, E621, A621, D621, -, st621⟩ := newO X0 hx hZ hown (hw _ (List.mem_of_getElem? (i := 124) rfl)) (hw _ (List.mem_of_getElem? (i := 125) rfl)) (hw _ (List.mem_of_getElem? (i := 126) rfl)) e0 (g := (mkF m 0 #[.val (.ref o0), .val (.ref o1), .val .null, .val (.ref o3), .val .null, .unset, .unset, .unset] [])) rfl (hb hby d17_0) (by decide) (by decide)
  obtain ⟨b621, g621⟩ : ∃ z, z = h0.size := ⟨_, rfl⟩
  rw [← g621] at A621 D621 st621
  have ne622 : o1 ≠ b621 := Nat.ne_of_lt (Nat.lt_of_lt_of_le F_o1_userAction.lt (Nat.le_of_eq g621.symm))
  have ne623 : o0 ≠ b621 := Nat.ne_of_lt (Nat.lt_of_lt_of_le (own_unt_lt U_o0) (Nat.le_of_eq g621.symm))
  have ne624 : w_o1_peer ≠ b621 := Nat.ne_of_lt (Nat.lt_of_lt_of_le F_w_o1_peer_drag.lt (Nat.le_of_eq g621.symm))
  have ne625 : w_w_o1_peer_recognizers ≠ b621 := Nat.ne_of_lt (Nat.lt_of_lt_of_le F_w_w_o1_peer_recognizers_modCount.lt (Nat.le_of_eq g621.symm))
  have g_b621 : n0 ≤ b621 := Nat.le_trans Z0 (Nat.le_of_eq g621.symm)
  have sz_b621 : h0.size ≤ b621 := Nat.le_trans K0.1 (Nat.le_of_eq g621.symm)
  have K626 : Keep h0 h621 [o0, w_o1_peer] := K0.ext E621
  have Z627 : n0 ≤ h621.size := Nat.le_trans Z0 E621.1
  have f628 : Fld Z h621 o1 "com/example/dropwire/dropwire/dnd/DragGesture" "userAction" "Lcom/example/dropwire/dropwire/dnd/Actions;" (.ref w_o1_userAction) := Fld.ext E621 F_o1_userAction
  have f629 : Exa Z h621 o1 "com/example/dropwire/dropwire/dnd/DragGesture" := Exa.ext E621 E_o1
  have f630 : Sta Z h621 "com/example/dropwire/dropwire/dnd/Actions" "NONE" "Lcom/example/dropwire/dropwire/dnd/Actions;" (.ref w_s_NONE) := Sta.ext E621 S_NONE
  have f631 : Unt h621 o0 := Unt.ext E621 U_o0
  have f632 : Fld Z h621 o0 "com/example/dropwire/dropwire/dnd/DragSource" "current" "Lcom/example/dropwire/dropwire/dnd/DragSourceContext;" .null := Fld.ext E621 F_o0_current
  have f633 : Exa Z h621 o0 "com/example/dropwire/dropwire/dnd/DragSource" := Exa.ext E621 E_o0
  have f634 : Fld Z h621 o1 "com/example/dropwire/dropwire/dnd/DragGesture" "peer" "Lcom/example/dropwire/dropwire/dnd/DragSourcePeer;" (.ref w_o1_peer) := Fld.ext E621 F_o1_peer
  have f635 : Fld Z h621 o1 "com/example/dropwire/dropwire/dnd/DragGesture" "origin" "Lcom/example/dropwire/dropwire/dnd/Point;" (.ref w_o1_origin) := Fld.ext E621 F_o1_origin
  have f636 : Fld Z h621 w_o1_peer "com/example/dropwire/dropwire/inprocess/InProcessPeer" "drag" "Lcom/example/dropwire/dropwire/dnd/DragSourceContext;" .null := Fld.ext E621 F_w_o1_peer_drag
  have f637 : Exa Z h621 w_o1_peer "com/example/dropwire/dropwire/inprocess/InProcessPeer" := Exa.ext E621 E_w_o1_peer
  have f638 : Fld Z h621 w_o1_peer "com/example/dropwire/dropwire/inprocess/InProcessPeer" "components" "Ljava/util/List;" w_w_o1_peer_components := Fld.ext E621 F_w_o1_peer_components
  have f639 : Fld Z h621 w_o1_peer "com/example/dropwire/dropwire/inprocess/InProcessPeer" "recognizers" "Ljava/util/List;" (.ref w_w_o1_peer_recognizers) := Fld.ext E621 F_w_o1_peer_recognizers
  have f640 : Fld Z h621 w_o1_peer "com/example/dropwire/dropwire/inprocess/InProcessPeer" "hotspot" "Lcom/example/dropwire/dropwire/dnd/Point;" w_w_o1_peer_hotspot := Fld.ext E621 F_w_o1_peer_hotspot
  have f641 : Fld Z h621 w_o1_peer "com/example/dropwire/dropwire/inprocess/InProcessPeer" "recognizing" "Lcom/example/dropwire/dropwire/inprocess/InProcessPeer$Recognizer;" .null := Fld.ext E621 F_w_o1_peer_recognizing
  have f642 : Fld Z h621 w_o1_peer "com/example/dropwire/dropwire/inprocess/InProcessPeer" "plain" "Lcom/example/dropwire/dropwire/dnd/Actions;" w_w_o1_peer_plain := Fld.ext E621 F_w_o1_peer_plain
  have f643 : Fld Z h621 w_o1_peer "com/example/dropwire/dropwire/inprocess/InProcessPeer" "under" "Lcom/example/dropwire/dropwire/inprocess/InProcessPeer$Component;" w_w_o1_peer_under := Fld.ext E621 F_w_o1_peer_under
  have f644 : Fld Z h621 w_o1_peer "com/example/dropwire/dropwire/inprocess/InProcessPeer" "visit" "Lcom/example/dropwire/dropwire/dnd/DropTargetVisit;" w_w_o1_peer_visit := Fld.ext E621 F_w_o1_peer_visit
  have f645 : Fld Z h621 w_w_o1_peer_recognizers "java/util/AbstractList" "modCount" "I" (.int w_w_w_o1_peer_recognizers_modCount) := Fld.ext E621 F_w_w_o1_peer_recognizers_modCount
  have f646 : Exa Z h621 w_w_o1_peer_recognizers "java/util/ArrayList" := Exa.ext E621 E_w_w_o1_peer_recognizers
  have f647 : Fld Z h621 w_w_o1_peer_recognizers "java/util/ArrayList" "size" "I" (.int (0 : Int32)) := Fld.ext E621 F_w_w_o1_peer_recognizers_size
  have f648 : Fld Z h621 b621 "com/example/dropwire/dropwire/dnd/DragSourceContext" "acceptedAction" "Lcom/example/dropwire/dropwire/dnd/Actions;" .null := D621 (Or.inl (hw _ (List.mem_of_getElem? (i := 139) rfl))) (ty := (.object "com/example/dropwire/dropwire/dnd/Actions")) (by decide)
  have f649 : Fld Z h621 b621 "com/example/dropwire/dropwire/dnd/DragSourceContext" "dragSource" "Lcom/example/dropwire/dropwire/dnd/DragSource;" .null := D621 (Or.inr (hw _ (List.mem_of_getElem? (i := 141) rfl))) (ty := (.object "com/example/dropwire/dropwire/dnd/DragSource")) (by decide)
  have f650 : Fld Z h621 b621 "com/example/dropwire/dropwire/dnd/DragSourceContext" "transferable" "Lcom/example/dropwire/dropwire/transfer/Transferable;" .null := D621 (Or.inr (hw _ (List.mem_of_getElem? (i := 143) rfl))) (ty := (.object "com/example/dropwire/dropwire/transfer/Transferable")) (by decide)
  have f651 : Fld Z h621 b621 "com/example/dropwire/dropwire/dnd/DragSourceContext" "sourceActions" "Lcom/example/dropwire/dropwire/dnd/Actions;" .null := D621 (Or.inr (hw _ (List.mem_of_getElem? (i := 145) rfl))) (ty := (.object "com/example/dropwire/dropwire/dnd/Actions")) (by decide)
  have f652 : Fld Z h621 b621 "com/example/dropwire/dropwire/dnd/DragSourceContext" "userAction" "Lcom/example/dropwire/dropwire/dnd/Actions;" .null := D621 (Or.inl (hw _ (List.mem_of_getElem? (i := 147) rfl))) (ty := (.object "com/example/dropwire/dropwire/dnd/Actions")) (by decide)
  have f653 : Fld Z h621 b621 "com/example/dropwire/dropwire/dnd/DragSourceContext" "listener" "Lcom/example/dropwire/dropwire/dnd/DragSourceListener;" .null := D621 (Or.inr (hw _ (List.mem_of_getElem? (i := 149) rfl))) (ty := (.object "com/example/dropwire/dropwire/dnd/DragSourceListener")) (by decide)
  refine own_go st621 ?_
  refine own_go (S' := T621.setTop (mkF m 8 #[.val (.ref o0), .val (.ref o1), .val .null, .val (.ref o3), .val .null, .unset, .unset, .unset] [(.ref o1), (.ref o3), .null, (.ref o0), (.ref b621), (.ref b621)])) (fun t k => ?_) ?_
  · show Steps p.tables e below (T621.setTop (mkF m 3 #[.val (.ref o0), .val (.ref o1), .val .null, .val (.ref o3), .val .null, .unset, .unset, .unset] [(.ref b621)])) t
    refine XS.dup X621.here hx rfl (hb hby d17_3) rfl rfl ?_
    show Steps p.tables e below (T621.setTop (mkF m 4 #[.val (.ref o0), .val (.ref o1), .val .null, .val (.ref o3), .val .null, .unset, .unset, .unset] [(.ref b621), (.ref b621)])) t
    refine XS.aloadN X621.here hx rfl (hb hby d17_4) rfl rfl ?_
    show Steps p.tables e below (T621.setTop (mkF m 5 #[.val (.ref o0), .val (.ref o1), .val .null, .val (.ref o3), .val .null, .unset, .unset, .unset] [(.ref o0), (.ref b621), (.ref b621)])) t
    refine XS.aloadN X621.here hx rfl (hb hby d17_5) rfl rfl ?_
    show Steps p.tables e below (T621.setTop (mkF m 6 #[.val (.ref o0), .val (.ref o1), .val .null, .val (.ref o3), .val .null, .unset, .unset, .unset] [.null, (.ref o0), (.ref b621), (.ref b621)])) t
    refine XS.aloadN X621.here hx rfl (hb hby d17_6) rfl rfl ?_
    show Steps p.tables e below (T621.setTop (mkF m 7 #[.val (.ref o0), .val (.ref o1), .val .null, .val (.ref o3), .val .null, .unset, .unset, .unset] [(.ref o3), .null, (.ref o0), (.ref b621), (.ref b621)])) t
    refine XS.aloadN X621.here hx rfl (hb hby d17_7) rfl rfl ?_
    exact k
  obtain ⟨cq654, kq654, qa654, qb654, qc654⟩ := isOf hZ e621 f629
  obtain ⟨_, _, ⟨T654, L654, kk654, nn654⟩, -, X654, ⟨Lc654, hQ654, l654, y654, z654⟩, st654⟩ := X621.virtualBack hx (y := (⟨"com/example/dropwire/dropwire/dnd/DragGesture", "userAction", "()Lcom/example/dropwire/dropwire/dnd/Actions;"⟩ : MethodName)) (z := (⟨"com/example/dropwire/dropwire/dnd/DragGesture", "userAction", "()Lcom/example/dropwire/dropwire/dnd/Actions;"⟩ : MethodName)) hown (mvT hZ (hw _ (List.mem_of_getElem? (i := 127) rfl))) (mvT hZ (hw _ (List.mem_of_getElem? (i := 128) rfl))) (notFace_of_selects (args := #[]) (mvT hZ (hw _ (List.mem_of_getElem? (i := 130) rfl)))) (mvT hZ (hw _ (List.mem_of_getElem? (i := 130) rfl))) (mvT hZ (hw _ (List.mem_of_getElem? (i := 129) rfl))) (by decide) (backOf (W := 5) (dgUA l Z a0 hw [] o1 w_o1_userAction h621 n0 Z627 f628) hZ (hw _ (List.mem_of_getElem? (i := 131) rfl)) (hw _ (List.mem_of_getElem? (i := 96) rfl)) (by decide) (by decide)) qa654 qc654 (g := (mkF m 8 #[.val (.ref o0), .val (.ref o1), .val .null, .val (.ref o3), .val .null, .unset, .unset, .unset] [(.ref o1), (.ref o3), .null, (.ref o0), (.ref b621), (.ref b621)])) rfl (by rw [hml]; rfl) (Steps.refl _) (argsL := []) (rest := [(.ref o3), .null, (.ref o0), (.ref b621), (.ref b621)]) (lenOf pd_172 rfl) rfl (by show 2 * 0 + _ ≤ _; exact Nat.le_of_eq rfl) (hb hby d17_8) (fun _ _ => ⟨rfl, e621, (by decide : 1 + 0 ≤ _), (by decide : 9 + 0 ≤ _)⟩)
  dsimp only [Pt.U, Pt.locs, Pt.cells, Pt.slots] at X654 l654 y654 z654 st654 hQ654
  subst l654 y654 z654
  obtain ⟨rfl, N655, e654⟩ := hQ654
  have N657 := Fr.app N0 N655
  refine own_goT st654 ?_
  refine own_go (S' := T654.setTop (mkF m 13 #[.val (.ref o0), .val (.ref o1), .val .null, .val (.ref o3), .val .null, .unset, .unset, .unset] [.null, (.ref w_o1_userAction), (.ref o3), .null, (.ref o0), (.ref b621), (.ref b621)])) (fun t k => ?_) ?_
  · show Steps p.tables e below (T654.setTop (mkF m 11 #[.val (.ref o0), .val (.ref o1), .val .null, .val (.ref o3), .val .null, .unset, .unset, .unset] [(.ref w_o1_userAction), (.ref o3), .null, (.ref o0), (.ref b621), (.ref b621)])) t
    refine XS.aload X654.here hx rfl (hb hby d17_11) rfl rfl ?_
    exact k
  obtain ⟨_, _, ⟨T658, L658, kk658, nn658⟩, -, X658, ⟨Lc658, hQ658, l658, y658, z658⟩, st658⟩ := X654.specialBack hx (y := (⟨"com/example/dropwire/dropwire/dnd/DragSourceContext", "<init>", "(Lcom/example/dropwire/dropwire/dnd/DragSource;Lcom/example/dropwire/dropwire/transfer/Transferable;Lcom/example/dropwire/dropwire/dnd/Actions;Lcom/example/dropwire/dropwire/dnd/Actions;Lcom/example/dropwire/dropwire/dnd/DragSourceListener;)V"⟩ : MethodName)) rfl hown (mvT hZ (hw _ (List.mem_of_getElem? (i := 132) rfl))) (mvT hZ (hw _ (List.mem_of_getElem? (i := 133) rfl))) (mvT hZ (hw _ (List.mem_of_getElem? (i := 134) rfl))) (by decide) (backOf (W := 1) (dscInit l Z a0 hw [] b621 o0 o3 w_o1_userAction w_s_NONE (.null) (.null) (.null) (.null) (.null) (.null) h621 n0 Z627 f630 A621 f648 f649 f650 f651 f652 f653 g_b621) hZ (hw _ (List.mem_of_getElem? (i := 134) rfl)) (hw _ (List.mem_of_getElem? (i := 126) rfl)) (by decide) (by decide)) (g := (mkF m 13 #[.val (.ref o0), .val (.ref o1), .val .null, .val (.ref o3), .val .null, .unset, .unset, .unset] [.null, (.ref w_o1_userAction), (.ref o3), .null, (.ref o0), (.ref b621), (.ref b621)])) rfl (by rw [hml]; rfl) (Steps.refl _) (a := b621) (argsL := [(.ref o0), .null, (.ref o3), (.ref w_o1_userAction), .null]) (rest := [(.ref b621)]) (lenOf pd_292 rfl) rfl (by show 2 * 0 + _ ≤ _; exact Nat.le_of_eq rfl) (hb hby d17_13) (fun _ _ => ⟨rfl, e654, (by decide : 1 + 0 ≤ _), (by decide : 9 + 0 ≤ _)⟩)
  dsimp only [Pt.U, Pt.locs, Pt.cells, Pt.slots] at X658 l658 y658 z658 st658 hQ658
  subst l658 y658 z658
  obtain ⟨rfl, N659, K660, p661, p662, p663, p664, p665, p666, p667⟩ := hQ658
  have N668 := Fr.app N657 N659
  have f669 : Fld Z T658.heap o1 "com/example/dropwire/dropwire/dnd/DragGesture" "userAction" "Lcom/example/dropwire/dropwire/dnd/Actions;" (.ref w_o1_userAction) := f628.keep K660 (ninS ne622 nin0)
  have f670 : Exa Z T658.heap o1 "com/example/dropwire/dropwire/dnd/DragGesture" := f629.keep K660
  have f671 : Sta Z T658.heap "com/example/dropwire/dropwire/dnd/Actions" "NONE" "Lcom/example/dropwire/dropwire/dnd/Actions;" (.ref w_s_NONE) := own_sta_keep f630 K660 (allS (own_plain A621) all0)
  have f672 : Unt T658.heap o0 := own_unt_keep f631 K660 (ninS ne623 nin0)
  have f673 : Fld Z T658.heap o0 "com/example/dropwire/dropwire/dnd/DragSource" "current" "Lcom/example/dropwire/dropwire/dnd/DragSourceContext;" .null := f632.keep K660 (ninS ne623 nin0)
  have f674 : Exa Z T658.heap o0 "com/example/dropwire/dropwire/dnd/DragSource" := f633.keep K660
  have f675 : Fld Z T658.heap o1 "com/example/dropwire/dropwire/dnd/DragGesture" "peer" "Lcom/example/dropwire/dropwire/dnd/DragSourcePeer;" (.ref w_o1_peer) := f634.keep K660 (ninS ne622 nin0)
  have f676 : Fld Z T658.heap o1 "com/example/dropwire/dropwire/dnd/DragGesture" "origin" "Lcom/example/dropwire/dropwire/dnd/Point;" (.ref w_o1_origin) := f635.keep K660 (ninS ne622 nin0)
  have f677 : Fld Z T658.heap w_o1_peer "com/example/dropwire/dropwire/inprocess/InProcessPeer" "drag" "Lcom/example/dropwire/dropwire/dnd/DragSourceContext;" .null := f636.keep K660 (ninS ne624 nin0)
  have f678 : Exa Z T658.heap w_o1_peer "com/example/dropwire/dropwire/inprocess/InProcessPeer" := f637.keep K660
  have f679 : Fld Z T658.heap w_o1_peer "com/example/dropwire/dropwire/inprocess/InProcessPeer" "components" "Ljava/util/List;" w_w_o1_peer_components := f638.keep K660 (ninS ne624 nin0)
  have f680 : Fld Z T658.heap w_o1_peer "com/example/dropwire/dropwire/inprocess/InProcessPeer" "recognizers" "Ljava/util/List;" (.ref w_w_o1_peer_recognizers) := f639.keep K660 (ninS ne624 nin0)
  have f681 : Fld Z T658.heap w_o1_peer "com/example/dropwire/dropwire/inprocess/InProcessPeer" "hotspot" "Lcom/example/dropwire/dropwire/dnd/Point;" w_w_o1_peer_hotspot := f640.keep K660 (ninS ne624 nin0)
  have f682 : Fld Z T658.heap w_o1_peer "com/example/dropwire/dropwire/inprocess/InProcessPeer" "recognizing" "Lcom/example/dropwire/dropwire/inprocess/InProcessPeer$Recognizer;" .null := f641.keep K660 (ninS ne624 nin0)
  have f683 : Fld Z T658.heap w_o1_peer "com/example/dropwire/dropwire/inprocess/InProcessPeer" "plain" "Lcom/example/dropwire/dropwire/dnd/Actions;" w_w_o1_peer_plain := f642.keep K660 (ninS ne624 nin0)
  have f684 : Fld Z T658.heap w_o1_peer "com/example/dropwire/dropwire/inprocess/InProcessPeer" "under" "Lcom/example/dropwire/dropwire/inprocess/InProcessPeer$Component;" w_w_o1_peer_under := f643.keep K660 (ninS ne624 nin0)
  have f685 : Fld Z T658.heap w_o1_peer "com/example/dropwire/dropwire/inprocess/InProcessPeer" "visit" "Lcom/example/dropwire/dropwire/dnd/DropTargetVisit;" w_w_o1_peer_visit := f644.keep K660 (ninS ne624 nin0)
  have f686 : Fld Z T658.heap w_w_o1_peer_recognizers "java/util/AbstractList" "modCount" "I" (.int w_w_w_o1_peer_recognizers_modCount) := f645.keep K660 (ninS ne625 nin0)
  have f687 : Exa Z T658.heap w_w_o1_peer_recognizers "java/util/ArrayList" := f646.keep K660
  have f688 : Fld Z T658.heap w_w_o1_peer_recognizers "java/util/ArrayList" "size" "I" (.int (0 : Int32)) := f647.keep K660 (ninS ne625 nin0)
  have f689 : Exa Z T658.heap b621 "com/example/dropwire/dropwire/dnd/DragSourceContext" := A621.keep K660
  have Z690 : n0 ≤ T658.heap.size := Nat.le_trans Z627 K660.1
  have K691 : Keep h0 T658.heap [o0, w_o1_peer] := K626.trans K660 (allS (Or.inr sz_b621) all0)
  refine own_goT st658 ?_
  refine own_go (S' := T658.setTop (mkF m 22 #[.val (.ref o0), .val (.ref o1), .val .null, .val (.ref o3), .val .null, .val (.ref b621), .val (.ref o0), .unset] [(.ref o0)])) (fun t k => ?_) ?_
  · show Steps p.tables e below (T658.setTop (mkF m 16 #[.val (.ref o0), .val (.ref o1), .val .null, .val (.ref o3), .val .null, .unset, .unset, .unset] [(.ref b621)])) t
    refine XS.astore X658.here hx rfl (hb hby d17_16) rfl rfl (l' := #[.val (.ref o0), .val (.ref o1), .val .null, .val (.ref o3), .val .null, .val (.ref b621), .unset, .unset]) rfl ?_
    show Steps p.tables e below (T658.setTop (mkF m 18 #[.val (.ref o0), .val (.ref o1), .val .null, .val (.ref o3), .val .null, .val (.ref b621), .unset, .unset] [])) t
    refine XS.aloadN X658.here hx rfl (hb hby d17_18) rfl rfl ?_
    show Steps p.tables e below (T658.setTop (mkF m 19 #[.val (.ref o0), .val (.ref o1), .val .null, .val (.ref o3), .val .null, .val (.ref b621), .unset, .unset] [(.ref o0)])) t
    refine XS.dup X658.here hx rfl (hb hby d17_19) rfl rfl ?_
    show Steps p.tables e below (T658.setTop (mkF m 20 #[.val (.ref o0), .val (.ref o1), .val .null, .val (.ref o3), .val .null, .val (.ref b621), .unset, .unset] [(.ref o0), (.ref o0)])) t
    refine XS.astore X658.here hx rfl (hb hby d17_20) rfl rfl (l' := #[.val (.ref o0), .val (.ref o1), .val .null, .val (.ref o3), .val .null, .val (.ref b621), .val (.ref o0), .unset]) rfl ?_
    exact k
  obtain ⟨c0_692, u1_692, u2_692, u3_692⟩ := id U_o0
  have u4_692 : s.heap[o0]? = some c0_692 := by rw [hh]; exact u1_692
  obtain ⟨T692, h692, X692, e692, MA692, H692, st692⟩ := own_monIn X658 hx (by rw [hnm]; decide) (BodyLoose.notSynchronized Bd) u4_692 u3_692 rfl f672 (g := (mkF m 22 #[.val (.ref o0), .val (.ref o1), .val .null, .val (.ref o3), .val .null, .val (.ref b621), .val (.ref o0), .unset] [(.ref o0)])) rfl rfl (by rw [hml]; rfl) rfl (hb hby d17_22) (by decide)
  have Mo692 := own_mon MA692
  have f693 : Fld Z h692 o1 "com/example/dropwire/dropwire/dnd/DragGesture" "userAction" "Lcom/example/dropwire/dropwire/dnd/Actions;" (.ref w_o1_userAction) := Fld.mon Mo692 f669
  have f694 : Exa Z h692 o1 "com/example/dropwire/dropwire/dnd/DragGesture" := Exa.mon Mo692 f670
  have f695 : Sta Z h692 "com/example/dropwire/dropwire/dnd/Actions" "NONE" "Lcom/example/dropwire/dropwire/dnd/Actions;" (.ref w_s_NONE) := Sta.mon Mo692 f671
  have f696 : Fld Z h692 o0 "com/example/dropwire/dropwire/dnd/DragSource" "current" "Lcom/example/dropwire/dropwire/dnd/DragSourceContext;" .null := Fld.mon Mo692 f673
  have f697 : Exa Z h692 o0 "com/example/dropwire/dropwire/dnd/DragSource" := Exa.mon Mo692 f674
  have f698 : Fld Z h692 o1 "com/example/dropwire/dropwire/dnd/DragGesture" "peer" "Lcom/example/dropwire/dropwire/dnd/DragSourcePeer;" (.ref w_o1_peer) := Fld.mon Mo692 f675
  have f699 : Fld Z h692 o1 "com/example/dropwire/dropwire/dnd/DragGesture" "origin" "Lcom/example/dropwire/dropwire/dnd/Point;" (.ref w_o1_origin) := Fld.mon Mo692 f676
  have f700 : Fld Z h692 w_o1_peer "com/example/dropwire/dropwire/inprocess/InProcessPeer" "drag" "Lcom/example/dropwire/dropwire/dnd/DragSourceContext;" .null := Fld.mon Mo692 f677
  have f701 : Exa Z h692 w_o1_peer "com/example/dropwire/dropwire/inprocess/InProcessPeer" := Exa.mon Mo692 f678
  have f702 : Fld Z h692 w_o1_peer "com/example/dropwire/dropwire/inprocess/InProcessPeer" "components" "Ljava/util/List;" w_w_o1_peer_components := Fld.mon Mo692 f679
  have f703 : Fld Z h692 w_o1_peer "com/example/dropwire/dropwire/inprocess/InProcessPeer" "recognizers" "Ljava/util/List;" (.ref w_w_o1_peer_recognizers) := Fld.mon Mo692 f680
  have f704 : Fld Z h692 w_o1_peer "com/example/dropwire/dropwire/inprocess/InProcessPeer" "hotspot" "Lcom/example/dropwire/dropwire/dnd/Point;" w_w_o1_peer_hotspot := Fld.mon Mo692 f681
  have f705 : Fld Z h692 w_o1_peer "com/example/dropwire/dropwire/inprocess/InProcessPeer" "recognizing" "Lcom/example/dropwire/dropwire/inprocess/InProcessPeer$Recognizer;" .null := Fld.mon Mo692 f682
  have f706 : Fld Z h692 w_o1_peer "com/example/dropwire/dropwire/inprocess/InProcessPeer" "plain" "Lcom/example/dropwire/dropwire/dnd/Actions;" w_w_o1_peer_plain := Fld.mon Mo692 f683
  have f707 : Fld Z h692 w_o1_peer "com/example/dropwire/dropwire/inprocess/InProcessPeer" "under" "Lcom/example/dropwire/dropwire/inprocess/InProcessPeer$Component;" w_w_o1_peer_under := Fld.mon Mo692 f684
  have f708 : Fld Z h692 w_o1_peer "com/example/dropwire/dropwire/inprocess/InProcessPeer" "visit" "Lcom/example/dropwire/dropwire/dnd/DropTargetVisit;" w_w_o1_peer_visit := Fld.mon Mo692 f685
  have f709 : Fld Z h692 w_w_o1_peer_recognizers "java/util/AbstractList" "modCount" "I" (.int w_w_w_o1_peer_recognizers_modCount) := Fld.mon Mo692 f686
  have f710 : Exa Z h692 w_w_o1_peer_recognizers "java/util/ArrayList" := Exa.mon Mo692 f687
  have f711 : Fld Z h692 w_w_o1_peer_recognizers "java/util/ArrayList" "size" "I" (.int (0 : Int32)) := Fld.mon Mo692 f688
  have f712 : Exa Z h692 b621 "com/example/dropwire/dropwire/dnd/DragSourceContext" := Exa.mon Mo692 p661
  have f713 : Fld Z h692 b621 "com/example/dropwire/dropwire/dnd/DragSourceContext" "acceptedAction" "Lcom/example/dropwire/dropwire/dnd/Actions;" (.ref w_s_NONE) := Fld.mon Mo692 p662
  have f714 : Fld Z h692 b621 "com/example/dropwire/dropwire/dnd/DragSourceContext" "dragSource" "Lcom/example/dropwire/dropwire/dnd/DragSource;" (.ref o0) := Fld.mon Mo692 p663
  have f715 : Fld Z h692 b621 "com/example/dropwire/dropwire/dnd/DragSourceContext" "transferable" "Lcom/example/dropwire/dropwire/transfer/Transferable;" .null := Fld.mon Mo692 p664
  have f716 : Fld Z h692 b621 "com/example/dropwire/dropwire/dnd/DragSourceContext" "sourceActions" "Lcom/example/dropwire/dropwire/dnd/Actions;" (.ref o3) := Fld.mon Mo692 p665
  have f717 : Fld Z h692 b621 "com/example/dropwire/dropwire/dnd/DragSourceContext" "userAction" "Lcom/example/dropwire/dropwire/dnd/Actions;" (.ref w_o1_userAction) := Fld.mon Mo692 p666
  have f718 : Fld Z h692 b621 "com/example/dropwire/dropwire/dnd/DragSourceContext" "listener" "Lcom/example/dropwire/dropwire/dnd/DragSourceListener;" .null := Fld.mon Mo692 p667
  have Z719 : n0 ≤ h692.size := by rw [Mo692.size]; exact Z690
  have K720 : Keep h0 h692 [o0, w_o1_peer] := own_keep_mon K691 MA692 (List.mem_of_getElem? (i := 0) rfl)
  refine own_go st692 ?_
  refine own_go (S' := T692.setTop (own_mk [o0] 1 m 24 #[.val (.ref o0), .val (.ref o1), .val .null, .val (.ref o3), .val .null, .val (.ref b621), .val (.ref o0), .unset] [(.ref o0)])) (fun t k => ?_) ?_
  · show Steps p.tables e below (T692.setTop (own_mk [o0] 1 m 23 #[.val (.ref o0), .val (.ref o1), .val .null, .val (.ref o3), .val .null, .val (.ref b621), .val (.ref o0), .unset] [])) t
    refine XS.aloadN X692.here hx rfl (hb hby d17_23) rfl rfl ?_
    exact k
  obtain ⟨T721, X721, e721, st721⟩ := getF X692 hx hZ hown (host := "") (Or.inl (hw _ (List.mem_of_getElem? (i := 150) rfl))) Via.refl e692 f696 (g := (own_mk [o0] 1 m 24 #[.val (.ref o0), .val (.ref o1), .val .null, .val (.ref o3), .val .null, .val (.ref b621), .val (.ref o0), .unset] [(.ref o0)])) rfl rfl (hb hby d17_24)
  refine own_go st721 ?_
  refine own_go (S' := T721.setTop (own_mk [o0] 1 m 43 #[.val (.ref o0), .val (.ref o1), .val .null, .val (.ref o3), .val .null, .val (.ref b621), .val (.ref o0), .unset] [(.ref b621), (.ref o0)])) (fun t k => ?_) ?_
  · show Steps p.tables e below (T721.setTop (own_mk [o0] 1 m 27 #[.val (.ref o0), .val (.ref o1), .val .null, .val (.ref o3), .val .null, .val (.ref b621), .val (.ref o0), .unset] [.null])) t
    refine XS.ifnullYes X721.here hx rfl (pc0 := 27) (pc' := 40) rfl (hb hby d17_27) rfl (by decide) (by decide) ?_
    show Steps p.tables e below (T721.setTop (own_mk [o0] 1 m 40 #[.val (.ref o0), .val (.ref o1), .val .null, .val (.ref o3), .val .null, .val (.ref b621), .val (.ref o0), .unset] [])) t
    refine XS.aloadN X721.here hx rfl (hb hby d17_40) rfl rfl ?_
    show Steps p.tables e below (T721.setTop (own_mk [o0] 1 m 41 #[.val (.ref o0), .val (.ref o1), .val .null, .val (.ref o3), .val .null, .val (.ref b621), .val (.ref o0), .unset] [(.ref o0)])) t
    refine XS.aload X721.here hx rfl (hb hby d17_41) rfl rfl ?_
    exact k
  obtain ⟨T722, h722, X722, e722, W722, st722⟩ := putF X721 hx hZ hown (host := "") (Or.inl (hw _ (List.mem_of_getElem? (i := 150) rfl))) Via.refl e721 f696 f697 (Or.inl (hw _ (List.mem_of_getElem? (i := 151) rfl))) (hw _ (List.mem_of_getElem? (i := 83) rfl)) (ty := (.object "com/example/dropwire/dropwire/dnd/DragSourceContext")) (by decide) rfl rfl (g := (own_mk [o0] 1 m 43 #[.val (.ref o0), .val (.ref o1), .val .null, .val (.ref o3), .val .null, .val (.ref b621), .val (.ref o0), .unset] [(.ref b621), (.ref o0)])) rfl rfl (hb hby d17_43)
  have f723 : Fld Z h722 o1 "com/example/dropwire/dropwire/dnd/DragGesture" "userAction" "Lcom/example/dropwire/dropwire/dnd/Actions;" (.ref w_o1_userAction) := f693.other W722 (Or.inl (ne_exa f694 f697 (by decide)))
  have f724 : Exa Z h722 o1 "com/example/dropwire/dropwire/dnd/DragGesture" := f694.wr W722
  have f725 : Sta Z h722 "com/example/dropwire/dropwire/dnd/Actions" "NONE" "Lcom/example/dropwire/dropwire/dnd/Actions;" (.ref w_s_NONE) := f695.wr W722
  have f726 : Exa Z h722 o0 "com/example/dropwire/dropwire/dnd/DragSource" := f697.wr W722
  have f727 : Fld Z h722 o1 "com/example/dropwire/dropwire/dnd/DragGesture" "peer" "Lcom/example/dropwire/dropwire/dnd/DragSourcePeer;" (.ref w_o1_peer) := f698.other W722 (Or.inl (ne_exa f694 f697 (by decide)))
  have f728 : Fld Z h722 o1 "com/example/dropwire/dropwire/dnd/DragGesture" "origin" "Lcom/example/dropwire/dropwire/dnd/Point;" (.ref w_o1_origin) := f699.other W722 (Or.inl (ne_exa f694 f697 (by decide)))
  have f729 : Fld Z h722 w_o1_peer "com/example/dropwire/dropwire/inprocess/InProcessPeer" "drag" "Lcom/example/dropwire/dropwire/dnd/DragSourceContext;" .null := f700.other W722 (Or.inl ne_w_o1_peer_o0)
  have f730 : Exa Z h722 w_o1_peer "com/example/dropwire/dropwire/inprocess/InProcessPeer" := f701.wr W722
  have f731 : Fld Z h722 w_o1_peer "com/example/dropwire/dropwire/inprocess/InProcessPeer" "components" "Ljava/util/List;" w_w_o1_peer_components := f702.other W722 (Or.inl ne_w_o1_peer_o0)
  have f732 : Fld Z h722 w_o1_peer "com/example/dropwire/dropwire/inprocess/InProcessPeer" "recognizers" "Ljava/util/List;" (.ref w_w_o1_peer_recognizers) := f703.other W722 (Or.inl ne_w_o1_peer_o0)
  have f733 : Fld Z h722 w_o1_peer "com/example/dropwire/dropwire/inprocess/InProcessPeer" "hotspot" "Lcom/example/dropwire/dropwire/dnd/Point;" w_w_o1_peer_hotspot := f704.other W722 (Or.inl ne_w_o1_peer_o0)
  have f734 : Fld Z h722 w_o1_peer "com/example/dropwire/dropwire/inprocess/InProcessPeer" "recognizing" "Lcom/example/dropwire/dropwire/inprocess/InProcessPeer$Recognizer;" .null := f705.other W722 (Or.inl ne_w_o1_peer_o0)
  have f735 : Fld Z h722 w_o1_peer "com/example/dropwire/dropwire/inprocess/InProcessPeer" "plain" "Lcom/example/dropwire/dropwire/dnd/Actions;" w_w_o1_peer_plain := f706.other W722 (Or.inl ne_w_o1_peer_o0)
  have f736 : Fld Z h722 w_o1_peer "com/example/dropwire/dropwire/inprocess/InProcessPeer" "under" "Lcom/example/dropwire/dropwire/inprocess/InProcessPeer$Component;" w_w_o1_peer_under := f707.other W722 (Or.inl ne_w_o1_peer_o0)
  have f737 : Fld Z h722 w_o1_peer "com/example/dropwire/dropwire/inprocess/InProcessPeer" "visit" "Lcom/example/dropwire/dropwire/dnd/DropTargetVisit;" w_w_o1_peer_visit := f708.other W722 (Or.inl ne_w_o1_peer_o0)
  have f738 : Fld Z h722 w_w_o1_peer_recognizers "java/util/AbstractList" "modCount" "I" (.int w_w_w_o1_peer_recognizers_modCount) := f709.other W722 (Or.inl ne_w_w_o1_peer_recognizers_o0)
  have f739 : Exa Z h722 w_w_o1_peer_recognizers "java/util/ArrayList" := f710.wr W722
  have f740 : Fld Z h722 w_w_o1_peer_recognizers "java/util/ArrayList" "size" "I" (.int (0 : Int32)) := f711.other W722 (Or.inl ne_w_w_o1_peer_recognizers_o0)
  have f741 : Exa Z h722 b621 "com/example/dropwire/dropwire/dnd/DragSourceContext" := f712.wr W722
  have f742 : Fld Z h722 b621 "com/example/dropwire/dropwire/dnd/DragSourceContext" "acceptedAction" "Lcom/example/dropwire/dropwire/dnd/Actions;" (.ref w_s_NONE) := f713.other W722 (Or.inl (Ne.symm ne623))
  have f743 : Fld Z h722 b621 "com/example/dropwire/dropwire/dnd/DragSourceContext" "dragSource" "Lcom/example/dropwire/dropwire/dnd/DragSource;" (.ref o0) := f714.other W722 (Or.inl (Ne.symm ne623))
  have f744 : Fld Z h722 b621 "com/example/dropwire/dropwire/dnd/DragSourceContext" "transferable" "Lcom/example/dropwire/dropwire/transfer/Transferable;" .null := f715.other W722 (Or.inl (Ne.symm ne623))
  have f745 : Fld Z h722 b621 "com/example/dropwire/dropwire/dnd/DragSourceContext" "sourceActions" "Lcom/example/dropwire/dropwire/dnd/Actions;" (.ref o3) := f716.other W722 (Or.inl (Ne.symm ne623))
  have f746 : Fld Z h722 b621 "com/example/dropwire/dropwire/dnd/DragSourceContext" "userAction" "Lcom/example/dropwire/dropwire/dnd/Actions;" (.ref w_o1_userAction) := f717.other W722 (Or.inl (Ne.symm ne623))
  have f747 : Fld Z h722 b621 "com/example/dropwire/dropwire/dnd/DragSourceContext" "listener" "Lcom/example/dropwire/dropwire/dnd/DragSourceListener;" .null := f718.other W722 (Or.inl (Ne.symm ne623))
  have f748 : own_Held h722 o0 s.cur := own_Held.wr W722 H692
  have f749 : Fld Z h722 o0 "com/example/dropwire/dropwire/dnd/DragSource" "current" "Lcom/example/dropwire/dropwire/dnd/DragSourceContext;" (.ref b621) := f696.same W722
  have N750 := Fr.snoc X722 N668 g_o0
  have Z751 : n0 ≤ h722.size := Nat.le_trans Z719 (Keep.of_wr W722).1
  have K752 : Keep h0 h722 [o0, w_o1_peer] := K720.wr W722 (Or.inl (List.mem_of_getElem? (i := 0) rfl))
  refine own_go st722 ?_
  refine own_go (S' := T722.setTop (own_mk [o0] 1 m 48 #[.val (.ref o0), .val (.ref o1), .val .null, .val (.ref o3), .val .null, .val (.ref b621), .val (.ref o0), .unset] [(.ref o0)])) (fun t k => ?_) ?_
  · show Steps p.tables e below (T722.setTop (own_mk [o0] 1 m 46 #[.val (.ref o0), .val (.ref o1), .val .null, .val (.ref o3), .val .null, .val (.ref b621), .val (.ref o0), .unset] [])) t
    refine XS.aload X722.here hx rfl (hb hby d17_46) rfl rfl ?_
    exact k
  obtain ⟨T753, h753, X753, e753, MA753, U753, st753⟩ := own_monOut X722 hx u4_692 u3_692 e722 f748 (g := (own_mk [o0] 1 m 48 #[.val (.ref o0), .val (.ref o1), .val .null, .val (.ref o3), .val .null, .val (.ref b621), .val (.ref o0), .unset] [(.ref o0)])) rfl rfl rfl rfl (hb hby d17_48)
  have Mo753 := own_mon MA753
  have f754 : Fld Z h753 o1 "com/example/dropwire/dropwire/dnd/DragGesture" "userAction" "Lcom/example/dropwire/dropwire/dnd/Actions;" (.ref w_o1_userAction) := Fld.mon Mo753 f723
  have f755 : Exa Z h753 o1 "com/example/dropwire/dropwire/dnd/DragGesture" := Exa.mon Mo753 f724
  have f756 : Sta Z h753 "com/example/dropwire/dropwire/dnd/Actions" "NONE" "Lcom/example/dropwire/dropwire/dnd/Actions;" (.ref w_s_NONE) := Sta.mon Mo753 f725
  have f757 : Exa Z h753 o0 "com/example/dropwire/dropwire/dnd/DragSource" := Exa.mon Mo753 f726
  have f758 : Fld Z h753 o1 "com/example/dropwire/dropwire/dnd/DragGesture" "peer" "Lcom/example/dropwire/dropwire/dnd/DragSourcePeer;" (.ref w_o1_peer) := Fld.mon Mo753 f727
  have f759 : Fld Z h753 o1 "com/example/dropwire/dropwire/dnd/DragGesture" "origin" "Lcom/example/dropwire/dropwire/dnd/Point;" (.ref w_o1_origin) := Fld.mon Mo753 f728
  have f760 : Fld Z h753 w_o1_peer "com/example/dropwire/dropwire/inprocess/InProcessPeer" "drag" "Lcom/example/dropwire/dropwire/dnd/DragSourceContext;" .null := Fld.mon Mo753 f729
  have f761 : Exa Z h753 w_o1_peer "com/example/dropwire/dropwire/inprocess/InProcessPeer" := Exa.mon Mo753 f730
  have f762 : Fld Z h753 w_o1_peer "com/example/dropwire/dropwire/inprocess/InProcessPeer" "components" "Ljava/util/List;" w_w_o1_peer_components := Fld.mon Mo753 f731
  have f763 : Fld Z h753 w_o1_peer "com/example/dropwire/dropwire/inprocess/InProcessPeer" "recognizers" "Ljava/util/List;" (.ref w_w_o1_peer_recognizers) := Fld.mon Mo753 f732
  have f764 : Fld Z h753 w_o1_peer "com/example/dropwire/dropwire/inprocess/InProcessPeer" "hotspot" "Lcom/example/dropwire/dropwire/dnd/Point;" w_w_o1_peer_hotspot := Fld.mon Mo753 f733
  have f765 : Fld Z h753 w_o1_peer "com/example/dropwire/dropwire/inprocess/InProcessPeer" "recognizing" "Lcom/example/dropwire/dropwire/inprocess/InProcessPeer$Recognizer;" .null := Fld.mon Mo753 f734
  have f766 : Fld Z h753 w_o1_peer "com/example/dropwire/dropwire/inprocess/InProcessPeer" "plain" "Lcom/example/dropwire/dropwire/dnd/Actions;" w_w_o1_peer_plain := Fld.mon Mo753 f735
  have f767 : Fld Z h753 w_o1_peer "com/example/dropwire/dropwire/inprocess/InProcessPeer" "under" "Lcom/example/dropwire/dropwire/inprocess/InProcessPeer$Component;" w_w_o1_peer_under := Fld.mon Mo753 f736
  have f768 : Fld Z h753 w_o1_peer "com/example/dropwire/dropwire/inprocess/InProcessPeer" "visit" "Lcom/example/dropwire/dropwire/dnd/DropTargetVisit;" w_w_o1_peer_visit := Fld.mon Mo753 f737
  have f769 : Fld Z h753 w_w_o1_peer_recognizers "java/util/AbstractList" "modCount" "I" (.int w_w_w_o1_peer_recognizers_modCount) := Fld.mon Mo753 f738
  have f770 : Exa Z h753 w_w_o1_peer_recognizers "java/util/ArrayList" := Exa.mon Mo753 f739
  have f771 : Fld Z h753 w_w_o1_peer_recognizers "java/util/ArrayList" "size" "I" (.int (0 : Int32)) := Fld.mon Mo753 f740
  have f772 : Exa Z h753 b621 "com/example/dropwire/dropwire/dnd/DragSourceContext" := Exa.mon Mo753 f741
  have f773 : Fld Z h753 b621 "com/example/dropwire/dropwire/dnd/DragSourceContext" "acceptedAction" "Lcom/example/dropwire/dropwire/dnd/Actions;" (.ref w_s_NONE) := Fld.mon Mo753 f742
  have f774 : Fld Z h753 b621 "com/example/dropwire/dropwire/dnd/DragSourceContext" "dragSource" "Lcom/example/dropwire/dropwire/dnd/DragSource;" (.ref o0) := Fld.mon Mo753 f743
  have f775 : Fld Z h753 b621 "com/example/dropwire/dropwire/dnd/DragSourceContext" "transferable" "Lcom/example/dropwire/dropwire/transfer/Transferable;" .null := Fld.mon Mo753 f744
  have f776 : Fld Z h753 b621 "com/example/dropwire/dropwire/dnd/DragSourceContext" "sourceActions" "Lcom/example/dropwire/dropwire/dnd/Actions;" (.ref o3) := Fld.mon Mo753 f745
  have f777 : Fld Z h753 b621 "com/example/dropwire/dropwire/dnd/DragSourceContext" "userAction" "Lcom/example/dropwire/dropwire/dnd/Actions;" (.ref w_o1_userAction) := Fld.mon Mo753 f746
  have f778 : Fld Z h753 b621 "com/example/dropwire/dropwire/dnd/DragSourceContext" "listener" "Lcom/example/dropwire/dropwire/dnd/DragSourceListener;" .null := Fld.mon Mo753 f747
  have f779 : Fld Z h753 o0 "com/example/dropwire/dropwire/dnd/DragSource" "current" "Lcom/example/dropwire/dropwire/dnd/DragSourceContext;" (.ref b621) := Fld.mon Mo753 f749
  have Z780 : n0 ≤ h753.size := by rw [Mo753.size]; exact Z751
  have K781 : Keep h0 h753 [o0, w_o1_peer] := own_keep_mon K752 MA753 (List.mem_of_getElem? (i := 0) rfl)
  refine own_go st753 ?_
  refine own_go (S' := T753.setTop (own_mk [] 1 m 61 #[.val (.ref o0), .val (.ref o1), .val .null, .val (.ref o3), .val .null, .val (.ref b621), .val (.ref o0), .unset] [(.ref o1)])) (fun t k => ?_) ?_
  · show Steps p.tables e below (T753.setTop (own_mk [] 1 m 49 #[.val (.ref o0), .val (.ref o1), .val .null, .val (.ref o3), .val .null, .val (.ref b621), .val (.ref o0), .unset] [])) t
    refine XS.goto X753.here hx rfl (pc0 := 49) (pc' := 60) rfl (hb hby d17_49) (by decide) (by decide) ?_
    show Steps p.tables e below (T753.setTop (own_mk [] 1 m 60 #[.val (.ref o0), .val (.ref o1), .val .null, .val (.ref o3), .val .null, .val (.ref b621), .val (.ref o0), .unset] [])) t
    refine XS.aloadN X753.here hx rfl (hb hby d17_60) rfl rfl ?_
    exact k
  obtain ⟨cq782, kq782, qa782, qb782, qc782⟩ := isOf hZ e753 f755
  obtain ⟨_, _, ⟨T782, L782, kk782, nn782⟩, -, X782, ⟨Lc782, hQ782, l782, y782, z782⟩, st782⟩ := X753.virtualBack hx (y := (⟨"com/example/dropwire/dropwire/dnd/DragGesture", "peer", "()Lcom/example/dropwire/dropwire/dnd/DragSourcePeer;"⟩ : MethodName)) (z := (⟨"com/example/dropwire/dropwire/dnd/DragGesture", "peer", "()Lcom/example/dropwire/dropwire/dnd/DragSourcePeer;"⟩ : MethodName)) hown (mvT hZ (hw _ (List.mem_of_getElem? (i := 152) rfl))) (mvT hZ (hw _ (List.mem_of_getElem? (i := 153) rfl))) (notFace_of_selects (args := #[]) (mvT hZ (hw _ (List.mem_of_getElem? (i := 155) rfl)))) (mvT hZ (hw _ (List.mem_of_getElem? (i := 155) rfl))) (mvT hZ (hw _ (List.mem_of_getElem? (i := 154) rfl))) (by decide) (backOf (W := 2) (dgPeer l Z a0 hw [] o1 w_o1_peer h753 n0 Z780 f758) hZ (hw _ (List.mem_of_getElem? (i := 156) rfl)) (hw _ (List.mem_of_getElem? (i := 96) rfl)) (by decide) (by decide)) qa782 qc782 (g := (own_mk [] 1 m 61 #[.val (.ref o0), .val (.ref o1), .val .null, .val (.ref o3), .val .null, .val (.ref b621), .val (.ref o0), .unset] [(.ref o1)])) rfl (by rw [hml]; rfl) (Steps.refl _) (argsL := []) (rest := []) (lenOf pd_309 rfl) rfl (by show 2 * 1 + _ ≤ _; exact Nat.le_of_eq rfl) (hb hby d17_61) (fun _ _ => ⟨rfl, e753, (by decide : 1 + 0 ≤ _), (by decide : 9 + 0 ≤ _)⟩)
  dsimp only [Pt.U, Pt.locs, Pt.cells, Pt.slots] at X782 l782 y782 z782 st782 hQ782
  subst l782 y782 z782
  obtain ⟨rfl, N783, e782⟩ := hQ782
  have N785 := Fr.app N750 N783
  refine own_goT st782 ?_
  refine own_go (S' := T782.setTop (own_mk [] 1 m 67 #[.val (.ref o0), .val (.ref o1), .val .null, .val (.ref o3), .val .null, .val (.ref b621), .val (.ref o0), .unset] [(.ref o1), (.ref b621), (.ref w_o1_peer)])) (fun t k => ?_) ?_
  · show Steps p.tables e below (T782.setTop (own_mk [] 1 m 64 #[.val (.ref o0), .val (.ref o1), .val .null, .val (.ref o3), .val .null, .val (.ref b621), .val (.ref o0), .unset] [(.ref w_o1_peer)])) t
    refine XS.aload X782.here hx rfl (hb hby d17_64) rfl rfl ?_
    show Steps p.tables e below (T782.setTop (own_mk [] 1 m 66 #[.val (.ref o0), .val (.ref o1), .val .null, .val (.ref o3), .val .null, .val (.ref b621), .val (.ref o0), .unset] [(.ref b621), (.ref w_o1_peer)])) t
    refine XS.aloadN X782.here hx rfl (hb hby d17_66) rfl rfl ?_
    exact k
  obtain ⟨cq786, kq786, qa786, qb786, qc786⟩ := isOf hZ e782 f755
  obtain ⟨_, _, ⟨T786, L786, kk786, nn786⟩, -, X786, ⟨Lc786, hQ786, l786, y786, z786⟩, st786⟩ := X782.virtualBack hx (y := (⟨"com/example/dropwire/dropwire/dnd/DragGesture", "origin", "()Lcom/example/dropwire/dropwire/dnd/Point;"⟩ : MethodName)) (z := (⟨"com/example/dropwire/dropwire/dnd/DragGesture", "origin", "()Lcom/example/dropwire/dropwire/dnd/Point;"⟩ : MethodName)) hown (mvT hZ (hw _ (List.mem_of_getElem? (i := 157) rfl))) (mvT hZ (hw _ (List.mem_of_getElem? (i := 158) rfl))) (notFace_of_selects (args := #[]) (mvT hZ (hw _ (List.mem_of_getElem? (i := 160) rfl)))) (mvT hZ (hw _ (List.mem_of_getElem? (i := 160) rfl))) (mvT hZ (hw _ (List.mem_of_getElem? (i := 159) rfl))) (by decide) (backOf (W := 4) (dgOrigin l Z a0 hw [] o1 w_o1_origin h753 n0 Z780 f759) hZ (hw _ (List.mem_of_getElem? (i := 161) rfl)) (hw _ (List.mem_of_getElem? (i := 96) rfl)) (by decide) (by decide)) qa786 qc786 (g := (own_mk [] 1 m 67 #[.val (.ref o0), .val (.ref o1), .val .null, .val (.ref o3), .val .null, .val (.ref b621), .val (.ref o0), .unset] [(.ref o1), (.ref b621), (.ref w_o1_peer)])) rfl (by rw [hml]; rfl) (Steps.refl _) (argsL := []) (rest := [(.ref b621), (.ref w_o1_peer)]) (lenOf pd_313 rfl) rfl (by show 2 * 1 + _ ≤ _; exact Nat.le_of_eq rfl) (hb hby d17_67) (fun _ _ => ⟨rfl, e782, (by decide : 1 + 0 ≤ _), (by decide : 9 + 0 ≤ _)⟩)
  dsimp only [Pt.U, Pt.locs, Pt.cells, Pt.slots] at X786 l786 y786 z786 st786 hQ786
  subst l786 y786 z786
  obtain ⟨rfl, N787, e786⟩ := hQ786
  have N789 := Fr.app N785 N787
  refine own_goT st786 ?_
  obtain ⟨cq790, kq790, qa790, qb790, qc790⟩ := isOf hZ e786 f761
  obtain ⟨_, _, ⟨T790, L790, kk790, nn790⟩, -, X790, ⟨Lc790, hQ790, l790, y790, z790⟩, st790⟩ := X786.interfaceBack hx (xi := (⟨"com/example/dropwire/dropwire/dnd/DragSourcePeer", "startDrag", "(Lcom/example/dropwire/dropwire/dnd/DragSourceContext;Lcom/example/dropwire/dropwire/dnd/Point;)V"⟩ : MethodName)) (y := (⟨"com/example/dropwire/dropwire/inprocess/InProcessPeer", "startDrag", "(Lcom/example/dropwire/dropwire/dnd/DragSourceContext;Lcom/example/dropwire/dropwire/dnd/Point;)V"⟩ : MethodName)) hown (mvT hZ (hw _ (List.mem_of_getElem? (i := 162) rfl))) (mvT hZ (hw _ (List.mem_of_getElem? (i := 163) rfl))) (mvT hZ (hw _ (List.mem_of_getElem? (i := 164) rfl))) (mvT hZ (hw _ (List.mem_of_getElem? (i := 165) rfl))) (mvT hZ (hw _ (List.mem_of_getElem? (i := 166) rfl))) (mvT hZ (hw _ (List.mem_of_getElem? (i := 167) rfl))) (mvT hZ (hw _ (List.mem_of_getElem? (i := 168) rfl))) (mvT hZ (hw _ (List.mem_of_getElem? (i := 169) rfl))) (by decide) (backOf (W := 2) (ipStart l Z a0 hw [] w_o1_peer b621 w_o1_origin w_w_o1_peer_components w_w_o1_peer_recognizers w_w_o1_peer_hotspot w_w_o1_peer_plain w_w_o1_peer_under w_w_o1_peer_visit w_o1_userAction w_w_w_o1_peer_recognizers_modCount h753 n0 Z780 f760 f761 g_w_o1_peer f762 f763 f764 f765 f766 f767 f768 f777 (Ne.symm ne624) f772 f769 ne_w_w_o1_peer_recognizers_w_o1_peer f770 f771) hZ (hw _ (List.mem_of_getElem? (i := 170) rfl)) (hw _ (List.mem_of_getElem? (i := 2) rfl)) (by decide) (by decide)) qa790 qb790 qc790 (g := (own_mk [] 1 m 70 #[.val (.ref o0), .val (.ref o1), .val .null, .val (.ref o3), .val .null, .val (.ref b621), .val (.ref o0), .unset] [(.ref w_o1_origin), (.ref b621), (.ref w_o1_peer)])) rfl (by rw [hml]; rfl) (Steps.refl _) (argsL := [(.ref b621), (.ref w_o1_origin)]) (rest := []) (lenOf pd_315 rfl) rfl (by show 2 * 1 + _ ≤ _; exact Nat.le_of_eq rfl) (hb hby d17_70) (fun _ _ => ⟨rfl, e786, (by decide : 1 + 1 ≤ _), (by decide : 9 + 4 ≤ _)⟩)
  dsimp only [Pt.U, Pt.locs, Pt.cells, Pt.slots] at X790 l790 y790 z790 st790 hQ790
  subst l790 y790 z790
  obtain ⟨rfl, N791, K792, p793, p794, p795, p796, p797, p798, p799, p800, p801⟩ := hQ790
  have N802 := Fr.app N789 N791
  have f803 : Fld Z T790.heap o1 "com/example/dropwire/dropwire/dnd/DragGesture" "userAction" "Lcom/example/dropwire/dropwire/dnd/Actions;" (.ref w_o1_userAction) := f754.keep K792 (ninS (ne_exa f755 f761 (by decide)) nin0)
  have f804 : Exa Z T790.heap o1 "com/example/dropwire/dropwire/dnd/DragGesture" := f755.keep K792
  have f805 : Sta Z T790.heap "com/example/dropwire/dropwire/dnd/Actions" "NONE" "Lcom/example/dropwire/dropwire/dnd/Actions;" (.ref w_s_NONE) := own_sta_keep f756 K792 (allS (own_plain f761) all0)
  have f806 : Exa Z T790.heap o0 "com/example/dropwire/dropwire/dnd/DragSource" := f757.keep K792
  have f807 : Fld Z T790.heap o1 "com/example/dropwire/dropwire/dnd/DragGesture" "peer" "Lcom/example/dropwire/dropwire/dnd/DragSourcePeer;" (.ref w_o1_peer) := f758.keep K792 (ninS (ne_exa f755 f761 (by decide)) nin0)
  have f808 : Fld Z T790.heap o1 "com/example/dropwire/dropwire/dnd/DragGesture" "origin" "Lcom/example/dropwire/dropwire/dnd/Point;" (.ref w_o1_origin) := f759.keep K792 (ninS (ne_exa f755 f761 (by decide)) nin0)
  have f809 : Exa Z T790.heap w_o1_peer "com/example/dropwire/dropwire/inprocess/InProcessPeer" := f761.keep K792
  have f810 : Fld Z T790.heap w_w_o1_peer_recognizers "java/util/AbstractList" "modCount" "I" (.int w_w_w_o1_peer_recognizers_modCount) := f769.keep K792 (ninS ne_w_w_o1_peer_recognizers_w_o1_peer nin0)
  have f811 : Exa Z T790.heap w_w_o1_peer_recognizers "java/util/ArrayList" := f770.keep K792
  have f812 : Fld Z T790.heap w_w_o1_peer_recognizers "java/util/ArrayList" "size" "I" (.int (0 : Int32)) := f771.keep K792 (ninS ne_w_w_o1_peer_recognizers_w_o1_peer nin0)
  have f813 : Exa Z T790.heap b621 "com/example/dropwire/dropwire/dnd/DragSourceContext" := f772.keep K792
  have f814 : Fld Z T790.heap b621 "com/example/dropwire/dropwire/dnd/DragSourceContext" "acceptedAction" "Lcom/example/dropwire/dropwire/dnd/Actions;" (.ref w_s_NONE) := f773.keep K792 (ninS (Ne.symm ne624) nin0)
  have f815 : Fld Z T790.heap b621 "com/example/dropwire/dropwire/dnd/DragSourceContext" "dragSource" "Lcom/example/dropwire/dropwire/dnd/DragSource;" (.ref o0) := f774.keep K792 (ninS (Ne.symm ne624) nin0)
  have f816 : Fld Z T790.heap b621 "com/example/dropwire/dropwire/dnd/DragSourceContext" "transferable" "Lcom/example/dropwire/dropwire/transfer/Transferable;" .null := f775.keep K792 (ninS (Ne.symm ne624) nin0)
  have f817 : Fld Z T790.heap b621 "com/example/dropwire/dropwire/dnd/DragSourceContext" "sourceActions" "Lcom/example/dropwire/dropwire/dnd/Actions;" (.ref o3) := f776.keep K792 (ninS (Ne.symm ne624) nin0)
  have f818 : Fld Z T790.heap b621 "com/example/dropwire/dropwire/dnd/DragSourceContext" "userAction" "Lcom/example/dropwire/dropwire/dnd/Actions;" (.ref w_o1_userAction) := f777.keep K792 (ninS (Ne.symm ne624) nin0)
  have f819 : Fld Z T790.heap b621 "com/example/dropwire/dropwire/dnd/DragSourceContext" "listener" "Lcom/example/dropwire/dropwire/dnd/DragSourceListener;" .null := f778.keep K792 (ninS (Ne.symm ne624) nin0)
  have f820 : Fld Z T790.heap o0 "com/example/dropwire/dropwire/dnd/DragSource" "current" "Lcom/example/dropwire/dropwire/dnd/DragSourceContext;" (.ref b621) := f779.keep K792 (ninS (Ne.symm ne_w_o1_peer_o0) nin0)
  have Z821 : n0 ≤ T790.heap.size := Nat.le_trans Z780 K792.1
  have K822 : Keep h0 T790.heap [o0, w_o1_peer] := K781.trans K792 (allS (Or.inl (List.mem_of_getElem? (i := 1) rfl)) all0)
  refine own_goT st790 ?_
  refine own_go (S' := T790.setTop (own_mk [] 1 m 90 #[.val (.ref o0), .val (.ref o1), .val .null, .val (.ref o3), .val .null, .val (.ref b621), .val (.ref o0), .unset] [(.ref b621)])) (fun t k => ?_) ?_
  · show Steps p.tables e below (T790.setTop (own_mk [] 1 m 75 #[.val (.ref o0), .val (.ref o1), .val .null, .val (.ref o3), .val .null, .val (.ref b621), .val (.ref o0), .unset] [])) t
    refine XS.goto X790.here hx rfl (pc0 := 75) (pc' := 88) rfl (hb hby d17_75) (by decide) (by decide) ?_
    show Steps p.tables e below (T790.setTop (own_mk [] 1 m 88 #[.val (.ref o0), .val (.ref o1), .val .null, .val (.ref o3), .val .null, .val (.ref b621), .val (.ref o0), .unset] [])) t
    refine XS.aload X790.here hx rfl (hb hby d17_88) rfl rfl ?_
    exact k
  obtain ⟨fs, hr, hrun, hended, hW, hsame⟩ := X790.leave (v := some (.ref b621)) (fun h => by rw [Bd.returns] at h; cases h)
  refine own_end (v := some (.ref b621)) ?_ hrun hended ?_ hW (hsame.mono (by decide) (by decide))
  · show Steps p.tables e below (T790.setTop (own_mk [] 1 m 90 #[.val (.ref o0), .val (.ref o1), .val .null, .val (.ref o3), .val .null, .val (.ref b621), .val (.ref o0), .unset] [(.ref b621)])) _
    jvm_step X790.here [X790.here.top, hx, (hb hby d17_90), X790.method', Bd.returns, Value.isRef, FieldType.isReference]
    first | (intro acts; rw [hr _ acts rfl rfl rfl]) | rw [hr _ _ rfl rfl rfl]
    exact Steps.refl _
  · show QdsStart Z o0 o1 o3 w_o1_userAction w_s_NONE w_o1_peer w_o1_origin w_w_o1_peer_components w_w_o1_peer_recognizers w_w_o1_peer_hotspot w_w_o1_peer_plain w_w_o1_peer_under w_w_o1_peer_visit w_w_w_o1_peer_recognizers_modCount h0 n0 _ T790.heap _
    exact ⟨b621, rfl, N802, K822, sz_b621, f806, f820, p793, p794, p795, p796, p797, p798, p799, p800, p801, f813, f814, f815, f816, f817, f818, f819⟩
theorem own_bits (x : Int32) : (((1 : Int32) <<< (((x &&& (2147483647 : Int32)) % (3 : Int32)) &&& 31)) &&& (-8 : Int32)) = (0 : Int32) ∧ (bitCount_r ((1 : Int32) <<< (((x &&& (2147483647 : Int32)) % (3 : Int32)) &&& 31))) = (1 : Int32) := by
  have e1 : (x &&& (2147483647 : Int32)).toInt = x.toInt % 2 ^ 31 := Jvm.Kit.i32_mask x 2147483647 (k := 31) (by decide) (by decide)
  have e2 : ((x &&& (2147483647 : Int32)) % (3 : Int32)).toInt = (x.toInt % 2 ^ 31) % 3 := by
    rw [Jvm.Kit.i32_rem_nonneg (by omega), e1]; rfl
  have b : ((x &&& (2147483647 : Int32)) % (3 : Int32)).toInt = 0 ∨ ((x &&& (2147483647 : Int32)) % (3 : Int32)).toInt = 1 ∨ ((x &&& (2147483647 : Int32)) % (3 : Int32)).toInt = 2 := by omega
  have t0 : (((1 : Int32) <<< ((0 : Int32) &&& 31)) &&& (-8 : Int32)) = (0 : Int32) ∧ (bitCount_r ((1 : Int32) <<< ((0 : Int32) &&& 31))) = (1 : Int32) := by decide +kernel
  have t1 : (((1 : Int32) <<< ((1 : Int32) &&& 31)) &&& (-8 : Int32)) = (0 : Int32) ∧ (bitCount_r ((1 : Int32) <<< ((1 : Int32) &&& 31))) = (1 : Int32) := by decide +kernel
  have t2 : (((1 : Int32) <<< ((2 : Int32) &&& 31)) &&& (-8 : Int32)) = (0 : Int32) ∧ (bitCount_r ((1 : Int32) <<< ((2 : Int32) &&& 31))) = (1 : Int32) := by decide +kernel
  rcases b with b | b | b
  · rw [show (x &&& (2147483647 : Int32)) % (3 : Int32) = 0 from Int32.toInt_inj.mp b]; exact t0
  · rw [show (x &&& (2147483647 : Int32)) % (3 : Int32) = 1 from Int32.toInt_inj.mp b]; exact t1
  · rw [show (x &&& (2147483647 : Int32)) % (3 : Int32) = 2 from Int32.toInt_inj.mp b]; exact t2
theorem own_low (x : Int32) : ((x &&& (7 : Int32)) &&& (-8 : Int32)) = (0 : Int32) := by
  have t : ∀ k : Fin 8, ((Int32.ofNat k.val) &&& (-8 : Int32)) = (0 : Int32) := by decide +kernel
  have h : (x &&& 7).toBitVec.toNat < 8 := by
    simp only [Int32.toBitVec_and, BitVec.toNat_and]
    exact Nat.lt_succ_of_le Nat.and_le_right
  have e : (x &&& 7) = Int32.ofNat (x &&& 7).toBitVec.toNat := by
    apply Int32.toBitVec_inj.mp
    show _ = BitVec.ofNat 32 _
    rw [BitVec.ofNat_toNat]; simp
  rw [e]
  exact t ⟨_, h⟩
theorem pd_319 : parseMethodDescriptor "(I)Lcom/example/dropwire/dropwire/dnd/Actions;" = some ⟨[.int], some (.object "com/example/dropwire/dropwire/dnd/Actions")⟩ := by decide +kernel
theorem pd_320 : parseMethodDescriptor "(Lcom/example/dropwire/dropwire/dnd/Point;Lcom/example/dropwire/dropwire/dnd/Actions;)Lcom/example/dropwire/dropwire/dnd/DragGesture;" = some ⟨[(.object "com/example/dropwire/dropwire/dnd/Point"), (.object "com/example/dropwire/dropwire/dnd/Actions")], some (.object "com/example/dropwire/dropwire/dnd/DragGesture")⟩ := by decide +kernel
theorem pd_321 : parseMethodDescriptor "(Lcom/example/dropwire/dropwire/dnd/DragGesture;Lcom/example/dropwire/dropwire/transfer/Transferable;Lcom/example/dropwire/dropwire/dnd/Actions;Lcom/example/dropwire/dropwire/dnd/DragSourceListener;)Lcom/example/dropwire/dropwire/dnd/DragSourceContext;" = some ⟨[(.object "com/example/dropwire/dropwire/dnd/DragGesture"), (.object "com/example/dropwire/dropwire/transfer/Transferable"), (.object "com/example/dropwire/dropwire/dnd/Actions"), (.object "com/example/dropwire/dropwire/dnd/DragSourceListener")], some (.object "com/example/dropwire/dropwire/dnd/DragSourceContext")⟩ := by decide +kernel
theorem pd_322 : parseMethodDescriptor "(Lcom/example/dropwire/dropwire/dnd/Point;)V" = some ⟨[(.object "com/example/dropwire/dropwire/dnd/Point")], none⟩ := by decide +kernel
theorem pn_323 : plainName "com/example/dropwire/dropwire/inprocess/InProcessPeerIsDraggingPinLaw" = true := by first | (simp [plainName, overriddenIn]; done) | decide +kernel
theorem ef_rm0 (m : MethodId) (x0 : Int32) (x1 : Int32) (x2 : Int32) (x3 : Int32) (x4 : Int32) (x5 : Int32) : entryFrame m #[(.int x0), (.int x1), (.int x2), (.int x3), (.int x4), (.int x5)] maxLocals = mkF m 0 #[.val (.int x0), .val (.int x1), .val (.int x2), .val (.int x3), .val (.int x4), .val (.int x5), .unset, .unset, .unset, .unset] [] := by first | (simp [entryFrame, mkF, argsToLocals, Value.category, maxLocals]; done) | rfl
def Qrm0 (Z : State) (p0 : Int32) (p1 : Int32) (p2 : Int32) (p3 : Int32) (p4 : Int32) (p5 : Int32) (w_s_DEFAULTCAPACITY_EMPTY_ELEMENTDATA : Addr) (w_s_NONE : Addr) (h0 : Heap) (n0 : Nat) (v : Option Value) (h : Heap) (L : List Loc) : Prop := v = some (.int 1) ∧ Fr n0 L
set_option maxRecDepth 65536 in
set_option maxHeartbeats 40000000 in
theorem rm0 (l : Launch) (Z : State) (a0 : Array Value) (hw : ∀ d ∈ tables_1, d.before a0 Z = true) (ws : List Jvm.Cond) (p0 : Int32) (p1 : Int32) (p2 : Int32) (p3 : Int32) (p4 : Int32) (p5 : Int32) (w_s_DEFAULTCAPACITY_EMPTY_ELEMENTDATA : Addr) (w_s_NONE : Addr) (h0 : Heap) (n0 : Nat) (Z0 : n0 ≤ h0.size) (S_DEFAULTCAPACITY_EMPTY_ELEMENTDATA : Sta Z h0 "java/util/ArrayList" "DEFAULTCAPACITY_EMPTY_ELEMENTDATA" "[Ljava/lang/Object;" (.ref w_s_DEFAULTCAPACITY_EMPTY_ELEMENTDATA)) (S_NONE : Sta Z h0 "com/example/dropwire/dropwire/dnd/Actions" "NONE" "Lcom/example/dropwire/dropwire/dnd/Actions;" (.ref w_s_NONE)) :
    MetFree l x (head1 (Jvm.Cond.code x code maxLocals ret :: ws) room_1) (fun a U => a = #[(.int p0), (.int p1), (.int p2), (.int p3), (.int p4), (.int p5)] ∧ Z.Warmed39 U.vm ∧ U.heap = h0) (fun _ _ _ _ _ => True) (fun _ U o U' => ∃ v L, o = .returned v ∧ Qrm0 Z p0 p1 p2 p3 p4 p5 w_s_DEFAULTCAPACITY_EMPTY_ELEMENTDATA w_s_NONE h0 n0 v U'.heap L ∧ FrameEnd U o U' L room_1.cells room_1.slots) := by
  refine MetFree.of_bodySF (plainFor_of_name pn_323) hisR ?_
  intro p e s m args below meth c s₁ Bd hml0 hP hK
  obtain ⟨rfl, hZ, hh⟩ := hP
  have hx := Bd.exec
  have hby := Bd.bytes
  have hml : c.maxLocals = 10 := hml0
  have hown : s.vm.findClass "com/example/dropwire/dropwire/inprocess/InProcessPeerIsDraggingPinLaw" = some m.cls := findClass_of_methodNamed Bd.named
  have hnm := (name_of_methodNamed Bd.named Bd.method).1
  have X0 : Stand p l e room_1 s m #[(.int p0), (.int p1), (.int p2), (.int p3), (.int p4), (.int p5)] below meth c s₁ [] 0 0 := Stand.of_body Bd
  have e0 : s₁.heap = h0 := by rw [← hh, Bd.state]; rfl
  have N0 := Fr.nil n0
  show own_Go p e below s (Qrm0 Z p0 p1 p2 p3 p4 p5 w_s_DEFAULTCAPACITY_EMPTY_ELEMENTDATA w_s_NONE h0 n0) room_1.cells room_1.slots (s₁.setTop (entryFrame m #[(.int p0), (.int p1), (.int p2), (.int p3), (.int p4), (.int p5)] maxLocals))
  rw [ef_rm0 m p0 p1 p2 p3 p4 p5]
  obtain ⟨T823, h823, X823, e823, E823, A823, D823, -, st823⟩ := newO X0 hx hZ hown (hw _ (List.mem_of_getElem? (i := 0) rfl)) (hw _ (List.mem_of_getElem? (i := 1) rfl)) (hw _ (List.mem_of_getElem? (i := 2) rfl)) e0 (g := (mkF m 0 #[.val (.int p0), .val (.int p1), .val (.int p2), .val (.int p3), .val (.int p4), .val (.int p5), .unset, .unset, .unset, .unset] [])) rfl (hb hby at_0) (by decide) (by decide)
  obtain ⟨b823, g823⟩ : ∃ z, z = h0.size := ⟨_, rfl⟩
  rw [← g823] at A823 D823 st823
  have g_b823 : n0 ≤ b823 := Nat.le_trans Z0 (Nat.le_of_eq g823.symm)
  have Z824 : n0 ≤ h823.size := Nat.le_trans Z0 E823.1
  have f825 : Sta Z h823 "java/util/ArrayList" "DEFAULTCAPACITY_EMPTY_ELEMENTDATA" "[Ljava/lang/Object;" (.ref w_s_DEFAULTCAPACITY_EMPTY_ELEMENTDATA) := Sta.ext E823 S_DEFAULTCAPACITY_EMPTY_ELEMENTDATA
  have f826 : Sta Z h823 "com/example/dropwire/dropwire/dnd/Actions" "NONE" "Lcom/example/dropwire/dropwire/dnd/Actions;" (.ref w_s_NONE) := Sta.ext E823 S_NONE
  have f827 : Fld Z h823 b823 "com/example/dropwire/dropwire/inprocess/InProcessPeer" "components" "Ljava/util/List;" .null := D823 (Or.inr (hw _ (List.mem_of_getElem? (i := 34) rfl))) (ty := (.object "java/util/List")) (by decide)
  have f828 : Fld Z h823 b823 "com/example/dropwire/dropwire/inprocess/InProcessPeer" "recognizers" "Ljava/util/List;" .null := D823 (Or.inr (hw _ (List.mem_of_getElem? (i := 36) rfl))) (ty := (.object "java/util/List")) (by decide)
  have f829 : Fld Z h823 b823 "com/example/dropwire/dropwire/inprocess/InProcessPeer" "hotspot" "Lcom/example/dropwire/dropwire/dnd/Point;" .null := D823 (Or.inl (hw _ (List.mem_of_getElem? (i := 54) rfl))) (ty := (.object "com/example/dropwire/dropwire/dnd/Point")) (by decide)
  have f830 : Fld Z h823 b823 "com/example/dropwire/dropwire/inprocess/InProcessPeer" "drag" "Lcom/example/dropwire/dropwire/dnd/DragSourceContext;" .null := D823 (Or.inl (hw _ (List.mem_of_getElem? (i := 61) rfl))) (ty := (.object "com/example/dropwire/dropwire/dnd/DragSourceContext")) (by decide)
  have f831 : Fld Z h823 b823 "com/example/dropwire/dropwire/inprocess/InProcessPeer" "recognizing" "Lcom/example/dropwire/dropwire/inprocess/InProcessPeer$Recognizer;" .null := D823 (Or.inl (hw _ (List.mem_of_getElem? (i := 172) rfl))) (ty := (.object "com/example/dropwire/dropwire/inprocess/InProcessPeer$Recognizer")) (by decide)
  have f832 : Fld Z h823 b823 "com/example/dropwire/dropwire/inprocess/InProcessPeer" "plain" "Lcom/example/dropwire/dropwire/dnd/Actions;" .null := D823 (Or.inl (hw _ (List.mem_of_getElem? (i := 179) rfl))) (ty := (.object "com/example/dropwire/dropwire/dnd/Actions")) (by decide)
  have f833 : Fld Z h823 b823 "com/example/dropwire/dropwire/inprocess/InProcessPeer" "under" "Lcom/example/dropwire/dropwire/inprocess/InProcessPeer$Component;" .null := D823 (Or.inl (hw _ (List.mem_of_getElem? (i := 232) rfl))) (ty := (.object "com/example/dropwire/dropwire/inprocess/InProcessPeer$Component")) (by decide)
  have f834 : Fld Z h823 b823 "com/example/dropwire/dropwire/inprocess/InProcessPeer" "visit" "Lcom/example/dropwire/dropwire/dnd/DropTargetVisit;" .null := D823 (Or.inl (hw _ (List.mem_of_getElem? (i := 234) rfl))) (ty := (.object "com/example/dropwire/dropwire/dnd/DropTargetVisit")) (by decide)
  refine own_go st823 ?_
  refine own_go (S' := T823.setTop (mkF m 4 #[.val (.int p0), .val (.int p1), .val (.int p2), .val (.int p3), .val (.int p4), .val (.int p5), .unset, .unset, .unset, .unset] [(.ref b823), (.ref b823)])) (fun t k => ?_) ?_
  · show Steps p.tables e below (T823.setTop (mkF m 3 #[.val (.int p0), .val (.int p1), .val (.int p2), .val (.int p3), .val (.int p4), .val (.int p5), .unset, .unset, .unset, .unset] [(.ref b823)])) t
    refine XS.dup X823.here hx rfl (hb hby at_3) rfl rfl ?_
    exact k
  obtain ⟨_, _, ⟨T835, L835, kk835, nn835⟩, -, X835, ⟨Lc835, hQ835, l835, y835, z835⟩, st835⟩ := X823.specialBack hx (y := (⟨"com/example/dropwire/dropwire/inprocess/InProcessPeer", "<init>", "()V"⟩ : MethodName)) rfl hown (mvT hZ (hw _ (List.mem_of_getElem? (i := 3) rfl))) (mvT hZ (hw _ (List.mem_of_getElem? (i := 4) rfl))) (mvT hZ (hw _ (List.mem_of_getElem? (i := 5) rfl))) (by decide) (backOf (W := 1) (ipInit l Z a0 hw [] b823 w_s_DEFAULTCAPACITY_EMPTY_ELEMENTDATA (.null) (.null) (.null) (.null) (.null) (.null) (.null) (.null) h823 n0 Z824 f825 A823 f827 f828 f829 f830 f831 f832 f833 f834 g_b823) hZ (hw _ (List.mem_of_getElem? (i := 5) rfl)) (hw _ (List.mem_of_getElem? (i := 2) rfl)) (by decide) (by decide)) (g := (mkF m 4 #[.val (.int p0), .val (.int p1), .val (.int p2), .val (.int p3), .val (.int p4), .val (.int p5), .unset, .unset, .unset, .unset] [(.ref b823), (.ref b823)])) rfl (by rw [hml]; rfl) (Steps.refl _) (a := b823) (argsL := []) (rest := [(.ref b823)]) (lenOf pd_6 rfl) rfl (by show 2 * 0 + _ ≤ _; exact Nat.le_of_eq rfl) (hb hby at_4) (fun _ _ => ⟨rfl, e823, (by decide : 1 + 3 ≤ _), (by decide : 8 + 8 ≤ _)⟩)
  dsimp only [Pt.U, Pt.locs, Pt.cells, Pt.slots] at X835 l835 y835 z835 st835 hQ835
  subst l835 y835 z835
  obtain ⟨b836, b837, b838, rfl, N839, K840, p841, p842, p843, p844, p845, p846, p847, p848, p849, p850, p851, p852, p853, p854, p855, p856, p857, p858, p859, p860, p861, p862, p863, p864, p865, p866⟩ := hQ835
  have N867 := Fr.app N0 N839
  have ne868 : b823 ≠ b836 := Nat.ne_of_lt (Nat.lt_of_lt_of_le A823.lt p841)
  have g_b836 : n0 ≤ b836 := Nat.le_trans Z824 p841
  have ne869 : b823 ≠ b837 := Nat.ne_of_lt (Nat.lt_of_lt_of_le A823.lt p842)
  have g_b837 : n0 ≤ b837 := Nat.le_trans Z824 p842
  have ne870 : b823 ≠ b838 := Nat.ne_of_lt (Nat.lt_of_lt_of_le A823.lt p843)
  have g_b838 : n0 ≤ b838 := Nat.le_trans Z824 p843
  have f871 : Sta Z T835.heap "java/util/ArrayList" "DEFAULTCAPACITY_EMPTY_ELEMENTDATA" "[Ljava/lang/Object;" (.ref w_s_DEFAULTCAPACITY_EMPTY_ELEMENTDATA) := own_sta_keep f825 K840 (allS (own_plain A823) all0)
  have f872 : Sta Z T835.heap "com/example/dropwire/dropwire/dnd/Actions" "NONE" "Lcom/example/dropwire/dropwire/dnd/Actions;" (.ref w_s_NONE) := own_sta_keep f826 K840 (allS (own_plain A823) all0)
  have f873 : Exa Z T835.heap b823 "com/example/dropwire/dropwire/inprocess/InProcessPeer" := A823.keep K840
  have Z874 : n0 ≤ T835.heap.size := Nat.le_trans Z824 K840.1
  refine own_goT st835 ?_
  refine own_go (S' := T835.setTop (mkF m 11 #[.val (.int p0), .val (.int p1), .val (.int p2), .val (.int p3), .val (.int p4), .val (.int p5), .val (.ref b823), .unset, .unset, .unset] [(.ref b823)])) (fun t k => ?_) ?_
  · show Steps p.tables e below (T835.setTop (mkF m 7 #[.val (.int p0), .val (.int p1), .val (.int p2), .val (.int p3), .val (.int p4), .val (.int p5), .unset, .unset, .unset, .unset] [(.ref b823)])) t
    refine XS.astore X835.here hx rfl (hb hby at_7) rfl rfl (l' := #[.val (.int p0), .val (.int p1), .val (.int p2), .val (.int p3), .val (.int p4), .val (.int p5), .val (.ref b823), .unset, .unset, .unset]) rfl ?_
    show Steps p.tables e below (T835.setTop (mkF m 9 #[.val (.int p0), .val (.int p1), .val (.int p2), .val (.int p3), .val (.int p4), .val (.int p5), .val (.ref b823), .unset, .unset, .unset] [])) t
    refine XS.aload X835.here hx rfl (hb hby at_9) rfl rfl ?_
    exact k
  obtain ⟨cq875, kq875, qa875, qb875, qc875⟩ := isOf hZ rfl p847
  obtain ⟨_, _, ⟨T875, L875, kk875, nn875⟩, -, X875, ⟨Lc875, hQ875, l875, y875, z875⟩, st875⟩ := X835.virtualBack hx (y := (⟨"com/example/dropwire/dropwire/inprocess/InProcessPeer", "isDragging", "()Z"⟩ : MethodName)) (z := (⟨"com/example/dropwire/dropwire/inprocess/InProcessPeer", "isDragging", "()Z"⟩ : MethodName)) hown (mvT hZ (hw _ (List.mem_of_getElem? (i := 55) rfl))) (mvT hZ (hw _ (List.mem_of_getElem? (i := 56) rfl))) (notFace_of_selects (args := #[]) (mvT hZ (hw _ (List.mem_of_getElem? (i := 58) rfl)))) (mvT hZ (hw _ (List.mem_of_getElem? (i := 58) rfl))) (mvT hZ (hw _ (List.mem_of_getElem? (i := 57) rfl))) (by decide) (backOf (W := 0) (isDrag0 l Z a0 hw [] b823 T835.heap n0 Z874 p848) hZ (hw _ (List.mem_of_getElem? (i := 59) rfl)) (hw _ (List.mem_of_getElem? (i := 2) rfl)) (by decide) (by decide)) qa875 qc875 (g := (mkF m 11 #[.val (.int p0), .val (.int p1), .val (.int p2), .val (.int p3), .val (.int p4), .val (.int p5), .val (.ref b823), .unset, .unset, .unset] [(.ref b823)])) rfl (by rw [hml]; rfl) (Steps.refl _) (argsL := []) (rest := []) (lenOf pd_280 rfl) rfl (by show 2 * 0 + _ ≤ _; exact Nat.le_of_eq rfl) (hb hby at_11) (fun _ _ => ⟨rfl, rfl, (by decide : 4 + 0 ≤ _), (by decide : 16 + 0 ≤ _)⟩)
  dsimp only [Pt.U, Pt.locs, Pt.cells, Pt.slots] at X875 l875 y875 z875 st875 hQ875
  subst l875 y875 z875
  obtain ⟨rfl, N876, e875⟩ := hQ875
  have N878 := Fr.app N867 N876
  refine own_goT st875 ?_
  refine own_go (S' := T875.setTop (mkF m 23 #[.val (.int p0), .val (.int p1), .val (.int p2), .val (.int p3), .val (.int p4), .val (.int p5), .val (.ref b823), .unset, .unset, .unset] [(.int (p5 &&& (2 : Int32)))])) (fun t k => ?_) ?_
  · show Steps p.tables e below (T875.setTop (mkF m 14 #[.val (.int p0), .val (.int p1), .val (.int p2), .val (.int p3), .val (.int p4), .val (.int p5), .val (.ref b823), .unset, .unset, .unset] [(.int (0 : Int32))])) t
    refine XS.ifYes X875.here hx rfl (pc0 := 14) (pc' := 19) rfl (hb hby at_14) rfl ((if0 _ _).trans (teq (by decide)).1) (by decide) (by decide) ?_
    show Steps p.tables e below (T875.setTop (mkF m 19 #[.val (.int p0), .val (.int p1), .val (.int p2), .val (.int p3), .val (.int p4), .val (.int p5), .val (.ref b823), .unset, .unset, .unset] [])) t
    refine XS.iload X875.here hx rfl (hb hby at_19) rfl ?_
    show Steps p.tables e below (T875.setTop (mkF m 21 #[.val (.int p0), .val (.int p1), .val (.int p2), .val (.int p3), .val (.int p4), .val (.int p5), .val (.ref b823), .unset, .unset, .unset] [(.int p5)])) t
    refine XS.iconst X875.here hx rfl (hb hby at_21) ?_
    show Steps p.tables e below (T875.setTop (mkF m 22 #[.val (.int p0), .val (.int p1), .val (.int p2), .val (.int p3), .val (.int p4), .val (.int p5), .val (.ref b823), .unset, .unset, .unset] [(.int (2 : Int32)), (.int p5)])) t
    refine XS.iand X875.here hx rfl (hb hby at_22) rfl ?_
    exact k
  by_cases hc23 : (p5 &&& (2 : Int32)) = (0 : Int32)
  · skip
    refine own_go (S' := T875.setTop (mkF m 54 #[.val (.int p0), .val (.int p1), .val (.int p2), .val (.int p3), .val (.int p4), .val (.int p5), .val (.ref b823), .unset, .unset, .unset] [(.int (p5 &&& (1 : Int32)))])) (fun t k => ?_) ?_
    · show Steps p.tables e below (T875.setTop (mkF m 23 #[.val (.int p0), .val (.int p1), .val (.int p2), .val (.int p3), .val (.int p4), .val (.int p5), .val (.ref b823), .unset, .unset, .unset] [(.int (p5 &&& (2 : Int32)))])) t
      refine XS.ifYes X875.here hx rfl (pc0 := 23) (pc' := 50) rfl (hb hby at_23) rfl ((if0 _ _).trans (teq hc23).1) (by decide) (by decide) ?_
      show Steps p.tables e below (T875.setTop (mkF m 50 #[.val (.int p0), .val (.int p1), .val (.int p2), .val (.int p3), .val (.int p4), .val (.int p5), .val (.ref b823), .unset, .unset, .unset] [])) t
      refine XS.iload X875.here hx rfl (hb hby at_50) rfl ?_
      show Steps p.tables e below (T875.setTop (mkF m 52 #[.val (.int p0), .val (.int p1), .val (.int p2), .val (.int p3), .val (.int p4), .val (.int p5), .val (.ref b823), .unset, .unset, .unset] [(.int p5)])) t
      refine XS.iconst X875.here hx rfl (hb hby at_52) ?_
      show Steps p.tables e below (T875.setTop (mkF m 53 #[.val (.int p0), .val (.int p1), .val (.int p2), .val (.int p3), .val (.int p4), .val (.int p5), .val (.ref b823), .unset, .unset, .unset] [(.int (1 : Int32)), (.int p5)])) t
      refine XS.iand X875.here hx rfl (hb hby at_53) rfl ?_
      exact k
    by_cases hc54 : (p5 &&& (1 : Int32)) = (0 : Int32)
    · skip
      refine own_go (S' := T875.setTop (mkF m 59 #[.val (.int p0), .val (.int p1), .val (.int p2), .val (.int p3), .val (.int p4), .val (.int p5), .val (.ref b823), .unset, .unset, .unset] [(.ref b823)])) (fun t k => ?_) ?_
      · show Steps p.tables e below (T875.setTop (mkF m 54 #[.val (.int p0), .val (.int p1), .val (.int p2), .val (.int p3), .val (.int p4), .val (.int p5), .val (.ref b823), .unset, .unset, .unset] [(.int (p5 &&& (1 : Int32)))])) t
        refine XS.ifNo X875.here hx rfl (hb hby at_54) rfl ((if0 _ _).trans (teq hc54).2) ?_
        show Steps p.tables e below (T875.setTop (mkF m 57 #[.val (.int p0), .val (.int p1), .val (.int p2), .val (.int p3), .val (.int p4), .val (.int p5), .val (.ref b823), .unset, .unset, .unset] [])) t
        refine XS.aload X875.here hx rfl (hb hby at_57) rfl rfl ?_
        exact k
      obtain ⟨cq879, kq879, qa879, qb879, qc879⟩ := isOf hZ e875 p847
      obtain ⟨_, _, ⟨T879, L879, kk879, nn879⟩, -, X879, ⟨Lc879, hQ879, l879, y879, z879⟩, st879⟩ := X875.virtualBack hx (y := (⟨"com/example/dropwire/dropwire/inprocess/InProcessPeer", "isDragging", "()Z"⟩ : MethodName)) (z := (⟨"com/example/dropwire/dropwire/inprocess/InProcessPeer", "isDragging", "()Z"⟩ : MethodName)) hown (mvT hZ (hw _ (List.mem_of_getElem? (i := 55) rfl))) (mvT hZ (hw _ (List.mem_of_getElem? (i := 56) rfl))) (notFace_of_selects (args := #[]) (mvT hZ (hw _ (List.mem_of_getElem? (i := 58) rfl)))) (mvT hZ (hw _ (List.mem_of_getElem? (i := 58) rfl))) (mvT hZ (hw _ (List.mem_of_getElem? (i := 57) rfl))) (by decide) (backOf (W := 0) (isDrag0 l Z a0 hw [] b823 T835.heap n0 Z874 p848) hZ (hw _ (List.mem_of_getElem? (i := 59) rfl)) (hw _ (List.mem_of_getElem? (i := 2) rfl)) (by decide) (by decide)) qa879 qc879 (g := (mkF m 59 #[.val (.int p0), .val (.int p1), .val (.int p2), .val (.int p3), .val (.int p4), .val (.int p5), .val (.ref b823), .unset, .unset, .unset] [(.ref b823)])) rfl (by rw [hml]; rfl) (Steps.refl _) (argsL := []) (rest := []) (lenOf pd_280 rfl) rfl (by show 2 * 0 + _ ≤ _; exact Nat.le_of_eq rfl) (hb hby at_59) (fun _ _ => ⟨rfl, e875, (by decide : 4 + 0 ≤ _), (by decide : 16 + 0 ≤ _)⟩)
      dsimp only [Pt.U, Pt.locs, Pt.cells, Pt.slots] at X879 l879 y879 z879 st879 hQ879
      subst l879 y879 z879
      obtain ⟨rfl, N880, e879⟩ := hQ879
      have N882 := Fr.app N878 N880
      refine own_goT st879 ?_
      refine own_go (S' := T879.setTop (mkF m 70 #[.val (.int p0), .val (.int p1), .val (.int p2), .val (.int p3), .val (.int p4), .val (.int p5), .val (.ref b823), .unset, .unset, .unset] [(.int (1 : Int32))])) (fun t k => ?_) ?_
      · show Steps p.tables e below (T879.setTop (mkF m 62 #[.val (.int p0), .val (.int p1), .val (.int p2), .val (.int p3), .val (.int p4), .val (.int p5), .val (.ref b823), .unset, .unset, .unset] [(.int (0 : Int32))])) t
        refine XS.ifNo X879.here hx rfl (hb hby at_62) rfl ((if0 _ _).trans (teq (by decide)).2) ?_
        show Steps p.tables e below (T879.setTop (mkF m 65 #[.val (.int p0), .val (.int p1), .val (.int p2), .val (.int p3), .val (.int p4), .val (.int p5), .val (.ref b823), .unset, .unset, .unset] [])) t
        refine XS.iconst X879.here hx rfl (hb hby at_65) ?_
        show Steps p.tables e below (T879.setTop (mkF m 66 #[.val (.int p0), .val (.int p1), .val (.int p2), .val (.int p3), .val (.int p4), .val (.int p5), .val (.ref b823), .unset, .unset, .unset] [(.int (1 : Int32))])) t
        refine XS.goto X879.here hx rfl (pc0 := 66) (pc' := 70) rfl (hb hby at_66) (by decide) (by decide) ?_
        exact k
      obtain ⟨fs, hr, hrun, hended, hW, hsame⟩ := X879.leave (v := some (.int (1 : Int32))) (fun h => by rw [Bd.returns] at h; cases h)
      refine own_end (v := some (.int (1 : Int32))) ?_ hrun hended ?_ hW (hsame.mono (by decide) (by decide))
      · show Steps p.tables e below (T879.setTop (mkF m 70 #[.val (.int p0), .val (.int p1), .val (.int p2), .val (.int p3), .val (.int p4), .val (.int p5), .val (.ref b823), .unset, .unset, .unset] [(.int (1 : Int32))])) _
        exact retN X879 hx (t := .boolean) Bd.returns (by simp) (hb hby at_70) hr
      · show Qrm0 Z p0 p1 p2 p3 p4 p5 w_s_DEFAULTCAPACITY_EMPTY_ELEMENTDATA w_s_NONE h0 n0 _ T879.heap _
        rw [e879]
        exact ⟨rfl, N882⟩
    · skip
      refine own_go (S' := T875.setTop (mkF m 80 #[.val (.int p0), .val (.int p1), .val (.int p2), .val (.int p3), .val (.int p4), .val (.int p5), .val (.ref b823), .unset, .unset, .unset] [(.int ((1 : Int32) <<< (((p4 &&& (2147483647 : Int32)) % (3 : Int32)) &&& 31)))])) (fun t k => ?_) ?_
      · show Steps p.tables e below (T875.setTop (mkF m 54 #[.val (.int p0), .val (.int p1), .val (.int p2), .val (.int p3), .val (.int p4), .val (.int p5), .val (.ref b823), .unset, .unset, .unset] [(.int (p5 &&& (1 : Int32)))])) t
        refine XS.ifYes X875.here hx rfl (pc0 := 54) (pc' := 71) rfl (hb hby at_54) rfl ((if0 _ _).trans (feq hc54).2) (by decide) (by decide) ?_
        show Steps p.tables e below (T875.setTop (mkF m 71 #[.val (.int p0), .val (.int p1), .val (.int p2), .val (.int p3), .val (.int p4), .val (.int p5), .val (.ref b823), .unset, .unset, .unset] [])) t
        refine XS.iconst X875.here hx rfl (hb hby at_71) ?_
        show Steps p.tables e below (T875.setTop (mkF m 72 #[.val (.int p0), .val (.int p1), .val (.int p2), .val (.int p3), .val (.int p4), .val (.int p5), .val (.ref b823), .unset, .unset, .unset] [(.int (1 : Int32))])) t
        refine XS.iload X875.here hx rfl (hb hby at_72) rfl ?_
        show Steps p.tables e below (T875.setTop (mkF m 74 #[.val (.int p0), .val (.int p1), .val (.int p2), .val (.int p3), .val (.int p4), .val (.int p5), .val (.ref b823), .unset, .unset, .unset] [(.int p4), (.int (1 : Int32))])) t
        refine X875.ldcInt hx hown (mvT hZ (hw _ (List.mem_of_getElem? (i := 69) rfl))) (g := (mkF m 74 #[.val (.int p0), .val (.int p1), .val (.int p2), .val (.int p3), .val (.int p4), .val (.int p5), .val (.ref b823), .unset, .unset, .unset] [(.int p4), (.int (1 : Int32))])) rfl (hb hby at_74) _ ?_
        show Steps p.tables e below (T875.setTop (mkF m 76 #[.val (.int p0), .val (.int p1), .val (.int p2), .val (.int p3), .val (.int p4), .val (.int p5), .val (.ref b823), .unset, .unset, .unset] [(.int (2147483647 : Int32)), (.int p4), (.int (1 : Int32))])) t
        refine XS.iand X875.here hx rfl (hb hby at_76) rfl ?_
        show Steps p.tables e below (T875.setTop (mkF m 77 #[.val (.int p0), .val (.int p1), .val (.int p2), .val (.int p3), .val (.int p4), .val (.int p5), .val (.ref b823), .unset, .unset, .unset] [(.int (p4 &&& (2147483647 : Int32))), (.int (1 : Int32))])) t
        refine XS.iconst X875.here hx rfl (hb hby at_77) ?_
        show Steps p.tables e below (T875.setTop (mkF m 78 #[.val (.int p0), .val (.int p1), .val (.int p2), .val (.int p3), .val (.int p4), .val (.int p5), .val (.ref b823), .unset, .unset, .unset] [(.int (3 : Int32)), (.int (p4 &&& (2147483647 : Int32))), (.int (1 : Int32))])) t
        refine iremM X875 hx rfl (hb hby at_78) rfl (by decide) ?_
        show Steps p.tables e below (T875.setTop (mkF m 79 #[.val (.int p0), .val (.int p1), .val (.int p2), .val (.int p3), .val (.int p4), .val (.int p5), .val (.ref b823), .unset, .unset, .unset] [(.int ((p4 &&& (2147483647 : Int32)) % (3 : Int32))), (.int (1 : Int32))])) t
        refine XS.ishl X875.here hx rfl (hb hby at_79) rfl ?_
        exact k
      obtain ⟨_, _, ⟨T883, L883, kk883, nn883⟩, -, X883, ⟨Lc883, hQ883, l883, y883, z883⟩, st883⟩ := Jvm.LawKit.callS X875 hx (y := (⟨"com/example/dropwire/dropwire/dnd/Actions", "fromBits", "(I)Lcom/example/dropwire/dropwire/dnd/Actions;"⟩ : MethodName)) hown (mvT hZ (hw _ (List.mem_of_getElem? (i := 70) rfl))) (mvT hZ (hw _ (List.mem_of_getElem? (i := 71) rfl))) (mvT hZ (hw _ (List.mem_of_getElem? (i := 72) rfl))) (mvT hZ (hw _ (List.mem_of_getElem? (i := 73) rfl))) (by decide) (backOf (W := 0) (fromBits l Z a0 hw [] ((1 : Int32) <<< (((p4 &&& (2147483647 : Int32)) % (3 : Int32)) &&& 31)) T835.heap n0 Z874 ((own_bits p4).1 : (((1 : Int32) <<< (((p4 &&& (2147483647 : Int32)) % (3 : Int32)) &&& 31)) &&& (-8 : Int32)) = (0 : Int32))) hZ (hw _ (List.mem_of_getElem? (i := 73) rfl)) (hw _ (List.mem_of_getElem? (i := 72) rfl)) (by decide) (by decide)) (g := (mkF m 80 #[.val (.int p0), .val (.int p1), .val (.int p2), .val (.int p3), .val (.int p4), .val (.int p5), .val (.ref b823), .unset, .unset, .unset] [(.int ((1 : Int32) <<< (((p4 &&& (2147483647 : Int32)) % (3 : Int32)) &&& 31)))])) rfl (by rw [hml]; rfl) (argsL := [(.int ((1 : Int32) <<< (((p4 &&& (2147483647 : Int32)) % (3 : Int32)) &&& 31)))]) (rest := []) (lenOf pd_319 rfl) rfl (by show 2 * 0 + _ ≤ _; exact Nat.le_of_eq rfl) (hb hby at_80) (fun _ _ => ⟨rfl, e875, (by decide : 4 + 1 ≤ _), (by decide : 16 + 1 ≤ _)⟩)
      dsimp only [Pt.U, Pt.locs, Pt.cells, Pt.slots] at X883 l883 y883 z883 st883 hQ883
      subst l883 y883 z883
      obtain ⟨b884, rfl, N885, K886, p887, p888, p889⟩ := hQ883
      have N890 := Fr.app N878 N885
      have ne891 : b823 ≠ b884 := Nat.ne_of_lt (Nat.lt_of_lt_of_le p847.lt p887)
      have ne892 : b836 ≠ b884 := Nat.ne_of_lt (Nat.lt_of_lt_of_le p856.lt p887)
      have ne893 : b837 ≠ b884 := Nat.ne_of_lt (Nat.lt_of_lt_of_le p860.lt p887)
      have ne894 : b838 ≠ b884 := Nat.ne_of_lt (Nat.lt_of_lt_of_le p864.lt p887)
      have g_b884 : n0 ≤ b884 := Nat.le_trans Z874 p887
      have f895 : Sta Z T883.heap "java/util/ArrayList" "DEFAULTCAPACITY_EMPTY_ELEMENTDATA" "[Ljava/lang/Object;" (.ref w_s_DEFAULTCAPACITY_EMPTY_ELEMENTDATA) := own_sta_keep f871 K886 all0
      have f896 : Sta Z T883.heap "com/example/dropwire/dropwire/dnd/Actions" "NONE" "Lcom/example/dropwire/dropwire/dnd/Actions;" (.ref w_s_NONE) := own_sta_keep f872 K886 all0
      have f897 : Exa Z T883.heap b823 "com/example/dropwire/dropwire/inprocess/InProcessPeer" := p847.keep K886
      have f898 : Fld Z T883.heap b823 "com/example/dropwire/dropwire/inprocess/InProcessPeer" "drag" "Lcom/example/dropwire/dropwire/dnd/DragSourceContext;" .null := p848.keep K886 nin0
      have f899 : Fld Z T883.heap b823 "com/example/dropwire/dropwire/inprocess/InProcessPeer" "recognizing" "Lcom/example/dropwire/dropwire/inprocess/InProcessPeer$Recognizer;" .null := p849.keep K886 nin0
      have f900 : Fld Z T883.heap b823 "com/example/dropwire/dropwire/inprocess/InProcessPeer" "plain" "Lcom/example/dropwire/dropwire/dnd/Actions;" .null := p850.keep K886 nin0
      have f901 : Fld Z T883.heap b823 "com/example/dropwire/dropwire/inprocess/InProcessPeer" "under" "Lcom/example/dropwire/dropwire/inprocess/InProcessPeer$Component;" .null := p851.keep K886 nin0
      have f902 : Fld Z T883.heap b823 "com/example/dropwire/dropwire/inprocess/InProcessPeer" "visit" "Lcom/example/dropwire/dropwire/dnd/DropTargetVisit;" .null := p852.keep K886 nin0
      have f903 : Fld Z T883.heap b823 "com/example/dropwire/dropwire/inprocess/InProcessPeer" "components" "Ljava/util/List;" (.ref b836) := p853.keep K886 nin0
      have f904 : Fld Z T883.heap b823 "com/example/dropwire/dropwire/inprocess/InProcessPeer" "recognizers" "Ljava/util/List;" (.ref b837) := p854.keep K886 nin0
      have f905 : Fld Z T883.heap b823 "com/example/dropwire/dropwire/inprocess/InProcessPeer" "hotspot" "Lcom/example/dropwire/dropwire/dnd/Point;" (.ref b838) := p855.keep K886 nin0
      have f906 : Exa Z T883.heap b836 "java/util/ArrayList" := p856.keep K886
      have f907 : Fld Z T883.heap b836 "java/util/ArrayList" "size" "I" (.int (0 : Int32)) := p857.keep K886 nin0
      have f908 : Fld Z T883.heap b836 "java/util/AbstractList" "modCount" "I" (.int (0 : Int32)) := p858.keep K886 nin0
      have f909 : Fld Z T883.heap b836 "java/util/ArrayList" "elementData" "[Ljava/lang/Object;" (.ref w_s_DEFAULTCAPACITY_EMPTY_ELEMENTDATA) := p859.keep K886 nin0
      have f910 : Exa Z T883.heap b837 "java/util/ArrayList" := p860.keep K886
      have f911 : Fld Z T883.heap b837 "java/util/ArrayList" "size" "I" (.int (0 : Int32)) := p861.keep K886 nin0
      have f912 : Fld Z T883.heap b837 "java/util/AbstractList" "modCount" "I" (.int (0 : Int32)) := p862.keep K886 nin0
      have f913 : Fld Z T883.heap b837 "java/util/ArrayList" "elementData" "[Ljava/lang/Object;" (.ref w_s_DEFAULTCAPACITY_EMPTY_ELEMENTDATA) := p863.keep K886 nin0
      have f914 : Exa Z T883.heap b838 "com/example/dropwire/dropwire/dnd/Point" := p864.keep K886
      have f915 : Fld Z T883.heap b838 "com/example/dropwire/dropwire/dnd/Point" "x" "I" (.int (0 : Int32)) := p865.keep K886 nin0
      have f916 : Fld Z T883.heap b838 "com/example/dropwire/dropwire/dnd/Point" "y" "I" (.int (0 : Int32)) := p866.keep K886 nin0
      have Z917 : n0 ≤ T883.heap.size := Nat.le_trans Z874 K886.1
      refine own_go st883 ?_
      refine own_go (S' := T883.setTop (mkF m 93 #[.val (.int p0), .val (.int p1), .val (.int p2), .val (.int p3), .val (.int p4), .val (.int p5), .val (.ref b823), .val (.ref b884), .unset, .unset] [(.int ((Jvm.Free.XT.ushr p4 (8 : Int32)) &&& (7 : Int32)))])) (fun t k => ?_) ?_
      · show Steps p.tables e below (T883.setTop (mkF m 83 #[.val (.int p0), .val (.int p1), .val (.int p2), .val (.int p3), .val (.int p4), .val (.int p5), .val (.ref b823), .unset, .unset, .unset] [(.ref b884)])) t
        refine XS.astore X883.here hx rfl (hb hby at_83) rfl rfl (l' := #[.val (.int p0), .val (.int p1), .val (.int p2), .val (.int p3), .val (.int p4), .val (.int p5), .val (.ref b823), .val (.ref b884), .unset, .unset]) rfl ?_
        show Steps p.tables e below (T883.setTop (mkF m 85 #[.val (.int p0), .val (.int p1), .val (.int p2), .val (.int p3), .val (.int p4), .val (.int p5), .val (.ref b823), .val (.ref b884), .unset, .unset] [])) t
        refine XS.iload X883.here hx rfl (hb hby at_85) rfl ?_
        show Steps p.tables e below (T883.setTop (mkF m 87 #[.val (.int p0), .val (.int p1), .val (.int p2), .val (.int p3), .val (.int p4), .val (.int p5), .val (.ref b823), .val (.ref b884), .unset, .unset] [(.int p4)])) t
        refine XS.bipush X883.here hx rfl (hb hby at_87) ?_
        show Steps p.tables e below (T883.setTop (mkF m 89 #[.val (.int p0), .val (.int p1), .val (.int p2), .val (.int p3), .val (.int p4), .val (.int p5), .val (.ref b823), .val (.ref b884), .unset, .unset] [(.int (8 : Int32)), (.int p4)])) t
        refine XS.iushr X883.here hx rfl (hb hby at_89) rfl ?_
        show Steps p.tables e below (T883.setTop (mkF m 90 #[.val (.int p0), .val (.int p1), .val (.int p2), .val (.int p3), .val (.int p4), .val (.int p5), .val (.ref b823), .val (.ref b884), .unset, .unset] [(.int (Jvm.Free.XT.ushr p4 (8 : Int32)))])) t
        refine XS.bipush X883.here hx rfl (hb hby at_90) ?_
        show Steps p.tables e below (T883.setTop (mkF m 92 #[.val (.int p0), .val (.int p1), .val (.int p2), .val (.int p3), .val (.int p4), .val (.int p5), .val (.ref b823), .val (.ref b884), .unset, .unset] [(.int (7 : Int32)), (.int (Jvm.Free.XT.ushr p4 (8 : Int32)))])) t
        refine XS.iand X883.here hx rfl (hb hby at_92) rfl ?_
        exact k
      obtain ⟨_, _, ⟨T918, L918, kk918, nn918⟩, -, X918, ⟨Lc918, hQ918, l918, y918, z918⟩, st918⟩ := Jvm.LawKit.callS X883 hx (y := (⟨"com/example/dropwire/dropwire/dnd/Actions", "fromBits", "(I)Lcom/example/dropwire/dropwire/dnd/Actions;"⟩ : MethodName)) hown (mvT hZ (hw _ (List.mem_of_getElem? (i := 70) rfl))) (mvT hZ (hw _ (List.mem_of_getElem? (i := 71) rfl))) (mvT hZ (hw _ (List.mem_of_getElem? (i := 72) rfl))) (mvT hZ (hw _ (List.mem_of_getElem? (i := 73) rfl))) (by decide) (backOf (W := 0) (fromBits l Z a0 hw [] ((Jvm.Free.XT.ushr p4 (8 : Int32)) &&& (7 : Int32)) T883.heap n0 Z917 (own_low _ : (((Jvm.Free.XT.ushr p4 (8 : Int32)) &&& (7 : Int32)) &&& (-8 : Int32)) = (0 : Int32))) hZ (hw _ (List.mem_of_getElem? (i := 73) rfl)) (hw _ (List.mem_of_getElem? (i := 72) rfl)) (by decide) (by decide)) (g := (mkF m 93 #[.val (.int p0), .val (.int p1), .val (.int p2), .val (.int p3), .val (.int p4), .val (.int p5), .val (.ref b823), .val (.ref b884), .unset, .unset] [(.int ((Jvm.Free.XT.ushr p4 (8 : Int32)) &&& (7 : Int32)))])) rfl (by rw [hml]; rfl) (argsL := [(.int ((Jvm.Free.XT.ushr p4 (8 : Int32)) &&& (7 : Int32)))]) (rest := []) (lenOf pd_319 rfl) rfl (by show 2 * 0 + _ ≤ _; exact Nat.le_of_eq rfl) (hb hby at_93) (fun _ _ => ⟨rfl, rfl, (by decide : 5 + 1 ≤ _), (by decide : 17 + 1 ≤ _)⟩)
      dsimp only [Pt.U, Pt.locs, Pt.cells, Pt.slots] at X918 l918 y918 z918 st918 hQ918
      subst l918 y918 z918
      obtain ⟨b919, rfl, N920, K921, p922, p923, p924⟩ := hQ918
      have N925 := Fr.app N890 N920
      have ne926 : b823 ≠ b919 := Nat.ne_of_lt (Nat.lt_of_lt_of_le f897.lt p922)
      have ne927 : b836 ≠ b919 := Nat.ne_of_lt (Nat.lt_of_lt_of_le f906.lt p922)
      have ne928 : b837 ≠ b919 := Nat.ne_of_lt (Nat.lt_of_lt_of_le f910.lt p922)
      have ne929 : b838 ≠ b919 := Nat.ne_of_lt (Nat.lt_of_lt_of_le f914.lt p922)
      have ne930 : b884 ≠ b919 := Nat.ne_of_lt (Nat.lt_of_lt_of_le p888.lt p922)
      have g_b919 : n0 ≤ b919 := Nat.le_trans Z917 p922
      have f931 : Sta Z T918.heap "java/util/ArrayList" "DEFAULTCAPACITY_EMPTY_ELEMENTDATA" "[Ljava/lang/Object;" (.ref w_s_DEFAULTCAPACITY_EMPTY_ELEMENTDATA) := own_sta_keep f895 K921 all0
      have f932 : Sta Z T918.heap "com/example/dropwire/dropwire/dnd/Actions" "NONE" "Lcom/example/dropwire/dropwire/dnd/Actions;" (.ref w_s_NONE) := own_sta_keep f896 K921 all0
      have f933 : Exa Z T918.heap b823 "com/example/dropwire/dropwire/inprocess/InProcessPeer" := f897.keep K921
      have f934 : Fld Z T918.heap b823 "com/example/dropwire/dropwire/inprocess/InProcessPeer" "drag" "Lcom/example/dropwire/dropwire/dnd/DragSourceContext;" .null := f898.keep K921 nin0
      have f935 : Fld Z T918.heap b823 "com/example/dropwire/dropwire/inprocess/InProcessPeer" "recognizing" "Lcom/example/dropwire/dropwire/inprocess/InProcessPeer$Recognizer;" .null := f899.keep K921 nin0
      have f936 : Fld Z T918.heap b823 "com/example/dropwire/dropwire/inprocess/InProcessPeer" "plain" "Lcom/example/dropwire/dropwire/dnd/Actions;" .null := f900.keep K921 nin0
      have f937 : Fld Z T918.heap b823 "com/example/dropwire/dropwire/inprocess/InProcessPeer" "under" "Lcom/example/dropwire/dropwire/inprocess/InProcessPeer$Component;" .null := f901.keep K921 nin0
      have f938 : Fld Z T918.heap b823 "com/example/dropwire/dropwire/inprocess/InProcessPeer" "visit" "Lcom/example/dropwire/dropwire/dnd/DropTargetVisit;" .null := f902.keep K921 nin0
      have f939 : Fld Z T918.heap b823 "com/example/dropwire/dropwire/inprocess/InProcessPeer" "components" "Ljava/util/List;" (.ref b836) := f903.keep K921 nin0
      have f940 : Fld Z T918.heap b823 "com/example/dropwire/dropwire/inprocess/InProcessPeer" "recognizers" "Ljava/util/List;" (.ref b837) := f904.keep K921 nin0
      have f941 : Fld Z T918.heap b823 "com/example/dropwire/dropwire/inprocess/InProcessPeer" "hotspot" "Lcom/example/dropwire/dropwire/dnd/Point;" (.ref b838) := f905.keep K921 nin0
      have f942 : Exa Z T918.heap b836 "java/util/ArrayList" := f906.keep K921
      have f943 : Fld Z T918.heap b836 "java/util/ArrayList" "size" "I" (.int (0 : Int32)) := f907.keep K921 nin0
      have f944 : Fld Z T918.heap b836 "java/util/AbstractList" "modCount" "I" (.int (0 : Int32)) := f908.keep K921 nin0
      have f945 : Fld Z T918.heap b836 "java/util/ArrayList" "elementData" "[Ljava/lang/Object;" (.ref w_s_DEFAULTCAPACITY_EMPTY_ELEMENTDATA) := f909.keep K921 nin0
      have f946 : Exa Z T918.heap b837 "java/util/ArrayList" := f910.keep K921
      have f947 : Fld Z T918.heap b837 "java/util/ArrayList" "size" "I" (.int (0 : Int32)) := f911.keep K921 nin0
      have f948 : Fld Z T918.heap b837 "java/util/AbstractList" "modCount" "I" (.int (0 : Int32)) := f912.keep K921 nin0
      have f949 : Fld Z T918.heap b837 "java/util/ArrayList" "elementData" "[Ljava/lang/Object;" (.ref w_s_DEFAULTCAPACITY_EMPTY_ELEMENTDATA) := f913.keep K921 nin0
      have f950 : Exa Z T918.heap b838 "com/example/dropwire/dropwire/dnd/Point" := f914.keep K921
      have f951 : Fld Z T918.heap b838 "com/example/dropwire/dropwire/dnd/Point" "x" "I" (.int (0 : Int32)) := f915.keep K921 nin0
      have f952 : Fld Z T918.heap b838 "com/example/dropwire/dropwire/dnd/Point" "y" "I" (.int (0 : Int32)) := f916.keep K921 nin0
      have f953 : Exa Z T918.heap b884 "com/example/dropwire/dropwire/dnd/Actions" := p888.keep K921
      have f954 : Fld Z T918.heap b884 "com/example/dropwire/dropwire/dnd/Actions" "bits" "I" (.int ((1 : Int32) <<< (((p4 &&& (2147483647 : Int32)) % (3 : Int32)) &&& 31))) := p889.keep K921 nin0
      have Z955 : n0 ≤ T918.heap.size := Nat.le_trans Z917 K921.1
      refine own_go st918 ?_
      refine own_go (S' := T918.setTop (mkF m 98 #[.val (.int p0), .val (.int p1), .val (.int p2), .val (.int p3), .val (.int p4), .val (.int p5), .val (.ref b823), .val (.ref b884), .val (.ref b919), .unset] [])) (fun t k => ?_) ?_
      · show Steps p.tables e below (T918.setTop (mkF m 96 #[.val (.int p0), .val (.int p1), .val (.int p2), .val (.int p3), .val (.int p4), .val (.int p5), .val (.ref b823), .val (.ref b884), .unset, .unset] [(.ref b919)])) t
        refine XS.astore X918.here hx rfl (hb hby at_96) rfl rfl (l' := #[.val (.int p0), .val (.int p1), .val (.int p2), .val (.int p3), .val (.int p4), .val (.int p5), .val (.ref b823), .val (.ref b884), .val (.ref b919), .unset]) rfl ?_
        exact k
      obtain ⟨T956, h956, X956, e956, E956, A956, D956, Un956, st956⟩ := newO X918 hx hZ hown (hw _ (List.mem_of_getElem? (i := 82) rfl)) (hw _ (List.mem_of_getElem? (i := 83) rfl)) (hw _ (List.mem_of_getElem? (i := 84) rfl)) rfl (g := (mkF m 98 #[.val (.int p0), .val (.int p1), .val (.int p2), .val (.int p3), .val (.int p4), .val (.int p5), .val (.ref b823), .val (.ref b884), .val (.ref b919), .unset] [])) rfl (hb hby at_98) (by decide) (by decide)
      obtain ⟨b956, g956⟩ : ∃ z, z = T918.heap.size := ⟨_, rfl⟩
      rw [← g956] at A956 D956 Un956 st956
      have ne957 : b823 ≠ b956 := Nat.ne_of_lt (Nat.lt_of_lt_of_le f933.lt (Nat.le_of_eq g956.symm))
      have ne958 : b836 ≠ b956 := Nat.ne_of_lt (Nat.lt_of_lt_of_le f942.lt (Nat.le_of_eq g956.symm))
      have ne959 : b837 ≠ b956 := Nat.ne_of_lt (Nat.lt_of_lt_of_le f946.lt (Nat.le_of_eq g956.symm))
      have ne960 : b838 ≠ b956 := Nat.ne_of_lt (Nat.lt_of_lt_of_le f950.lt (Nat.le_of_eq g956.symm))
      have ne961 : b884 ≠ b956 := Nat.ne_of_lt (Nat.lt_of_lt_of_le f953.lt (Nat.le_of_eq g956.symm))
      have ne962 : b919 ≠ b956 := Nat.ne_of_lt (Nat.lt_of_lt_of_le p923.lt (Nat.le_of_eq g956.symm))
      have g_b956 : n0 ≤ b956 := Nat.le_trans Z955 (Nat.le_of_eq g956.symm)
      have Z963 : n0 ≤ h956.size := Nat.le_trans Z955 E956.1
      have f964 : Sta Z h956 "java/util/ArrayList" "DEFAULTCAPACITY_EMPTY_ELEMENTDATA" "[Ljava/lang/Object;" (.ref w_s_DEFAULTCAPACITY_EMPTY_ELEMENTDATA) := Sta.ext E956 f931
      have f965 : Sta Z h956 "com/example/dropwire/dropwire/dnd/Actions" "NONE" "Lcom/example/dropwire/dropwire/dnd/Actions;" (.ref w_s_NONE) := Sta.ext E956 f932
      have f966 : Exa Z h956 b823 "com/example/dropwire/dropwire/inprocess/InProcessPeer" := Exa.ext E956 f933
      have f967 : Fld Z h956 b823 "com/example/dropwire/dropwire/inprocess/InProcessPeer" "drag" "Lcom/example/dropwire/dropwire/dnd/DragSourceContext;" .null := Fld.ext E956 f934
      have f968 : Fld Z h956 b823 "com/example/dropwire/dropwire/inprocess/InProcessPeer" "recognizing" "Lcom/example/dropwire/dropwire/inprocess/InProcessPeer$Recognizer;" .null := Fld.ext E956 f935
      have f969 : Fld Z h956 b823 "com/example/dropwire/dropwire/inprocess/InProcessPeer" "plain" "Lcom/example/dropwire/dropwire/dnd/Actions;" .null := Fld.ext E956 f936
      have f970 : Fld Z h956 b823 "com/example/dropwire/dropwire/inprocess/InProcessPeer" "under" "Lcom/example/dropwire/dropwire/inprocess/InProcessPeer$Component;" .null := Fld.ext E956 f937
      have f971 : Fld Z h956 b823 "com/example/dropwire/dropwire/inprocess/InProcessPeer" "visit" "Lcom/example/dropwire/dropwire/dnd/DropTargetVisit;" .null := Fld.ext E956 f938
      have f972 : Fld Z h956 b823 "com/example/dropwire/dropwire/inprocess/InProcessPeer" "components" "Ljava/util/List;" (.ref b836) := Fld.ext E956 f939
      have f973 : Fld Z h956 b823 "com/example/dropwire/dropwire/inprocess/InProcessPeer" "recognizers" "Ljava/util/List;" (.ref b837) := Fld.ext E956 f940
      have f974 : Fld Z h956 b823 "com/example/dropwire/dropwire/inprocess/InProcessPeer" "hotspot" "Lcom/example/dropwire/dropwire/dnd/Point;" (.ref b838) := Fld.ext E956 f941
      have f975 : Exa Z h956 b836 "java/util/ArrayList" := Exa.ext E956 f942
      have f976 : Fld Z h956 b836 "java/util/ArrayList" "size" "I" (.int (0 : Int32)) := Fld.ext E956 f943
      have f977 : Fld Z h956 b836 "java/util/AbstractList" "modCount" "I" (.int (0 : Int32)) := Fld.ext E956 f944
      have f978 : Fld Z h956 b836 "java/util/ArrayList" "elementData" "[Ljava/lang/Object;" (.ref w_s_DEFAULTCAPACITY_EMPTY_ELEMENTDATA) := Fld.ext E956 f945
      have f979 : Exa Z h956 b837 "java/util/ArrayList" := Exa.ext E956 f946
      have f980 : Fld Z h956 b837 "java/util/ArrayList" "size" "I" (.int (0 : Int32)) := Fld.ext E956 f947
      have f981 : Fld Z h956 b837 "java/util/AbstractList" "modCount" "I" (.int (0 : Int32)) := Fld.ext E956 f948
      have f982 : Fld Z h956 b837 "java/util/ArrayList" "elementData" "[Ljava/lang/Object;" (.ref w_s_DEFAULTCAPACITY_EMPTY_ELEMENTDATA) := Fld.ext E956 f949
      have f983 : Exa Z h956 b838 "com/example/dropwire/dropwire/dnd/Point" := Exa.ext E956 f950
      have f984 : Fld Z h956 b838 "com/example/dropwire/dropwire/dnd/Point" "x" "I" (.int (0 : Int32)) := Fld.ext E956 f951
      have f985 : Fld Z h956 b838 "com/example/dropwire/dropwire/dnd/Point" "y" "I" (.int (0 : Int32)) := Fld.ext E956 f952
      have f986 : Exa Z h956 b884 "com/example/dropwire/dropwire/dnd/Actions" := Exa.ext E956 f953
      have f987 : Fld Z h956 b884 "com/example/dropwire/dropwire/dnd/Actions" "bits" "I" (.int ((1 : Int32) <<< (((p4 &&& (2147483647 : Int32)) % (3 : Int32)) &&& 31))) := Fld.ext E956 f954
      have f988 : Exa Z h956 b919 "com/example/dropwire/dropwire/dnd/Actions" := Exa.ext E956 p923
      have f989 : Fld Z h956 b919 "com/example/dropwire/dropwire/dnd/Actions" "bits" "I" (.int ((Jvm.Free.XT.ushr p4 (8 : Int32)) &&& (7 : Int32))) := Fld.ext E956 p924
      have f990 : Fld Z h956 b956 "com/example/dropwire/dropwire/dnd/DragSource" "current" "Lcom/example/dropwire/dropwire/dnd/DragSourceContext;" .null := D956 (Or.inl (hw _ (List.mem_of_getElem? (i := 151) rfl))) (ty := (.object "com/example/dropwire/dropwire/dnd/DragSourceContext")) (by decide)
      refine own_go st956 ?_
      refine own_go (S' := T956.setTop (mkF m 102 #[.val (.int p0), .val (.int p1), .val (.int p2), .val (.int p3), .val (.int p4), .val (.int p5), .val (.ref b823), .val (.ref b884), .val (.ref b919), .unset] [(.ref b956), (.ref b956)])) (fun t k => ?_) ?_
      · show Steps p.tables e below (T956.setTop (mkF m 101 #[.val (.int p0), .val (.int p1), .val (.int p2), .val (.int p3), .val (.int p4), .val (.int p5), .val (.ref b823), .val (.ref b884), .val (.ref b919), .unset] [(.ref b956)])) t
        refine XS.dup X956.here hx rfl (hb hby at_101) rfl rfl ?_
        exact k
      obtain ⟨_, _, ⟨T991, L991, kk991, nn991⟩, -, X991, ⟨Lc991, hQ991, l991, y991, z991⟩, st991⟩ := X956.specialBack hx (y := (⟨"com/example/dropwire/dropwire/dnd/DragSource", "<init>", "()V"⟩ : MethodName)) rfl hown (mvT hZ (hw _ (List.mem_of_getElem? (i := 85) rfl))) (mvT hZ (hw _ (List.mem_of_getElem? (i := 86) rfl))) (mvT hZ (hw _ (List.mem_of_getElem? (i := 87) rfl))) (by decide) (backOf (W := 1) (dsInit l Z a0 hw [] b956 h956 n0 Z963 ) hZ (hw _ (List.mem_of_getElem? (i := 87) rfl)) (hw _ (List.mem_of_getElem? (i := 84) rfl)) (by decide) (by decide)) (g := (mkF m 102 #[.val (.int p0), .val (.int p1), .val (.int p2), .val (.int p3), .val (.int p4), .val (.int p5), .val (.ref b823), .val (.ref b884), .val (.ref b919), .unset] [(.ref b956), (.ref b956)])) rfl (by rw [hml]; rfl) (Steps.refl _) (a := b956) (argsL := []) (rest := [(.ref b956)]) (lenOf pd_6 rfl) rfl (by show 2 * 0 + _ ≤ _; exact Nat.le_of_eq rfl) (hb hby at_102) (fun _ _ => ⟨rfl, e956, (by decide : 7 + 0 ≤ _), (by decide : 19 + 0 ≤ _)⟩)
      dsimp only [Pt.U, Pt.locs, Pt.cells, Pt.slots] at X991 l991 y991 z991 st991 hQ991
      subst l991 y991 z991
      obtain ⟨rfl, N992, e991⟩ := hQ991
      have N994 := Fr.app N925 N992
      refine own_goT st991 ?_
      refine own_go (S' := T991.setTop (mkF m 107 #[.val (.int p0), .val (.int p1), .val (.int p2), .val (.int p3), .val (.int p4), .val (.int p5), .val (.ref b823), .val (.ref b884), .val (.ref b919), .unset] [(.ref b823), (.ref b956)])) (fun t k => ?_) ?_
      · show Steps p.tables e below (T991.setTop (mkF m 105 #[.val (.int p0), .val (.int p1), .val (.int p2), .val (.int p3), .val (.int p4), .val (.int p5), .val (.ref b823), .val (.ref b884), .val (.ref b919), .unset] [(.ref b956)])) t
        refine XS.aload X991.here hx rfl (hb hby at_105) rfl rfl ?_
        exact k
      obtain ⟨T995, h995, X995, e995, E995, A995, D995, -, st995⟩ := newO X991 hx hZ hown (hw _ (List.mem_of_getElem? (i := 62) rfl)) (hw _ (List.mem_of_getElem? (i := 38) rfl)) (hw _ (List.mem_of_getElem? (i := 39) rfl)) e991 (g := (mkF m 107 #[.val (.int p0), .val (.int p1), .val (.int p2), .val (.int p3), .val (.int p4), .val (.int p5), .val (.ref b823), .val (.ref b884), .val (.ref b919), .unset] [(.ref b823), (.ref b956)])) rfl (hb hby at_107) (by decide) (by decide)
      obtain ⟨b995, g995⟩ : ∃ z, z = h956.size := ⟨_, rfl⟩
      rw [← g995] at A995 D995 st995
      have ne996 : b823 ≠ b995 := Nat.ne_of_lt (Nat.lt_of_lt_of_le f966.lt (Nat.le_of_eq g995.symm))
      have ne997 : b836 ≠ b995 := Nat.ne_of_lt (Nat.lt_of_lt_of_le f975.lt (Nat.le_of_eq g995.symm))
      have ne998 : b837 ≠ b995 := Nat.ne_of_lt (Nat.lt_of_lt_of_le f979.lt (Nat.le_of_eq g995.symm))
      have ne999 : b838 ≠ b995 := Nat.ne_of_lt (Nat.lt_of_lt_of_le f983.lt (Nat.le_of_eq g995.symm))
      have ne1000 : b884 ≠ b995 := Nat.ne_of_lt (Nat.lt_of_lt_of_le f986.lt (Nat.le_of_eq g995.symm))
      have ne1001 : b919 ≠ b995 := Nat.ne_of_lt (Nat.lt_of_lt_of_le f988.lt (Nat.le_of_eq g995.symm))
      have ne1002 : b956 ≠ b995 := Nat.ne_of_lt (Nat.lt_of_lt_of_le A956.lt (Nat.le_of_eq g995.symm))
      have g_b995 : n0 ≤ b995 := Nat.le_trans Z963 (Nat.le_of_eq g995.symm)
      have Z1003 : n0 ≤ h995.size := Nat.le_trans Z963 E995.1
      have f1004 : Sta Z h995 "java/util/ArrayList" "DEFAULTCAPACITY_EMPTY_ELEMENTDATA" "[Ljava/lang/Object;" (.ref w_s_DEFAULTCAPACITY_EMPTY_ELEMENTDATA) := Sta.ext E995 f964
      have f1005 : Sta Z h995 "com/example/dropwire/dropwire/dnd/Actions" "NONE" "Lcom/example/dropwire/dropwire/dnd/Actions;" (.ref w_s_NONE) := Sta.ext E995 f965
      have f1006 : Exa Z h995 b823 "com/example/dropwire/dropwire/inprocess/InProcessPeer" := Exa.ext E995 f966
      have f1007 : Fld Z h995 b823 "com/example/dropwire/dropwire/inprocess/InProcessPeer" "drag" "Lcom/example/dropwire/dropwire/dnd/DragSourceContext;" .null := Fld.ext E995 f967
      have f1008 : Fld Z h995 b823 "com/example/dropwire/dropwire/inprocess/InProcessPeer" "recognizing" "Lcom/example/dropwire/dropwire/inprocess/InProcessPeer$Recognizer;" .null := Fld.ext E995 f968
      have f1009 : Fld Z h995 b823 "com/example/dropwire/dropwire/inprocess/InProcessPeer" "plain" "Lcom/example/dropwire/dropwire/dnd/Actions;" .null := Fld.ext E995 f969
      have f1010 : Fld Z h995 b823 "com/example/dropwire/dropwire/inprocess/InProcessPeer" "under" "Lcom/example/dropwire/dropwire/inprocess/InProcessPeer$Component;" .null := Fld.ext E995 f970
      have f1011 : Fld Z h995 b823 "com/example/dropwire/dropwire/inprocess/InProcessPeer" "visit" "Lcom/example/dropwire/dropwire/dnd/DropTargetVisit;" .null := Fld.ext E995 f971
      have f1012 : Fld Z h995 b823 "com/example/dropwire/dropwire/inprocess/InProcessPeer" "components" "Ljava/util/List;" (.ref b836) := Fld.ext E995 f972
      have f1013 : Fld Z h995 b823 "com/example/dropwire/dropwire/inprocess/InProcessPeer" "recognizers" "Ljava/util/List;" (.ref b837) := Fld.ext E995 f973
      have f1014 : Fld Z h995 b823 "com/example/dropwire/dropwire/inprocess/InProcessPeer" "hotspot" "Lcom/example/dropwire/dropwire/dnd/Point;" (.ref b838) := Fld.ext E995 f974
      have f1015 : Exa Z h995 b836 "java/util/ArrayList" := Exa.ext E995 f975
      have f1016 : Fld Z h995 b836 "java/util/ArrayList" "size" "I" (.int (0 : Int32)) := Fld.ext E995 f976
      have f1017 : Fld Z h995 b836 "java/util/AbstractList" "modCount" "I" (.int (0 : Int32)) := Fld.ext E995 f977
      have f1018 : Fld Z h995 b836 "java/util/ArrayList" "elementData" "[Ljava/lang/Object;" (.ref w_s_DEFAULTCAPACITY_EMPTY_ELEMENTDATA) := Fld.ext E995 f978
      have f1019 : Exa Z h995 b837 "java/util/ArrayList" := Exa.ext E995 f979
      have f1020 : Fld Z h995 b837 "java/util/ArrayList" "size" "I" (.int (0 : Int32)) := Fld.ext E995 f980
      have f1021 : Fld Z h995 b837 "java/util/AbstractList" "modCount" "I" (.int (0 : Int32)) := Fld.ext E995 f981
      have f1022 : Fld Z h995 b837 "java/util/ArrayList" "elementData" "[Ljava/lang/Object;" (.ref w_s_DEFAULTCAPACITY_EMPTY_ELEMENTDATA) := Fld.ext E995 f982
      have f1023 : Exa Z h995 b838 "com/example/dropwire/dropwire/dnd/Point" := Exa.ext E995 f983
      have f1024 : Fld Z h995 b838 "com/example/dropwire/dropwire/dnd/Point" "x" "I" (.int (0 : Int32)) := Fld.ext E995 f984
      have f1025 : Fld Z h995 b838 "com/example/dropwire/dropwire/dnd/Point" "y" "I" (.int (0 : Int32)) := Fld.ext E995 f985
      have f1026 : Exa Z h995 b884 "com/example/dropwire/dropwire/dnd/Actions" := Exa.ext E995 f986
      have f1027 : Fld Z h995 b884 "com/example/dropwire/dropwire/dnd/Actions" "bits" "I" (.int ((1 : Int32) <<< (((p4 &&& (2147483647 : Int32)) % (3 : Int32)) &&& 31))) := Fld.ext E995 f987
      have f1028 : Exa Z h995 b919 "com/example/dropwire/dropwire/dnd/Actions" := Exa.ext E995 f988
      have f1029 : Fld Z h995 b919 "com/example/dropwire/dropwire/dnd/Actions" "bits" "I" (.int ((Jvm.Free.XT.ushr p4 (8 : Int32)) &&& (7 : Int32))) := Fld.ext E995 f989
      have f1030 : Exa Z h995 b956 "com/example/dropwire/dropwire/dnd/DragSource" := Exa.ext E995 A956
      have f1031 : Unt h995 b956 := Unt.ext E995 Un956
      have f1032 : Fld Z h995 b956 "com/example/dropwire/dropwire/dnd/DragSource" "current" "Lcom/example/dropwire/dropwire/dnd/DragSourceContext;" .null := Fld.ext E995 f990
      have f1033 : Fld Z h995 b995 "com/example/dropwire/dropwire/dnd/Point" "x" "I" (.int (0 : Int32)) := D995 (Or.inr (hw _ (List.mem_of_getElem? (i := 50) rfl))) (ty := .int) (by decide)
      have f1034 : Fld Z h995 b995 "com/example/dropwire/dropwire/dnd/Point" "y" "I" (.int (0 : Int32)) := D995 (Or.inr (hw _ (List.mem_of_getElem? (i := 52) rfl))) (ty := .int) (by decide)
      refine own_go st995 ?_
      refine own_go (S' := T995.setTop (mkF m 113 #[.val (.int p0), .val (.int p1), .val (.int p2), .val (.int p3), .val (.int p4), .val (.int p5), .val (.ref b823), .val (.ref b884), .val (.ref b919), .unset] [(.int p1), (.int p0), (.ref b995), (.ref b995), (.ref b823), (.ref b956)])) (fun t k => ?_) ?_
      · show Steps p.tables e below (T995.setTop (mkF m 110 #[.val (.int p0), .val (.int p1), .val (.int p2), .val (.int p3), .val (.int p4), .val (.int p5), .val (.ref b823), .val (.ref b884), .val (.ref b919), .unset] [(.ref b995), (.ref b823), (.ref b956)])) t
        refine XS.dup X995.here hx rfl (hb hby at_110) rfl rfl ?_
        show Steps p.tables e below (T995.setTop (mkF m 111 #[.val (.int p0), .val (.int p1), .val (.int p2), .val (.int p3), .val (.int p4), .val (.int p5), .val (.ref b823), .val (.ref b884), .val (.ref b919), .unset] [(.ref b995), (.ref b995), (.ref b823), (.ref b956)])) t
        refine XS.iloadN X995.here hx rfl (hb hby at_111) rfl ?_
        show Steps p.tables e below (T995.setTop (mkF m 112 #[.val (.int p0), .val (.int p1), .val (.int p2), .val (.int p3), .val (.int p4), .val (.int p5), .val (.ref b823), .val (.ref b884), .val (.ref b919), .unset] [(.int p0), (.ref b995), (.ref b995), (.ref b823), (.ref b956)])) t
        refine XS.iloadN X995.here hx rfl (hb hby at_112) rfl ?_
        exact k
      obtain ⟨_, _, ⟨T1035, L1035, kk1035, nn1035⟩, -, X1035, ⟨Lc1035, hQ1035, l1035, y1035, z1035⟩, st1035⟩ := X995.specialBack hx (y := (⟨"com/example/dropwire/dropwire/dnd/Point", "<init>", "(II)V"⟩ : MethodName)) rfl hown (mvT hZ (hw _ (List.mem_of_getElem? (i := 63) rfl))) (mvT hZ (hw _ (List.mem_of_getElem? (i := 41) rfl))) (mvT hZ (hw _ (List.mem_of_getElem? (i := 42) rfl))) (by decide) (backOf (W := 3) (ptInit l Z a0 hw [] b995 p0 p1 (0 : Int32) (0 : Int32) h995 n0 Z1003 A995 f1033 f1034 g_b995) hZ (hw _ (List.mem_of_getElem? (i := 42) rfl)) (hw _ (List.mem_of_getElem? (i := 39) rfl)) (by decide) (by decide)) (g := (mkF m 113 #[.val (.int p0), .val (.int p1), .val (.int p2), .val (.int p3), .val (.int p4), .val (.int p5), .val (.ref b823), .val (.ref b884), .val (.ref b919), .unset] [(.int p1), (.int p0), (.ref b995), (.ref b995), (.ref b823), (.ref b956)])) rfl (by rw [hml]; rfl) (Steps.refl _) (a := b995) (argsL := [(.int p0), (.int p1)]) (rest := [(.ref b995), (.ref b823), (.ref b956)]) (lenOf pd_51 rfl) rfl (by show 2 * 0 + _ ≤ _; exact Nat.le_of_eq rfl) (hb hby at_113) (fun _ _ => ⟨rfl, e995, (by decide : 8 + 0 ≤ _), (by decide : 21 + 0 ≤ _)⟩)
      dsimp only [Pt.U, Pt.locs, Pt.cells, Pt.slots] at X1035 l1035 y1035 z1035 st1035 hQ1035
      subst l1035 y1035 z1035
      obtain ⟨rfl, N1036, K1037, p1038, p1039, p1040⟩ := hQ1035
      have N1041 := Fr.app N994 N1036
      have f1042 : Sta Z T1035.heap "java/util/ArrayList" "DEFAULTCAPACITY_EMPTY_ELEMENTDATA" "[Ljava/lang/Object;" (.ref w_s_DEFAULTCAPACITY_EMPTY_ELEMENTDATA) := own_sta_keep f1004 K1037 (allS (own_plain A995) all0)
      have f1043 : Sta Z T1035.heap "com/example/dropwire/dropwire/dnd/Actions" "NONE" "Lcom/example/dropwire/dropwire/dnd/Actions;" (.ref w_s_NONE) := own_sta_keep f1005 K1037 (allS (own_plain A995) all0)
      have f1044 : Exa Z T1035.heap b823 "com/example/dropwire/dropwire/inprocess/InProcessPeer" := f1006.keep K1037
      have f1045 : Fld Z T1035.heap b823 "com/example/dropwire/dropwire/inprocess/InProcessPeer" "drag" "Lcom/example/dropwire/dropwire/dnd/DragSourceContext;" .null := f1007.keep K1037 (ninS ne996 nin0)
      have f1046 : Fld Z T1035.heap b823 "com/example/dropwire/dropwire/inprocess/InProcessPeer" "recognizing" "Lcom/example/dropwire/dropwire/inprocess/InProcessPeer$Recognizer;" .null := f1008.keep K1037 (ninS ne996 nin0)
      have f1047 : Fld Z T1035.heap b823 "com/example/dropwire/dropwire/inprocess/InProcessPeer" "plain" "Lcom/example/dropwire/dropwire/dnd/Actions;" .null := f1009.keep K1037 (ninS ne996 nin0)
      have f1048 : Fld Z T1035.heap b823 "com/example/dropwire/dropwire/inprocess/InProcessPeer" "under" "Lcom/example/dropwire/dropwire/inprocess/InProcessPeer$Component;" .null := f1010.keep K1037 (ninS ne996 nin0)
      have f1049 : Fld Z T1035.heap b823 "com/example/dropwire/dropwire/inprocess/InProcessPeer" "visit" "Lcom/example/dropwire/dropwire/dnd/DropTargetVisit;" .null := f1011.keep K1037 (ninS ne996 nin0)
      have f1050 : Fld Z T1035.heap b823 "com/example/dropwire/dropwire/inprocess/InProcessPeer" "components" "Ljava/util/List;" (.ref b836) := f1012.keep K1037 (ninS ne996 nin0)
      have f1051 : Fld Z T1035.heap b823 "com/example/dropwire/dropwire/inprocess/InProcessPeer" "recognizers" "Ljava/util/List;" (.ref b837) := f1013.keep K1037 (ninS ne996 nin0)
      have f1052 : Fld Z T1035.heap b823 "com/example/dropwire/dropwire/inprocess/InProcessPeer" "hotspot" "Lcom/example/dropwire/dropwire/dnd/Point;" (.ref b838) := f1014.keep K1037 (ninS ne996 nin0)
      have f1053 : Exa Z T1035.heap b836 "java/util/ArrayList" := f1015.keep K1037
      have f1054 : Fld Z T1035.heap b836 "java/util/ArrayList" "size" "I" (.int (0 : Int32)) := f1016.keep K1037 (ninS ne997 nin0)
      have f1055 : Fld Z T1035.heap b836 "java/util/AbstractList" "modCount" "I" (.int (0 : Int32)) := f1017.keep K1037 (ninS ne997 nin0)
      have f1056 : Fld Z T1035.heap b836 "java/util/ArrayList" "elementData" "[Ljava/lang/Object;" (.ref w_s_DEFAULTCAPACITY_EMPTY_ELEMENTDATA) := f1018.keep K1037 (ninS ne997 nin0)
      have f1057 : Exa Z T1035.heap b837 "java/util/ArrayList" := f1019.keep K1037
      have f1058 : Fld Z T1035.heap b837 "java/util/ArrayList" "size" "I" (.int (0 : Int32)) := f1020.keep K1037 (ninS ne998 nin0)
      have f1059 : Fld Z T1035.heap b837 "java/util/AbstractList" "modCount" "I" (.int (0 : Int32)) := f1021.keep K1037 (ninS ne998 nin0)
      have f1060 : Fld Z T1035.heap b837 "java/util/ArrayList" "elementData" "[Ljava/lang/Object;" (.ref w_s_DEFAULTCAPACITY_EMPTY_ELEMENTDATA) := f1022.keep K1037 (ninS ne998 nin0)
      have f1061 : Exa Z T1035.heap b838 "com/example/dropwire/dropwire/dnd/Point" := f1023.keep K1037
      have f1062 : Fld Z T1035.heap b838 "com/example/dropwire/dropwire/dnd/Point" "x" "I" (.int (0 : Int32)) := f1024.keep K1037 (ninS ne999 nin0)
      have f1063 : Fld Z T1035.heap b838 "com/example/dropwire/dropwire/dnd/Point" "y" "I" (.int (0 : Int32)) := f1025.keep K1037 (ninS ne999 nin0)
      have f1064 : Exa Z T1035.heap b884 "com/example/dropwire/dropwire/dnd/Actions" := f1026.keep K1037
      have f1065 : Fld Z T1035.heap b884 "com/example/dropwire/dropwire/dnd/Actions" "bits" "I" (.int ((1 : Int32) <<< (((p4 &&& (2147483647 : Int32)) % (3 : Int32)) &&& 31))) := f1027.keep K1037 (ninS ne1000 nin0)
      have f1066 : Exa Z T1035.heap b919 "com/example/dropwire/dropwire/dnd/Actions" := f1028.keep K1037
      have f1067 : Fld Z T1035.heap b919 "com/example/dropwire/dropwire/dnd/Actions" "bits" "I" (.int ((Jvm.Free.XT.ushr p4 (8 : Int32)) &&& (7 : Int32))) := f1029.keep K1037 (ninS ne1001 nin0)
      have f1068 : Exa Z T1035.heap b956 "com/example/dropwire/dropwire/dnd/DragSource" := f1030.keep K1037
      have f1069 : Unt T1035.heap b956 := own_unt_keep f1031 K1037 (ninS ne1002 nin0)
      have f1070 : Fld Z T1035.heap b956 "com/example/dropwire/dropwire/dnd/DragSource" "current" "Lcom/example/dropwire/dropwire/dnd/DragSourceContext;" .null := f1032.keep K1037 (ninS ne1002 nin0)
      have f1071 : Exa Z T1035.heap b995 "com/example/dropwire/dropwire/dnd/Point" := A995.keep K1037
      have Z1072 : n0 ≤ T1035.heap.size := Nat.le_trans Z1003 K1037.1
      refine own_goT st1035 ?_
      refine own_go (S' := T1035.setTop (mkF m 118 #[.val (.int p0), .val (.int p1), .val (.int p2), .val (.int p3), .val (.int p4), .val (.int p5), .val (.ref b823), .val (.ref b884), .val (.ref b919), .unset] [(.ref b884), (.ref b995), (.ref b823), (.ref b956)])) (fun t k => ?_) ?_
      · show Steps p.tables e below (T1035.setTop (mkF m 116 #[.val (.int p0), .val (.int p1), .val (.int p2), .val (.int p3), .val (.int p4), .val (.int p5), .val (.ref b823), .val (.ref b884), .val (.ref b919), .unset] [(.ref b995), (.ref b823), (.ref b956)])) t
        refine XS.aload X1035.here hx rfl (hb hby at_116) rfl rfl ?_
        exact k
      obtain ⟨cq1073, kq1073, qa1073, qb1073, qc1073⟩ := isOf hZ rfl f1044
      obtain ⟨_, _, ⟨T1073, L1073, kk1073, nn1073⟩, -, X1073, ⟨Lc1073, hQ1073, l1073, y1073, z1073⟩, st1073⟩ := X1035.virtualBack hx (y := (⟨"com/example/dropwire/dropwire/inprocess/InProcessPeer", "gesture", "(Lcom/example/dropwire/dropwire/dnd/Point;Lcom/example/dropwire/dropwire/dnd/Actions;)Lcom/example/dropwire/dropwire/dnd/DragGesture;"⟩ : MethodName)) (z := (⟨"com/example/dropwire/dropwire/inprocess/InProcessPeer", "gesture", "(Lcom/example/dropwire/dropwire/dnd/Point;Lcom/example/dropwire/dropwire/dnd/Actions;)Lcom/example/dropwire/dropwire/dnd/DragGesture;"⟩ : MethodName)) hown (mvT hZ (hw _ (List.mem_of_getElem? (i := 89) rfl))) (mvT hZ (hw _ (List.mem_of_getElem? (i := 90) rfl))) (notFace_of_selects (args := #[]) (mvT hZ (hw _ (List.mem_of_getElem? (i := 92) rfl)))) (mvT hZ (hw _ (List.mem_of_getElem? (i := 92) rfl))) (mvT hZ (hw _ (List.mem_of_getElem? (i := 91) rfl))) (by decide) (backOf (W := 1) (gest l Z a0 hw [] b823 b995 b884 ((1 : Int32) <<< (((p4 &&& (2147483647 : Int32)) % (3 : Int32)) &&& 31)) T1035.heap n0 Z1072 ((own_bits p4).2 : (bitCount_r ((1 : Int32) <<< (((p4 &&& (2147483647 : Int32)) % (3 : Int32)) &&& 31))) = (1 : Int32)) f1065 f1064) hZ (hw _ (List.mem_of_getElem? (i := 93) rfl)) (hw _ (List.mem_of_getElem? (i := 2) rfl)) (by decide) (by decide)) qa1073 qc1073 (g := (mkF m 118 #[.val (.int p0), .val (.int p1), .val (.int p2), .val (.int p3), .val (.int p4), .val (.int p5), .val (.ref b823), .val (.ref b884), .val (.ref b919), .unset] [(.ref b884), (.ref b995), (.ref b823), (.ref b956)])) rfl (by rw [hml]; rfl) (Steps.refl _) (argsL := [(.ref b995), (.ref b884)]) (rest := [(.ref b956)]) (lenOf pd_320 rfl) rfl (by show 2 * 0 + _ ≤ _; exact Nat.le_of_eq rfl) (hb hby at_118) (fun _ _ => ⟨rfl, rfl, (by decide : 8 + 1 ≤ _), (by decide : 21 + 3 ≤ _)⟩)
      dsimp only [Pt.U, Pt.locs, Pt.cells, Pt.slots] at X1073 l1073 y1073 z1073 st1073 hQ1073
      subst l1073 y1073 z1073
      obtain ⟨b1074, rfl, N1075, K1076, p1077, p1078, p1079, p1080, p1081⟩ := hQ1073
      have N1082 := Fr.app N1041 N1075
      have ne1083 : b823 ≠ b1074 := Nat.ne_of_lt (Nat.lt_of_lt_of_le f1044.lt p1077)
      have ne1084 : b836 ≠ b1074 := Nat.ne_of_lt (Nat.lt_of_lt_of_le f1053.lt p1077)
      have ne1085 : b837 ≠ b1074 := Nat.ne_of_lt (Nat.lt_of_lt_of_le f1057.lt p1077)
      have ne1086 : b838 ≠ b1074 := Nat.ne_of_lt (Nat.lt_of_lt_of_le f1061.lt p1077)
      have ne1087 : b884 ≠ b1074 := Nat.ne_of_lt (Nat.lt_of_lt_of_le f1064.lt p1077)
      have ne1088 : b919 ≠ b1074 := Nat.ne_of_lt (Nat.lt_of_lt_of_le f1066.lt p1077)
      have ne1089 : b956 ≠ b1074 := Nat.ne_of_lt (Nat.lt_of_lt_of_le f1068.lt p1077)
      have ne1090 : b995 ≠ b1074 := Nat.ne_of_lt (Nat.lt_of_lt_of_le p1038.lt p1077)
      have g_b1074 : n0 ≤ b1074 := Nat.le_trans Z1072 p1077
      have f1091 : Sta Z T1073.heap "java/util/ArrayList" "DEFAULTCAPACITY_EMPTY_ELEMENTDATA" "[Ljava/lang/Object;" (.ref w_s_DEFAULTCAPACITY_EMPTY_ELEMENTDATA) := own_sta_keep f1042 K1076 all0
      have f1092 : Sta Z T1073.heap "com/example/dropwire/dropwire/dnd/Actions" "NONE" "Lcom/example/dropwire/dropwire/dnd/Actions;" (.ref w_s_NONE) := own_sta_keep f1043 K1076 all0
      have f1093 : Exa Z T1073.heap b823 "com/example/dropwire/dropwire/inprocess/InProcessPeer" := f1044.keep K1076
      have f1094 : Fld Z T1073.heap b823 "com/example/dropwire/dropwire/inprocess/InProcessPeer" "drag" "Lcom/example/dropwire/dropwire/dnd/DragSourceContext;" .null := f1045.keep K1076 nin0
      have f1095 : Fld Z T1073.heap b823 "com/example/dropwire/dropwire/inprocess/InProcessPeer" "recognizing" "Lcom/example/dropwire/dropwire/inprocess/InProcessPeer$Recognizer;" .null := f1046.keep K1076 nin0
      have f1096 : Fld Z T1073.heap b823 "com/example/dropwire/dropwire/inprocess/InProcessPeer" "plain" "Lcom/example/dropwire/dropwire/dnd/Actions;" .null := f1047.keep K1076 nin0
      have f1097 : Fld Z T1073.heap b823 "com/example/dropwire/dropwire/inprocess/InProcessPeer" "under" "Lcom/example/dropwire/dropwire/inprocess/InProcessPeer$Component;" .null := f1048.keep K1076 nin0
      have f1098 : Fld Z T1073.heap b823 "com/example/dropwire/dropwire/inprocess/InProcessPeer" "visit" "Lcom/example/dropwire/dropwire/dnd/DropTargetVisit;" .null := f1049.keep K1076 nin0
      have f1099 : Fld Z T1073.heap b823 "com/example/dropwire/dropwire/inprocess/InProcessPeer" "components" "Ljava/util/List;" (.ref b836) := f1050.keep K1076 nin0
      have f1100 : Fld Z T1073.heap b823 "com/example/dropwire/dropwire/inprocess/InProcessPeer" "recognizers" "Ljava/util/List;" (.ref b837) := f1051.keep K1076 nin0
      have f1101 : Fld Z T1073.heap b823 "com/example/dropwire/dropwire/inprocess/InProcessPeer" "hotspot" "Lcom/example/dropwire/dropwire/dnd/Point;" (.ref b838) := f1052.keep K1076 nin0
      have f1102 : Exa Z T1073.heap b836 "java/util/ArrayList" := f1053.keep K1076
      have f1103 : Fld Z T1073.heap b836 "java/util/ArrayList" "size" "I" (.int (0 : Int32)) := f1054.keep K1076 nin0
      have f1104 : Fld Z T1073.heap b836 "java/util/AbstractList" "modCount" "I" (.int (0 : Int32)) := f1055.keep K1076 nin0
      have f1105 : Fld Z T1073.heap b836 "java/util/ArrayList" "elementData" "[Ljava/lang/Object;" (.ref w_s_DEFAULTCAPACITY_EMPTY_ELEMENTDATA) := f1056.keep K1076 nin0
      have f1106 : Exa Z T1073.heap b837 "java/util/ArrayList" := f1057.keep K1076
      have f1107 : Fld Z T1073.heap b837 "java/util/ArrayList" "size" "I" (.int (0 : Int32)) := f1058.keep K1076 nin0
      have f1108 : Fld Z T1073.heap b837 "java/util/AbstractList" "modCount" "I" (.int (0 : Int32)) := f1059.keep K1076 nin0
      have f1109 : Fld Z T1073.heap b837 "java/util/ArrayList" "elementData" "[Ljava/lang/Object;" (.ref w_s_DEFAULTCAPACITY_EMPTY_ELEMENTDATA) := f1060.keep K1076 nin0
      have f1110 : Exa Z T1073.heap b838 "com/example/dropwire/dropwire/dnd/Point" := f1061.keep K1076
      have f1111 : Fld Z T1073.heap b838 "com/example/dropwire/dropwire/dnd/Point" "x" "I" (.int (0 : Int32)) := f1062.keep K1076 nin0
      have f1112 : Fld Z T1073.heap b838 "com/example/dropwire/dropwire/dnd/Point" "y" "I" (.int (0 : Int32)) := f1063.keep K1076 nin0
      have f1113 : Exa Z T1073.heap b884 "com/example/dropwire/dropwire/dnd/Actions" := f1064.keep K1076
      have f1114 : Fld Z T1073.heap b884 "com/example/dropwire/dropwire/dnd/Actions" "bits" "I" (.int ((1 : Int32) <<< (((p4 &&& (2147483647 : Int32)) % (3 : Int32)) &&& 31))) := f1065.keep K1076 nin0
      have f1115 : Exa Z T1073.heap b919 "com/example/dropwire/dropwire/dnd/Actions" := f1066.keep K1076
      have f1116 : Fld Z T1073.heap b919 "com/example/dropwire/dropwire/dnd/Actions" "bits" "I" (.int ((Jvm.Free.XT.ushr p4 (8 : Int32)) &&& (7 : Int32))) := f1067.keep K1076 nin0
      have f1117 : Exa Z T1073.heap b956 "com/example/dropwire/dropwire/dnd/DragSource" := f1068.keep K1076
      have f1118 : Unt T1073.heap b956 := own_unt_keep f1069 K1076 nin0
      have f1119 : Fld Z T1073.heap b956 "com/example/dropwire/dropwire/dnd/DragSource" "current" "Lcom/example/dropwire/dropwire/dnd/DragSourceContext;" .null := f1070.keep K1076 nin0
      have f1120 : Exa Z T1073.heap b995 "com/example/dropwire/dropwire/dnd/Point" := p1038.keep K1076
      have f1121 : Fld Z T1073.heap b995 "com/example/dropwire/dropwire/dnd/Point" "x" "I" (.int p0) := p1039.keep K1076 nin0
      have f1122 : Fld Z T1073.heap b995 "com/example/dropwire/dropwire/dnd/Point" "y" "I" (.int p1) := p1040.keep K1076 nin0
      have Z1123 : n0 ≤ T1073.heap.size := Nat.le_trans Z1072 K1076.1
      refine own_goT st1073 ?_
      refine own_go (S' := T1073.setTop (mkF m 125 #[.val (.int p0), .val (.int p1), .val (.int p2), .val (.int p3), .val (.int p4), .val (.int p5), .val (.ref b823), .val (.ref b884), .val (.ref b919), .unset] [.null, (.ref b919), .null, (.ref b1074), (.ref b956)])) (fun t k => ?_) ?_
      · show Steps p.tables e below (T1073.setTop (mkF m 121 #[.val (.int p0), .val (.int p1), .val (.int p2), .val (.int p3), .val (.int p4), .val (.int p5), .val (.ref b823), .val (.ref b884), .val (.ref b919), .unset] [(.ref b1074), (.ref b956)])) t
        refine XS.aconstNull X1073.here hx rfl (hb hby at_121) ?_
        show Steps p.tables e below (T1073.setTop (mkF m 122 #[.val (.int p0), .val (.int p1), .val (.int p2), .val (.int p3), .val (.int p4), .val (.int p5), .val (.ref b823), .val (.ref b884), .val (.ref b919), .unset] [.null, (.ref b1074), (.ref b956)])) t
        refine XS.aload X1073.here hx rfl (hb hby at_122) rfl rfl ?_
        show Steps p.tables e below (T1073.setTop (mkF m 124 #[.val (.int p0), .val (.int p1), .val (.int p2), .val (.int p3), .val (.int p4), .val (.int p5), .val (.ref b823), .val (.ref b884), .val (.ref b919), .unset] [(.ref b919), .null, (.ref b1074), (.ref b956)])) t
        refine XS.aconstNull X1073.here hx rfl (hb hby at_124) ?_
        exact k
      obtain ⟨cq1124, kq1124, qa1124, qb1124, qc1124⟩ := isOf hZ rfl f1117
      obtain ⟨_, _, ⟨T1124, L1124, kk1124, nn1124⟩, -, X1124, ⟨Lc1124, hQ1124, l1124, y1124, z1124⟩, st1124⟩ := X1073.virtualBack hx (y := (⟨"com/example/dropwire/dropwire/dnd/DragSource", "startDrag", "(Lcom/example/dropwire/dropwire/dnd/DragGesture;Lcom/example/dropwire/dropwire/transfer/Transferable;Lcom/example/dropwire/dropwire/dnd/Actions;Lcom/example/dropwire/dropwire/dnd/DragSourceListener;)Lcom/example/dropwire/dropwire/dnd/DragSourceContext;"⟩ : MethodName)) (z := (⟨"com/example/dropwire/dropwire/dnd/DragSource", "startDrag", "(Lcom/example/dropwire/dropwire/dnd/DragGesture;Lcom/example/dropwire/dropwire/transfer/Transferable;Lcom/example/dropwire/dropwire/dnd/Actions;Lcom/example/dropwire/dropwire/dnd/DragSourceListener;)Lcom/example/dropwire/dropwire/dnd/DragSourceContext;"⟩ : MethodName)) hown (mvT hZ (hw _ (List.mem_of_getElem? (i := 119) rfl))) (mvT hZ (hw _ (List.mem_of_getElem? (i := 120) rfl))) (notFace_of_selects (args := #[]) (mvT hZ (hw _ (List.mem_of_getElem? (i := 122) rfl)))) (mvT hZ (hw _ (List.mem_of_getElem? (i := 122) rfl))) (mvT hZ (hw _ (List.mem_of_getElem? (i := 121) rfl))) (by decide) (backOfWith (W := 0) (dsStart l Z a0 hw [] b956 b1074 b919 b884 w_s_NONE b823 b995 (.ref b836) b837 (.ref b838) (.null) (.null) (.null) (0 : Int32) T1073.heap n0 Z1123 p1081 p1078 f1092 f1118 f1119 f1117 g_b956 p1079 p1080 f1094 ne957 f1093 g_b823 f1099 f1100 f1101 f1095 f1096 f1097 f1098 f1108 ne959 (Ne.symm ne869) f1106 f1107) hZ (hw _ (List.mem_of_getElem? (i := 123) rfl)) (hw _ (List.mem_of_getElem? (i := 84) rfl)) (by decide) (by decide)) qa1124 qc1124 (g := (mkF m 125 #[.val (.int p0), .val (.int p1), .val (.int p2), .val (.int p3), .val (.int p4), .val (.int p5), .val (.ref b823), .val (.ref b884), .val (.ref b919), .unset] [.null, (.ref b919), .null, (.ref b1074), (.ref b956)])) rfl (by rw [hml]; rfl) (Steps.refl _) (argsL := [(.ref b1074), .null, (.ref b919), .null]) (rest := []) (lenOf pd_321 rfl) rfl (by show 2 * 0 + _ ≤ _; exact Nat.le_of_eq rfl) (hb hby at_125) (fun _ _ => ⟨rfl, rfl, (by decide : 9 + 2 ≤ _), (by decide : 24 + 13 ≤ _)⟩)
      dsimp only [Pt.U, Pt.locs, Pt.cells, Pt.slots] at X1124 l1124 y1124 z1124 st1124 hQ1124
      subst l1124 y1124 z1124
      obtain ⟨b1125, rfl, N1126, K1127, p1128, p1129, p1130, p1131, p1132, p1133, p1134, p1135, p1136, p1137, p1138, p1139, p1140, p1141, p1142, p1143, p1144, p1145, p1146⟩ := hQ1124
      have N1147 := Fr.app N1082 N1126
      have ne1148 : b823 ≠ b1125 := Nat.ne_of_lt (Nat.lt_of_lt_of_le f1093.lt p1128)
      have ne1149 : b836 ≠ b1125 := Nat.ne_of_lt (Nat.lt_of_lt_of_le f1102.lt p1128)
      have ne1150 : b837 ≠ b1125 := Nat.ne_of_lt (Nat.lt_of_lt_of_le f1106.lt p1128)
      have ne1151 : b838 ≠ b1125 := Nat.ne_of_lt (Nat.lt_of_lt_of_le f1110.lt p1128)
      have ne1152 : b884 ≠ b1125 := Nat.ne_of_lt (Nat.lt_of_lt_of_le f1113.lt p1128)
      have ne1153 : b919 ≠ b1125 := Nat.ne_of_lt (Nat.lt_of_lt_of_le f1115.lt p1128)
      have ne1154 : b956 ≠ b1125 := Nat.ne_of_lt (Nat.lt_of_lt_of_le f1117.lt p1128)
      have ne1155 : b995 ≠ b1125 := Nat.ne_of_lt (Nat.lt_of_lt_of_le f1120.lt p1128)
      have ne1156 : b1074 ≠ b1125 := Nat.ne_of_lt (Nat.lt_of_lt_of_le p1078.lt p1128)
      have g_b1125 : n0 ≤ b1125 := Nat.le_trans Z1123 p1128
      have f1157 : Sta Z T1124.heap "java/util/ArrayList" "DEFAULTCAPACITY_EMPTY_ELEMENTDATA" "[Ljava/lang/Object;" (.ref w_s_DEFAULTCAPACITY_EMPTY_ELEMENTDATA) := own_sta_keep f1091 K1127 (allS (own_plain f1117) (allS (own_plain f1093) all0))
      have f1158 : Sta Z T1124.heap "com/example/dropwire/dropwire/dnd/Actions" "NONE" "Lcom/example/dropwire/dropwire/dnd/Actions;" (.ref w_s_NONE) := own_sta_keep f1092 K1127 (allS (own_plain f1117) (allS (own_plain f1093) all0))
      have f1159 : Exa Z T1124.heap b823 "com/example/dropwire/dropwire/inprocess/InProcessPeer" := f1093.keep K1127
      have f1160 : Exa Z T1124.heap b836 "java/util/ArrayList" := f1102.keep K1127
      have f1161 : Fld Z T1124.heap b836 "java/util/ArrayList" "size" "I" (.int (0 : Int32)) := f1103.keep K1127 (ninS ne958 (ninS (Ne.symm ne868) nin0))
      have f1162 : Fld Z T1124.heap b836 "java/util/AbstractList" "modCount" "I" (.int (0 : Int32)) := f1104.keep K1127 (ninS ne958 (ninS (Ne.symm ne868) nin0))
      have f1163 : Fld Z T1124.heap b836 "java/util/ArrayList" "elementData" "[Ljava/lang/Object;" (.ref w_s_DEFAULTCAPACITY_EMPTY_ELEMENTDATA) := f1105.keep K1127 (ninS ne958 (ninS (Ne.symm ne868) nin0))
      have f1164 : Exa Z T1124.heap b837 "java/util/ArrayList" := f1106.keep K1127
      have f1165 : Fld Z T1124.heap b837 "java/util/ArrayList" "size" "I" (.int (0 : Int32)) := f1107.keep K1127 (ninS ne959 (ninS (Ne.symm ne869) nin0))
      have f1166 : Fld Z T1124.heap b837 "java/util/AbstractList" "modCount" "I" (.int (0 : Int32)) := f1108.keep K1127 (ninS ne959 (ninS (Ne.symm ne869) nin0))
      have f1167 : Fld Z T1124.heap b837 "java/util/ArrayList" "elementData" "[Ljava/lang/Object;" (.ref w_s_DEFAULTCAPACITY_EMPTY_ELEMENTDATA) := f1109.keep K1127 (ninS ne959 (ninS (Ne.symm ne869) nin0))
      have f1168 : Exa Z T1124.heap b838 "com/example/dropwire/dropwire/dnd/Point" := f1110.keep K1127
      have f1169 : Fld Z T1124.heap b838 "com/example/dropwire/dropwire/dnd/Point" "x" "I" (.int (0 : Int32)) := f1111.keep K1127 (ninS ne960 (ninS (Ne.symm ne870) nin0))
      have f1170 : Fld Z T1124.heap b838 "com/example/dropwire/dropwire/dnd/Point" "y" "I" (.int (0 : Int32)) := f1112.keep K1127 (ninS ne960 (ninS (Ne.symm ne870) nin0))
      have f1171 : Exa Z T1124.heap b884 "com/example/dropwire/dropwire/dnd/Actions" := f1113.keep K1127
      have f1172 : Fld Z T1124.heap b884 "com/example/dropwire/dropwire/dnd/Actions" "bits" "I" (.int ((1 : Int32) <<< (((p4 &&& (2147483647 : Int32)) % (3 : Int32)) &&& 31))) := f1114.keep K1127 (ninS ne961 (ninS (Ne.symm ne891) nin0))
      have f1173 : Exa Z T1124.heap b919 "com/example/dropwire/dropwire/dnd/Actions" := f1115.keep K1127
      have f1174 : Fld Z T1124.heap b919 "com/example/dropwire/dropwire/dnd/Actions" "bits" "I" (.int ((Jvm.Free.XT.ushr p4 (8 : Int32)) &&& (7 : Int32))) := f1116.keep K1127 (ninS ne962 (ninS (Ne.symm ne926) nin0))
      have f1175 : Exa Z T1124.heap b956 "com/example/dropwire/dropwire/dnd/DragSource" := f1117.keep K1127
      have f1176 : Exa Z T1124.heap b995 "com/example/dropwire/dropwire/dnd/Point" := f1120.keep K1127
      have f1177 : Fld Z T1124.heap b995 "com/example/dropwire/dropwire/dnd/Point" "x" "I" (.int p0) := f1121.keep K1127 (ninS (Ne.symm ne1002) (ninS (Ne.symm ne996) nin0))
      have f1178 : Fld Z T1124.heap b995 "com/example/dropwire/dropwire/dnd/Point" "y" "I" (.int p1) := f1122.keep K1127 (ninS (Ne.symm ne1002) (ninS (Ne.symm ne996) nin0))
      have f1179 : Exa Z T1124.heap b1074 "com/example/dropwire/dropwire/dnd/DragGesture" := p1078.keep K1127
      have f1180 : Fld Z T1124.heap b1074 "com/example/dropwire/dropwire/dnd/DragGesture" "peer" "Lcom/example/dropwire/dropwire/dnd/DragSourcePeer;" (.ref b823) := p1079.keep K1127 (ninS (Ne.symm ne1089) (ninS (Ne.symm ne1083) nin0))
      have f1181 : Fld Z T1124.heap b1074 "com/example/dropwire/dropwire/dnd/DragGesture" "origin" "Lcom/example/dropwire/dropwire/dnd/Point;" (.ref b995) := p1080.keep K1127 (ninS (Ne.symm ne1089) (ninS (Ne.symm ne1083) nin0))
      have f1182 : Fld Z T1124.heap b1074 "com/example/dropwire/dropwire/dnd/DragGesture" "userAction" "Lcom/example/dropwire/dropwire/dnd/Actions;" (.ref b884) := p1081.keep K1127 (ninS (Ne.symm ne1089) (ninS (Ne.symm ne1083) nin0))
      have Z1183 : n0 ≤ T1124.heap.size := Nat.le_trans Z1123 K1127.1
      refine own_goT st1124 ?_
      refine own_go (S' := T1124.setTop (mkF m 131 #[.val (.int p0), .val (.int p1), .val (.int p2), .val (.int p3), .val (.int p4), .val (.int p5), .val (.ref b823), .val (.ref b884), .val (.ref b919), .unset] [(.ref b823)])) (fun t k => ?_) ?_
      · show Steps p.tables e below (T1124.setTop (mkF m 128 #[.val (.int p0), .val (.int p1), .val (.int p2), .val (.int p3), .val (.int p4), .val (.int p5), .val (.ref b823), .val (.ref b884), .val (.ref b919), .unset] [(.ref b1125)])) t
        refine XS.pop X1124.here hx rfl (hb hby at_128) rfl rfl ?_
        show Steps p.tables e below (T1124.setTop (mkF m 129 #[.val (.int p0), .val (.int p1), .val (.int p2), .val (.int p3), .val (.int p4), .val (.int p5), .val (.ref b823), .val (.ref b884), .val (.ref b919), .unset] [])) t
        refine XS.aload X1124.here hx rfl (hb hby at_129) rfl rfl ?_
        exact k
      obtain ⟨cq1184, kq1184, qa1184, qb1184, qc1184⟩ := isOf hZ rfl p1131
      obtain ⟨_, _, ⟨T1184, L1184, kk1184, nn1184⟩, -, X1184, ⟨Lc1184, hQ1184, l1184, y1184, z1184⟩, st1184⟩ := X1124.virtualBack hx (y := (⟨"com/example/dropwire/dropwire/inprocess/InProcessPeer", "isDragging", "()Z"⟩ : MethodName)) (z := (⟨"com/example/dropwire/dropwire/inprocess/InProcessPeer", "isDragging", "()Z"⟩ : MethodName)) hown (mvT hZ (hw _ (List.mem_of_getElem? (i := 55) rfl))) (mvT hZ (hw _ (List.mem_of_getElem? (i := 56) rfl))) (notFace_of_selects (args := #[]) (mvT hZ (hw _ (List.mem_of_getElem? (i := 58) rfl)))) (mvT hZ (hw _ (List.mem_of_getElem? (i := 58) rfl))) (mvT hZ (hw _ (List.mem_of_getElem? (i := 57) rfl))) (by decide) (backOf (W := 0) (isDrag1 l Z a0 hw [] b823 b1125 T1124.heap n0 Z1183 p1137) hZ (hw _ (List.mem_of_getElem? (i := 59) rfl)) (hw _ (List.mem_of_getElem? (i := 2) rfl)) (by decide) (by decide)) qa1184 qc1184 (g := (mkF m 131 #[.val (.int p0), .val (.int p1), .val (.int p2), .val (.int p3), .val (.int p4), .val (.int p5), .val (.ref b823), .val (.ref b884), .val (.ref b919), .unset] [(.ref b823)])) rfl (by rw [hml]; rfl) (Steps.refl _) (argsL := []) (rest := []) (lenOf pd_280 rfl) rfl (by show 2 * 0 + _ ≤ _; exact Nat.le_of_eq rfl) (hb hby at_131) (fun _ _ => ⟨rfl, rfl, (by decide : 11 + 0 ≤ _), (by decide : 37 + 0 ≤ _)⟩)
      dsimp only [Pt.U, Pt.locs, Pt.cells, Pt.slots] at X1184 l1184 y1184 z1184 st1184 hQ1184
      subst l1184 y1184 z1184
      obtain ⟨rfl, N1185, e1184⟩ := hQ1184
      have N1187 := Fr.app N1147 N1185
      refine own_goT st1184 ?_
      refine own_go (S' := T1184.setTop (mkF m 140 #[.val (.int p0), .val (.int p1), .val (.int p2), .val (.int p3), .val (.int p4), .val (.int p5), .val (.ref b823), .val (.ref b884), .val (.ref b919), .val (.int (1 : Int32))] [(.int (p5 &&& (4 : Int32)))])) (fun t k => ?_) ?_
      · show Steps p.tables e below (T1184.setTop (mkF m 134 #[.val (.int p0), .val (.int p1), .val (.int p2), .val (.int p3), .val (.int p4), .val (.int p5), .val (.ref b823), .val (.ref b884), .val (.ref b919), .unset] [(.int (1 : Int32))])) t
        refine XS.istore X1184.here hx rfl (hb hby at_134) rfl (l' := #[.val (.int p0), .val (.int p1), .val (.int p2), .val (.int p3), .val (.int p4), .val (.int p5), .val (.ref b823), .val (.ref b884), .val (.ref b919), .val (.int (1 : Int32))]) rfl ?_
        show Steps p.tables e below (T1184.setTop (mkF m 136 #[.val (.int p0), .val (.int p1), .val (.int p2), .val (.int p3), .val (.int p4), .val (.int p5), .val (.ref b823), .val (.ref b884), .val (.ref b919), .val (.int (1 : Int32))] [])) t
        refine XS.iload X1184.here hx rfl (hb hby at_136) rfl ?_
        show Steps p.tables e below (T1184.setTop (mkF m 138 #[.val (.int p0), .val (.int p1), .val (.int p2), .val (.int p3), .val (.int p4), .val (.int p5), .val (.ref b823), .val (.ref b884), .val (.ref b919), .val (.int (1 : Int32))] [(.int p5)])) t
        refine XS.iconst X1184.here hx rfl (hb hby at_138) ?_
        show Steps p.tables e below (T1184.setTop (mkF m 139 #[.val (.int p0), .val (.int p1), .val (.int p2), .val (.int p3), .val (.int p4), .val (.int p5), .val (.ref b823), .val (.ref b884), .val (.ref b919), .val (.int (1 : Int32))] [(.int (4 : Int32)), (.int p5)])) t
        refine XS.iand X1184.here hx rfl (hb hby at_139) rfl ?_
        exact k
      by_cases hc140 : (p5 &&& (4 : Int32)) = (0 : Int32)
      · skip
        refine own_go (S' := T1184.setTop (mkF m 179 #[.val (.int p0), .val (.int p1), .val (.int p2), .val (.int p3), .val (.int p4), .val (.int p5), .val (.ref b823), .val (.ref b884), .val (.ref b919), .val (.int (1 : Int32))] [(.int (1 : Int32))])) (fun t k => ?_) ?_
        · show Steps p.tables e below (T1184.setTop (mkF m 140 #[.val (.int p0), .val (.int p1), .val (.int p2), .val (.int p3), .val (.int p4), .val (.int p5), .val (.ref b823), .val (.ref b884), .val (.ref b919), .val (.int (1 : Int32))] [(.int (p5 &&& (4 : Int32)))])) t
          refine XS.ifYes X1184.here hx rfl (pc0 := 140) (pc' := 177) rfl (hb hby at_140) rfl ((if0 _ _).trans (teq hc140).1) (by decide) (by decide) ?_
          show Steps p.tables e below (T1184.setTop (mkF m 177 #[.val (.int p0), .val (.int p1), .val (.int p2), .val (.int p3), .val (.int p4), .val (.int p5), .val (.ref b823), .val (.ref b884), .val (.ref b919), .val (.int (1 : Int32))] [])) t
          refine XS.iload X1184.here hx rfl (hb hby at_177) rfl ?_
          exact k
        obtain ⟨fs, hr, hrun, hended, hW, hsame⟩ := X1184.leave (v := some (.int (1 : Int32))) (fun h => by rw [Bd.returns] at h; cases h)
        refine own_end (v := some (.int (1 : Int32))) ?_ hrun hended ?_ hW (hsame.mono (by decide) (by decide))
        · show Steps p.tables e below (T1184.setTop (mkF m 179 #[.val (.int p0), .val (.int p1), .val (.int p2), .val (.int p3), .val (.int p4), .val (.int p5), .val (.ref b823), .val (.ref b884), .val (.ref b919), .val (.int (1 : Int32))] [(.int (1 : Int32))])) _
          exact retN X1184 hx (t := .boolean) Bd.returns (by simp) (hb hby at_179) hr
        · show Qrm0 Z p0 p1 p2 p3 p4 p5 w_s_DEFAULTCAPACITY_EMPTY_ELEMENTDATA w_s_NONE h0 n0 _ T1184.heap _
          rw [e1184]
          exact ⟨rfl, N1187⟩
      · skip
        refine own_go (S' := T1184.setTop (mkF m 145 #[.val (.int p0), .val (.int p1), .val (.int p2), .val (.int p3), .val (.int p4), .val (.int p5), .val (.ref b823), .val (.ref b884), .val (.ref b919), .val (.int (1 : Int32))] [(.ref b823)])) (fun t k => ?_) ?_
        · show Steps p.tables e below (T1184.setTop (mkF m 140 #[.val (.int p0), .val (.int p1), .val (.int p2), .val (.int p3), .val (.int p4), .val (.int p5), .val (.ref b823), .val (.ref b884), .val (.ref b919), .val (.int (1 : Int32))] [(.int (p5 &&& (4 : Int32)))])) t
          refine XS.ifNo X1184.here hx rfl (hb hby at_140) rfl ((if0 _ _).trans (feq hc140).1) ?_
          show Steps p.tables e below (T1184.setTop (mkF m 143 #[.val (.int p0), .val (.int p1), .val (.int p2), .val (.int p3), .val (.int p4), .val (.int p5), .val (.ref b823), .val (.ref b884), .val (.ref b919), .val (.int (1 : Int32))] [])) t
          refine XS.aload X1184.here hx rfl (hb hby at_143) rfl rfl ?_
          exact k
        obtain ⟨T1188, h1188, X1188, e1188, E1188, A1188, D1188, -, st1188⟩ := newO X1184 hx hZ hown (hw _ (List.mem_of_getElem? (i := 62) rfl)) (hw _ (List.mem_of_getElem? (i := 38) rfl)) (hw _ (List.mem_of_getElem? (i := 39) rfl)) e1184 (g := (mkF m 145 #[.val (.int p0), .val (.int p1), .val (.int p2), .val (.int p3), .val (.int p4), .val (.int p5), .val (.ref b823), .val (.ref b884), .val (.ref b919), .val (.int (1 : Int32))] [(.ref b823)])) rfl (hb hby at_145) (by decide) (by decide)
        obtain ⟨b1188, g1188⟩ : ∃ z, z = T1124.heap.size := ⟨_, rfl⟩
        rw [← g1188] at A1188 D1188 st1188
        have ne1189 : b823 ≠ b1188 := Nat.ne_of_lt (Nat.lt_of_lt_of_le p1131.lt (Nat.le_of_eq g1188.symm))
        have ne1190 : b836 ≠ b1188 := Nat.ne_of_lt (Nat.lt_of_lt_of_le f1160.lt (Nat.le_of_eq g1188.symm))
        have ne1191 : b837 ≠ b1188 := Nat.ne_of_lt (Nat.lt_of_lt_of_le f1164.lt (Nat.le_of_eq g1188.symm))
        have ne1192 : b838 ≠ b1188 := Nat.ne_of_lt (Nat.lt_of_lt_of_le f1168.lt (Nat.le_of_eq g1188.symm))
        have ne1193 : b884 ≠ b1188 := Nat.ne_of_lt (Nat.lt_of_lt_of_le f1171.lt (Nat.le_of_eq g1188.symm))
        have ne1194 : b919 ≠ b1188 := Nat.ne_of_lt (Nat.lt_of_lt_of_le f1173.lt (Nat.le_of_eq g1188.symm))
        have ne1195 : b956 ≠ b1188 := Nat.ne_of_lt (Nat.lt_of_lt_of_le p1129.lt (Nat.le_of_eq g1188.symm))
        have ne1196 : b995 ≠ b1188 := Nat.ne_of_lt (Nat.lt_of_lt_of_le f1176.lt (Nat.le_of_eq g1188.symm))
        have ne1197 : b1074 ≠ b1188 := Nat.ne_of_lt (Nat.lt_of_lt_of_le f1179.lt (Nat.le_of_eq g1188.symm))
        have ne1198 : b1125 ≠ b1188 := Nat.ne_of_lt (Nat.lt_of_lt_of_le p1140.lt (Nat.le_of_eq g1188.symm))
        have g_b1188 : n0 ≤ b1188 := Nat.le_trans Z1183 (Nat.le_of_eq g1188.symm)
        have Z1199 : n0 ≤ h1188.size := Nat.le_trans Z1183 E1188.1
        have f1200 : Sta Z h1188 "java/util/ArrayList" "DEFAULTCAPACITY_EMPTY_ELEMENTDATA" "[Ljava/lang/Object;" (.ref w_s_DEFAULTCAPACITY_EMPTY_ELEMENTDATA) := Sta.ext E1188 f1157
        have f1201 : Sta Z h1188 "com/example/dropwire/dropwire/dnd/Actions" "NONE" "Lcom/example/dropwire/dropwire/dnd/Actions;" (.ref w_s_NONE) := Sta.ext E1188 f1158
        have f1202 : Exa Z h1188 b823 "com/example/dropwire/dropwire/inprocess/InProcessPeer" := Exa.ext E1188 p1131
        have f1203 : Exa Z h1188 b836 "java/util/ArrayList" := Exa.ext E1188 f1160
        have f1204 : Fld Z h1188 b836 "java/util/ArrayList" "size" "I" (.int (0 : Int32)) := Fld.ext E1188 f1161
        have f1205 : Fld Z h1188 b836 "java/util/AbstractList" "modCount" "I" (.int (0 : Int32)) := Fld.ext E1188 f1162
        have f1206 : Fld Z h1188 b836 "java/util/ArrayList" "elementData" "[Ljava/lang/Object;" (.ref w_s_DEFAULTCAPACITY_EMPTY_ELEMENTDATA) := Fld.ext E1188 f1163
        have f1207 : Exa Z h1188 b837 "java/util/ArrayList" := Exa.ext E1188 f1164
        have f1208 : Fld Z h1188 b837 "java/util/ArrayList" "size" "I" (.int (0 : Int32)) := Fld.ext E1188 f1165
        have f1209 : Fld Z h1188 b837 "java/util/AbstractList" "modCount" "I" (.int (0 : Int32)) := Fld.ext E1188 f1166
        have f1210 : Fld Z h1188 b837 "java/util/ArrayList" "elementData" "[Ljava/lang/Object;" (.ref w_s_DEFAULTCAPACITY_EMPTY_ELEMENTDATA) := Fld.ext E1188 f1167
        have f1211 : Exa Z h1188 b838 "com/example/dropwire/dropwire/dnd/Point" := Exa.ext E1188 f1168
        have f1212 : Fld Z h1188 b838 "com/example/dropwire/dropwire/dnd/Point" "x" "I" (.int (0 : Int32)) := Fld.ext E1188 f1169
        have f1213 : Fld Z h1188 b838 "com/example/dropwire/dropwire/dnd/Point" "y" "I" (.int (0 : Int32)) := Fld.ext E1188 f1170
        have f1214 : Exa Z h1188 b884 "com/example/dropwire/dropwire/dnd/Actions" := Exa.ext E1188 f1171
        have f1215 : Fld Z h1188 b884 "com/example/dropwire/dropwire/dnd/Actions" "bits" "I" (.int ((1 : Int32) <<< (((p4 &&& (2147483647 : Int32)) % (3 : Int32)) &&& 31))) := Fld.ext E1188 f1172
        have f1216 : Exa Z h1188 b919 "com/example/dropwire/dropwire/dnd/Actions" := Exa.ext E1188 f1173
        have f1217 : Fld Z h1188 b919 "com/example/dropwire/dropwire/dnd/Actions" "bits" "I" (.int ((Jvm.Free.XT.ushr p4 (8 : Int32)) &&& (7 : Int32))) := Fld.ext E1188 f1174
        have f1218 : Exa Z h1188 b956 "com/example/dropwire/dropwire/dnd/DragSource" := Exa.ext E1188 p1129
        have f1219 : Exa Z h1188 b995 "com/example/dropwire/dropwire/dnd/Point" := Exa.ext E1188 f1176
        have f1220 : Fld Z h1188 b995 "com/example/dropwire/dropwire/dnd/Point" "x" "I" (.int p0) := Fld.ext E1188 f1177
        have f1221 : Fld Z h1188 b995 "com/example/dropwire/dropwire/dnd/Point" "y" "I" (.int p1) := Fld.ext E1188 f1178
        have f1222 : Exa Z h1188 b1074 "com/example/dropwire/dropwire/dnd/DragGesture" := Exa.ext E1188 f1179
        have f1223 : Fld Z h1188 b1074 "com/example/dropwire/dropwire/dnd/DragGesture" "peer" "Lcom/example/dropwire/dropwire/dnd/DragSourcePeer;" (.ref b823) := Fld.ext E1188 f1180
        have f1224 : Fld Z h1188 b1074 "com/example/dropwire/dropwire/dnd/DragGesture" "origin" "Lcom/example/dropwire/dropwire/dnd/Point;" (.ref b995) := Fld.ext E1188 f1181
        have f1225 : Fld Z h1188 b1074 "com/example/dropwire/dropwire/dnd/DragGesture" "userAction" "Lcom/example/dropwire/dropwire/dnd/Actions;" (.ref b884) := Fld.ext E1188 f1182
        have f1226 : Fld Z h1188 b956 "com/example/dropwire/dropwire/dnd/DragSource" "current" "Lcom/example/dropwire/dropwire/dnd/DragSourceContext;" (.ref b1125) := Fld.ext E1188 p1130
        have f1227 : Fld Z h1188 b823 "com/example/dropwire/dropwire/inprocess/InProcessPeer" "components" "Ljava/util/List;" (.ref b836) := Fld.ext E1188 p1132
        have f1228 : Fld Z h1188 b823 "com/example/dropwire/dropwire/inprocess/InProcessPeer" "recognizers" "Ljava/util/List;" (.ref b837) := Fld.ext E1188 p1133
        have f1229 : Fld Z h1188 b823 "com/example/dropwire/dropwire/inprocess/InProcessPeer" "recognizing" "Lcom/example/dropwire/dropwire/inprocess/InProcessPeer$Recognizer;" .null := Fld.ext E1188 p1134
        have f1230 : Fld Z h1188 b823 "com/example/dropwire/dropwire/inprocess/InProcessPeer" "under" "Lcom/example/dropwire/dropwire/inprocess/InProcessPeer$Component;" .null := Fld.ext E1188 p1135
        have f1231 : Fld Z h1188 b823 "com/example/dropwire/dropwire/inprocess/InProcessPeer" "visit" "Lcom/example/dropwire/dropwire/dnd/DropTargetVisit;" .null := Fld.ext E1188 p1136
        have f1232 : Fld Z h1188 b823 "com/example/dropwire/dropwire/inprocess/InProcessPeer" "drag" "Lcom/example/dropwire/dropwire/dnd/DragSourceContext;" (.ref b1125) := Fld.ext E1188 p1137
        have f1233 : Fld Z h1188 b823 "com/example/dropwire/dropwire/inprocess/InProcessPeer" "hotspot" "Lcom/example/dropwire/dropwire/dnd/Point;" (.ref b995) := Fld.ext E1188 p1138
        have f1234 : Fld Z h1188 b823 "com/example/dropwire/dropwire/inprocess/InProcessPeer" "plain" "Lcom/example/dropwire/dropwire/dnd/Actions;" (.ref b884) := Fld.ext E1188 p1139
        have f1235 : Exa Z h1188 b1125 "com/example/dropwire/dropwire/dnd/DragSourceContext" := Exa.ext E1188 p1140
        have f1236 : Fld Z h1188 b1125 "com/example/dropwire/dropwire/dnd/DragSourceContext" "acceptedAction" "Lcom/example/dropwire/dropwire/dnd/Actions;" (.ref w_s_NONE) := Fld.ext E1188 p1141
        have f1237 : Fld Z h1188 b1125 "com/example/dropwire/dropwire/dnd/DragSourceContext" "dragSource" "Lcom/example/dropwire/dropwire/dnd/DragSource;" (.ref b956) := Fld.ext E1188 p1142
        have f1238 : Fld Z h1188 b1125 "com/example/dropwire/dropwire/dnd/DragSourceContext" "transferable" "Lcom/example/dropwire/dropwire/transfer/Transferable;" .null := Fld.ext E1188 p1143
        have f1239 : Fld Z h1188 b1125 "com/example/dropwire/dropwire/dnd/DragSourceContext" "sourceActions" "Lcom/example/dropwire/dropwire/dnd/Actions;" (.ref b919) := Fld.ext E1188 p1144
        have f1240 : Fld Z h1188 b1125 "com/example/dropwire/dropwire/dnd/DragSourceContext" "userAction" "Lcom/example/dropwire/dropwire/dnd/Actions;" (.ref b884) := Fld.ext E1188 p1145
        have f1241 : Fld Z h1188 b1125 "com/example/dropwire/dropwire/dnd/DragSourceContext" "listener" "Lcom/example/dropwire/dropwire/dnd/DragSourceListener;" .null := Fld.ext E1188 p1146
        have f1242 : Fld Z h1188 b1188 "com/example/dropwire/dropwire/dnd/Point" "x" "I" (.int (0 : Int32)) := D1188 (Or.inr (hw _ (List.mem_of_getElem? (i := 50) rfl))) (ty := .int) (by decide)
        have f1243 : Fld Z h1188 b1188 "com/example/dropwire/dropwire/dnd/Point" "y" "I" (.int (0 : Int32)) := D1188 (Or.inr (hw _ (List.mem_of_getElem? (i := 52) rfl))) (ty := .int) (by decide)
        refine own_go st1188 ?_
        refine own_go (S' := T1188.setTop (mkF m 151 #[.val (.int p0), .val (.int p1), .val (.int p2), .val (.int p3), .val (.int p4), .val (.int p5), .val (.ref b823), .val (.ref b884), .val (.ref b919), .val (.int (1 : Int32))] [(.int p3), (.int p2), (.ref b1188), (.ref b1188), (.ref b823)])) (fun t k => ?_) ?_
        · show Steps p.tables e below (T1188.setTop (mkF m 148 #[.val (.int p0), .val (.int p1), .val (.int p2), .val (.int p3), .val (.int p4), .val (.int p5), .val (.ref b823), .val (.ref b884), .val (.ref b919), .val (.int (1 : Int32))] [(.ref b1188), (.ref b823)])) t
          refine XS.dup X1188.here hx rfl (hb hby at_148) rfl rfl ?_
          show Steps p.tables e below (T1188.setTop (mkF m 149 #[.val (.int p0), .val (.int p1), .val (.int p2), .val (.int p3), .val (.int p4), .val (.int p5), .val (.ref b823), .val (.ref b884), .val (.ref b919), .val (.int (1 : Int32))] [(.ref b1188), (.ref b1188), (.ref b823)])) t
          refine XS.iloadN X1188.here hx rfl (hb hby at_149) rfl ?_
          show Steps p.tables e below (T1188.setTop (mkF m 150 #[.val (.int p0), .val (.int p1), .val (.int p2), .val (.int p3), .val (.int p4), .val (.int p5), .val (.ref b823), .val (.ref b884), .val (.ref b919), .val (.int (1 : Int32))] [(.int p2), (.ref b1188), (.ref b1188), (.ref b823)])) t
          refine XS.iloadN X1188.here hx rfl (hb hby at_150) rfl ?_
          exact k
        obtain ⟨_, _, ⟨T1244, L1244, kk1244, nn1244⟩, -, X1244, ⟨Lc1244, hQ1244, l1244, y1244, z1244⟩, st1244⟩ := X1188.specialBack hx (y := (⟨"com/example/dropwire/dropwire/dnd/Point", "<init>", "(II)V"⟩ : MethodName)) rfl hown (mvT hZ (hw _ (List.mem_of_getElem? (i := 63) rfl))) (mvT hZ (hw _ (List.mem_of_getElem? (i := 41) rfl))) (mvT hZ (hw _ (List.mem_of_getElem? (i := 42) rfl))) (by decide) (backOf (W := 2) (ptInit l Z a0 hw [] b1188 p2 p3 (0 : Int32) (0 : Int32) h1188 n0 Z1199 A1188 f1242 f1243 g_b1188) hZ (hw _ (List.mem_of_getElem? (i := 42) rfl)) (hw _ (List.mem_of_getElem? (i := 39) rfl)) (by decide) (by decide)) (g := (mkF m 151 #[.val (.int p0), .val (.int p1), .val (.int p2), .val (.int p3), .val (.int p4), .val (.int p5), .val (.ref b823), .val (.ref b884), .val (.ref b919), .val (.int (1 : Int32))] [(.int p3), (.int p2), (.ref b1188), (.ref b1188), (.ref b823)])) rfl (by rw [hml]; rfl) (Steps.refl _) (a := b1188) (argsL := [(.int p2), (.int p3)]) (rest := [(.ref b1188), (.ref b823)]) (lenOf pd_51 rfl) rfl (by show 2 * 0 + _ ≤ _; exact Nat.le_of_eq rfl) (hb hby at_151) (fun _ _ => ⟨rfl, e1188, (by decide : 12 + 0 ≤ _), (by decide : 39 + 0 ≤ _)⟩)
        dsimp only [Pt.U, Pt.locs, Pt.cells, Pt.slots] at X1244 l1244 y1244 z1244 st1244 hQ1244
        subst l1244 y1244 z1244
        obtain ⟨rfl, N1245, K1246, p1247, p1248, p1249⟩ := hQ1244
        have N1250 := Fr.app N1187 N1245
        have f1251 : Sta Z T1244.heap "java/util/ArrayList" "DEFAULTCAPACITY_EMPTY_ELEMENTDATA" "[Ljava/lang/Object;" (.ref w_s_DEFAULTCAPACITY_EMPTY_ELEMENTDATA) := own_sta_keep f1200 K1246 (allS (own_plain A1188) all0)
        have f1252 : Sta Z T1244.heap "com/example/dropwire/dropwire/dnd/Actions" "NONE" "Lcom/example/dropwire/dropwire/dnd/Actions;" (.ref w_s_NONE) := own_sta_keep f1201 K1246 (allS (own_plain A1188) all0)
        have f1253 : Exa Z T1244.heap b823 "com/example/dropwire/dropwire/inprocess/InProcessPeer" := f1202.keep K1246
        have f1254 : Exa Z T1244.heap b836 "java/util/ArrayList" := f1203.keep K1246
        have f1255 : Fld Z T1244.heap b836 "java/util/ArrayList" "size" "I" (.int (0 : Int32)) := f1204.keep K1246 (ninS ne1190 nin0)
        have f1256 : Fld Z T1244.heap b836 "java/util/AbstractList" "modCount" "I" (.int (0 : Int32)) := f1205.keep K1246 (ninS ne1190 nin0)
        have f1257 : Fld Z T1244.heap b836 "java/util/ArrayList" "elementData" "[Ljava/lang/Object;" (.ref w_s_DEFAULTCAPACITY_EMPTY_ELEMENTDATA) := f1206.keep K1246 (ninS ne1190 nin0)
        have f1258 : Exa Z T1244.heap b837 "java/util/ArrayList" := f1207.keep K1246
        have f1259 : Fld Z T1244.heap b837 "java/util/ArrayList" "size" "I" (.int (0 : Int32)) := f1208.keep K1246 (ninS ne1191 nin0)
        have f1260 : Fld Z T1244.heap b837 "java/util/AbstractList" "modCount" "I" (.int (0 : Int32)) := f1209.keep K1246 (ninS ne1191 nin0)
        have f1261 : Fld Z T1244.heap b837 "java/util/ArrayList" "elementData" "[Ljava/lang/Object;" (.ref w_s_DEFAULTCAPACITY_EMPTY_ELEMENTDATA) := f1210.keep K1246 (ninS ne1191 nin0)
        have f1262 : Exa Z T1244.heap b838 "com/example/dropwire/dropwire/dnd/Point" := f1211.keep K1246
        have f1263 : Fld Z T1244.heap b838 "com/example/dropwire/dropwire/dnd/Point" "x" "I" (.int (0 : Int32)) := f1212.keep K1246 (ninS ne1192 nin0)
        have f1264 : Fld Z T1244.heap b838 "com/example/dropwire/dropwire/dnd/Point" "y" "I" (.int (0 : Int32)) := f1213.keep K1246 (ninS ne1192 nin0)
        have f1265 : Exa Z T1244.heap b884 "com/example/dropwire/dropwire/dnd/Actions" := f1214.keep K1246
        have f1266 : Fld Z T1244.heap b884 "com/example/dropwire/dropwire/dnd/Actions" "bits" "I" (.int ((1 : Int32) <<< (((p4 &&& (2147483647 : Int32)) % (3 : Int32)) &&& 31))) := f1215.keep K1246 (ninS ne1193 nin0)
        have f1267 : Exa Z T1244.heap b919 "com/example/dropwire/dropwire/dnd/Actions" := f1216.keep K1246
        have f1268 : Fld Z T1244.heap b919 "com/example/dropwire/dropwire/dnd/Actions" "bits" "I" (.int ((Jvm.Free.XT.ushr p4 (8 : Int32)) &&& (7 : Int32))) := f1217.keep K1246 (ninS ne1194 nin0)
        have f1269 : Exa Z T1244.heap b956 "com/example/dropwire/dropwire/dnd/DragSource" := f1218.keep K1246
        have f1270 : Exa Z T1244.heap b995 "com/example/dropwire/dropwire/dnd/Point" := f1219.keep K1246
        have f1271 : Fld Z T1244.heap b995 "com/example/dropwire/dropwire/dnd/Point" "x" "I" (.int p0) := f1220.keep K1246 (ninS ne1196 nin0)
        have f1272 : Fld Z T1244.heap b995 "com/example/dropwire/dropwire/dnd/Point" "y" "I" (.int p1) := f1221.keep K1246 (ninS ne1196 nin0)
        have f1273 : Exa Z T1244.heap b1074 "com/example/dropwire/dropwire/dnd/DragGesture" := f1222.keep K1246
        have f1274 : Fld Z T1244.heap b1074 "com/example/dropwire/dropwire/dnd/DragGesture" "peer" "Lcom/example/dropwire/dropwire/dnd/DragSourcePeer;" (.ref b823) := f1223.keep K1246 (ninS ne1197 nin0)
        have f1275 : Fld Z T1244.heap b1074 "com/example/dropwire/dropwire/dnd/DragGesture" "origin" "Lcom/example/dropwire/dropwire/dnd/Point;" (.ref b995) := f1224.keep K1246 (ninS ne1197 nin0)
        have f1276 : Fld Z T1244.heap b1074 "com/example/dropwire/dropwire/dnd/DragGesture" "userAction" "Lcom/example/dropwire/dropwire/dnd/Actions;" (.ref b884) := f1225.keep K1246 (ninS ne1197 nin0)
        have f1277 : Fld Z T1244.heap b956 "com/example/dropwire/dropwire/dnd/DragSource" "current" "Lcom/example/dropwire/dropwire/dnd/DragSourceContext;" (.ref b1125) := f1226.keep K1246 (ninS ne1195 nin0)
        have f1278 : Fld Z T1244.heap b823 "com/example/dropwire/dropwire/inprocess/InProcessPeer" "components" "Ljava/util/List;" (.ref b836) := f1227.keep K1246 (ninS ne1189 nin0)
        have f1279 : Fld Z T1244.heap b823 "com/example/dropwire/dropwire/inprocess/InProcessPeer" "recognizers" "Ljava/util/List;" (.ref b837) := f1228.keep K1246 (ninS ne1189 nin0)
        have f1280 : Fld Z T1244.heap b823 "com/example/dropwire/dropwire/inprocess/InProcessPeer" "recognizing" "Lcom/example/dropwire/dropwire/inprocess/InProcessPeer$Recognizer;" .null := f1229.keep K1246 (ninS ne1189 nin0)
        have f1281 : Fld Z T1244.heap b823 "com/example/dropwire/dropwire/inprocess/InProcessPeer" "under" "Lcom/example/dropwire/dropwire/inprocess/InProcessPeer$Component;" .null := f1230.keep K1246 (ninS ne1189 nin0)
        have f1282 : Fld Z T1244.heap b823 "com/example/dropwire/dropwire/inprocess/InProcessPeer" "visit" "Lcom/example/dropwire/dropwire/dnd/DropTargetVisit;" .null := f1231.keep K1246 (ninS ne1189 nin0)
        have f1283 : Fld Z T1244.heap b823 "com/example/dropwire/dropwire/inprocess/InProcessPeer" "drag" "Lcom/example/dropwire/dropwire/dnd/DragSourceContext;" (.ref b1125) := f1232.keep K1246 (ninS ne1189 nin0)
        have f1284 : Fld Z T1244.heap b823 "com/example/dropwire/dropwire/inprocess/InProcessPeer" "hotspot" "Lcom/example/dropwire/dropwire/dnd/Point;" (.ref b995) := f1233.keep K1246 (ninS ne1189 nin0)
        have f1285 : Fld Z T1244.heap b823 "com/example/dropwire/dropwire/inprocess/InProcessPeer" "plain" "Lcom/example/dropwire/dropwire/dnd/Actions;" (.ref b884) := f1234.keep K1246 (ninS ne1189 nin0)
        have f1286 : Exa Z T1244.heap b1125 "com/example/dropwire/dropwire/dnd/DragSourceContext" := f1235.keep K1246
        have f1287 : Fld Z T1244.heap b1125 "com/example/dropwire/dropwire/dnd/DragSourceContext" "acceptedAction" "Lcom/example/dropwire/dropwire/dnd/Actions;" (.ref w_s_NONE) := f1236.keep K1246 (ninS ne1198 nin0)
        have f1288 : Fld Z T1244.heap b1125 "com/example/dropwire/dropwire/dnd/DragSourceContext" "dragSource" "Lcom/example/dropwire/dropwire/dnd/DragSource;" (.ref b956) := f1237.keep K1246 (ninS ne1198 nin0)
        have f1289 : Fld Z T1244.heap b1125 "com/example/dropwire/dropwire/dnd/DragSourceContext" "transferable" "Lcom/example/dropwire/dropwire/transfer/Transferable;" .null := f1238.keep K1246 (ninS ne1198 nin0)
        have f1290 : Fld Z T1244.heap b1125 "com/example/dropwire/dropwire/dnd/DragSourceContext" "sourceActions" "Lcom/example/dropwire/dropwire/dnd/Actions;" (.ref b919) := f1239.keep K1246 (ninS ne1198 nin0)
        have f1291 : Fld Z T1244.heap b1125 "com/example/dropwire/dropwire/dnd/DragSourceContext" "userAction" "Lcom/example/dropwire/dropwire/dnd/Actions;" (.ref b884) := f1240.keep K1246 (ninS ne1198 nin0)
        have f1292 : Fld Z T1244.heap b1125 "com/example/dropwire/dropwire/dnd/DragSourceContext" "listener" "Lcom/example/dropwire/dropwire/dnd/DragSourceListener;" .null := f1241.keep K1246 (ninS ne1198 nin0)
        have f1293 : Exa Z T1244.heap b1188 "com/example/dropwire/dropwire/dnd/Point" := A1188.keep K1246
        have Z1294 : n0 ≤ T1244.heap.size := Nat.le_trans Z1199 K1246.1
        refine own_goT st1244 ?_
        obtain ⟨cq1295, kq1295, qa1295, qb1295, qc1295⟩ := isOf hZ rfl f1253
        obtain ⟨_, _, ⟨T1295, L1295, kk1295, nn1295⟩, -, X1295, ⟨Lc1295, hQ1295, l1295, y1295, z1295⟩, st1295⟩ := X1244.virtualBack hx (y := (⟨"com/example/dropwire/dropwire/inprocess/InProcessPeer", "moveTo", "(Lcom/example/dropwire/dropwire/dnd/Point;)V"⟩ : MethodName)) (z := (⟨"com/example/dropwire/dropwire/inprocess/InProcessPeer", "moveTo", "(Lcom/example/dropwire/dropwire/dnd/Point;)V"⟩ : MethodName)) hown (mvT hZ (hw _ (List.mem_of_getElem? (i := 64) rfl))) (mvT hZ (hw _ (List.mem_of_getElem? (i := 65) rfl))) (notFace_of_selects (args := #[]) (mvT hZ (hw _ (List.mem_of_getElem? (i := 67) rfl)))) (mvT hZ (hw _ (List.mem_of_getElem? (i := 67) rfl))) (mvT hZ (hw _ (List.mem_of_getElem? (i := 66) rfl))) (by decide) (backOf (W := 0) (moveTo1 l Z a0 hw [] b823 b1188 b836 (.ref b837) (.ref b995) b1125 (.null) (.ref b884) (.null) T1244.heap n0 Z1294 f1253 f1278 f1279 f1284 f1283 f1280 f1285 f1281 f1282 g_b823 f1255 (Ne.symm ne868) f1254) hZ (hw _ (List.mem_of_getElem? (i := 68) rfl)) (hw _ (List.mem_of_getElem? (i := 2) rfl)) (by decide) (by decide)) qa1295 qc1295 (g := (mkF m 154 #[.val (.int p0), .val (.int p1), .val (.int p2), .val (.int p3), .val (.int p4), .val (.int p5), .val (.ref b823), .val (.ref b884), .val (.ref b919), .val (.int (1 : Int32))] [(.ref b1188), (.ref b823)])) rfl (by rw [hml]; rfl) (Steps.refl _) (argsL := [(.ref b1188)]) (rest := []) (lenOf pd_322 rfl) rfl (by show 2 * 0 + _ ≤ _; exact Nat.le_of_eq rfl) (hb hby at_154) (fun _ _ => ⟨rfl, rfl, (by decide : 12 + 0 ≤ _), (by decide : 39 + 0 ≤ _)⟩)
        dsimp only [Pt.U, Pt.locs, Pt.cells, Pt.slots] at X1295 l1295 y1295 z1295 st1295 hQ1295
        subst l1295 y1295 z1295
        obtain ⟨rfl, N1296, K1297, p1298, p1299, p1300, p1301, p1302, p1303, p1304, p1305, p1306⟩ := hQ1295
        have N1307 := Fr.app N1250 N1296
        have f1308 : Sta Z T1295.heap "java/util/ArrayList" "DEFAULTCAPACITY_EMPTY_ELEMENTDATA" "[Ljava/lang/Object;" (.ref w_s_DEFAULTCAPACITY_EMPTY_ELEMENTDATA) := own_sta_keep f1251 K1297 (allS (own_plain f1253) all0)
        have f1309 : Sta Z T1295.heap "com/example/dropwire/dropwire/dnd/Actions" "NONE" "Lcom/example/dropwire/dropwire/dnd/Actions;" (.ref w_s_NONE) := own_sta_keep f1252 K1297 (allS (own_plain f1253) all0)
        have f1310 : Exa Z T1295.heap b823 "com/example/dropwire/dropwire/inprocess/InProcessPeer" := f1253.keep K1297
        have f1311 : Exa Z T1295.heap b836 "java/util/ArrayList" := f1254.keep K1297
        have f1312 : Fld Z T1295.heap b836 "java/util/ArrayList" "size" "I" (.int (0 : Int32)) := f1255.keep K1297 (ninS (Ne.symm ne868) nin0)
        have f1313 : Fld Z T1295.heap b836 "java/util/AbstractList" "modCount" "I" (.int (0 : Int32)) := f1256.keep K1297 (ninS (Ne.symm ne868) nin0)
        have f1314 : Fld Z T1295.heap b836 "java/util/ArrayList" "elementData" "[Ljava/lang/Object;" (.ref w_s_DEFAULTCAPACITY_EMPTY_ELEMENTDATA) := f1257.keep K1297 (ninS (Ne.symm ne868) nin0)
        have f1315 : Exa Z T1295.heap b837 "java/util/ArrayList" := f1258.keep K1297
        have f1316 : Fld Z T1295.heap b837 "java/util/ArrayList" "size" "I" (.int (0 : Int32)) := f1259.keep K1297 (ninS (Ne.symm ne869) nin0)
        have f1317 : Fld Z T1295.heap b837 "java/util/AbstractList" "modCount" "I" (.int (0 : Int32)) := f1260.keep K1297 (ninS (Ne.symm ne869) nin0)
        have f1318 : Fld Z T1295.heap b837 "java/util/ArrayList" "elementData" "[Ljava/lang/Object;" (.ref w_s_DEFAULTCAPACITY_EMPTY_ELEMENTDATA) := f1261.keep K1297 (ninS (Ne.symm ne869) nin0)
        have f1319 : Exa Z T1295.heap b838 "com/example/dropwire/dropwire/dnd/Point" := f1262.keep K1297
        have f1320 : Fld Z T1295.heap b838 "com/example/dropwire/dropwire/dnd/Point" "x" "I" (.int (0 : Int32)) := f1263.keep K1297 (ninS (Ne.symm ne870) nin0)
        have f1321 : Fld Z T1295.heap b838 "com/example/dropwire/dropwire/dnd/Point" "y" "I" (.int (0 : Int32)) := f1264.keep K1297 (ninS (Ne.symm ne870) nin0)
        have f1322 : Exa Z T1295.heap b884 "com/example/dropwire/dropwire/dnd/Actions" := f1265.keep K1297
        have f1323 : Fld Z T1295.heap b884 "com/example/dropwire/dropwire/dnd/Actions" "bits" "I" (.int ((1 : Int32) <<< (((p4 &&& (2147483647 : Int32)) % (3 : Int32)) &&& 31))) := f1266.keep K1297 (ninS (Ne.symm ne891) nin0)
        have f1324 : Exa Z T1295.heap b919 "com/example/dropwire/dropwire/dnd/Actions" := f1267.keep K1297
        have f1325 : Fld Z T1295.heap b919 "com/example/dropwire/dropwire/dnd/Actions" "bits" "I" (.int ((Jvm.Free.XT.ushr p4 (8 : Int32)) &&& (7 : Int32))) := f1268.keep K1297 (ninS (Ne.symm ne926) nin0)
        have f1326 : Exa Z T1295.heap b956 "com/example/dropwire/dropwire/dnd/DragSource" := f1269.keep K1297
        have f1327 : Exa Z T1295.heap b995 "com/example/dropwire/dropwire/dnd/Point" := f1270.keep K1297
        have f1328 : Fld Z T1295.heap b995 "com/example/dropwire/dropwire/dnd/Point" "x" "I" (.int p0) := f1271.keep K1297 (ninS (Ne.symm ne996) nin0)
        have f1329 : Fld Z T1295.heap b995 "com/example/dropwire/dropwire/dnd/Point" "y" "I" (.int p1) := f1272.keep K1297 (ninS (Ne.symm ne996) nin0)
        have f1330 : Exa Z T1295.heap b1074 "com/example/dropwire/dropwire/dnd/DragGesture" := f1273.keep K1297
        have f1331 : Fld Z T1295.heap b1074 "com/example/dropwire/dropwire/dnd/DragGesture" "peer" "Lcom/example/dropwire/dropwire/dnd/DragSourcePeer;" (.ref b823) := f1274.keep K1297 (ninS (Ne.symm ne1083) nin0)
        have f1332 : Fld Z T1295.heap b1074 "com/example/dropwire/dropwire/dnd/DragGesture" "origin" "Lcom/example/dropwire/dropwire/dnd/Point;" (.ref b995) := f1275.keep K1297 (ninS (Ne.symm ne1083) nin0)
        have f1333 : Fld Z T1295.heap b1074 "com/example/dropwire/dropwire/dnd/DragGesture" "userAction" "Lcom/example/dropwire/dropwire/dnd/Actions;" (.ref b884) := f1276.keep K1297 (ninS (Ne.symm ne1083) nin0)
        have f1334 : Fld Z T1295.heap b956 "com/example/dropwire/dropwire/dnd/DragSource" "current" "Lcom/example/dropwire/dropwire/dnd/DragSourceContext;" (.ref b1125) := f1277.keep K1297 (ninS (Ne.symm ne957) nin0)
        have f1335 : Exa Z T1295.heap b1125 "com/example/dropwire/dropwire/dnd/DragSourceContext" := f1286.keep K1297
        have f1336 : Fld Z T1295.heap b1125 "com/example/dropwire/dropwire/dnd/DragSourceContext" "acceptedAction" "Lcom/example/dropwire/dropwire/dnd/Actions;" (.ref w_s_NONE) := f1287.keep K1297 (ninS (Ne.symm ne1148) nin0)
        have f1337 : Fld Z T1295.heap b1125 "com/example/dropwire/dropwire/dnd/DragSourceContext" "dragSource" "Lcom/example/dropwire/dropwire/dnd/DragSource;" (.ref b956) := f1288.keep K1297 (ninS (Ne.symm ne1148) nin0)
        have f1338 : Fld Z T1295.heap b1125 "com/example/dropwire/dropwire/dnd/DragSourceContext" "transferable" "Lcom/example/dropwire/dropwire/transfer/Transferable;" .null := f1289.keep K1297 (ninS (Ne.symm ne1148) nin0)
        have f1339 : Fld Z T1295.heap b1125 "com/example/dropwire/dropwire/dnd/DragSourceContext" "sourceActions" "Lcom/example/dropwire/dropwire/dnd/Actions;" (.ref b919) := f1290.keep K1297 (ninS (Ne.symm ne1148) nin0)
        have f1340 : Fld Z T1295.heap b1125 "com/example/dropwire/dropwire/dnd/DragSourceContext" "userAction" "Lcom/example/dropwire/dropwire/dnd/Actions;" (.ref b884) := f1291.keep K1297 (ninS (Ne.symm ne1148) nin0)
        have f1341 : Fld Z T1295.heap b1125 "com/example/dropwire/dropwire/dnd/DragSourceContext" "listener" "Lcom/example/dropwire/dropwire/dnd/DragSourceListener;" .null := f1292.keep K1297 (ninS (Ne.symm ne1148) nin0)
        have f1342 : Exa Z T1295.heap b1188 "com/example/dropwire/dropwire/dnd/Point" := p1247.keep K1297
        have f1343 : Fld Z T1295.heap b1188 "com/example/dropwire/dropwire/dnd/Point" "x" "I" (.int p2) := p1248.keep K1297 (ninS (Ne.symm ne1189) nin0)
        have f1344 : Fld Z T1295.heap b1188 "com/example/dropwire/dropwire/dnd/Point" "y" "I" (.int p3) := p1249.keep K1297 (ninS (Ne.symm ne1189) nin0)
        have Z1345 : n0 ≤ T1295.heap.size := Nat.le_trans Z1294 K1297.1
        refine own_goT st1295 ?_
        refine own_go (S' := T1295.setTop (mkF m 164 #[.val (.int p0), .val (.int p1), .val (.int p2), .val (.int p3), .val (.int p4), .val (.int p5), .val (.ref b823), .val (.ref b884), .val (.ref b919), .val (.int (1 : Int32))] [(.ref b823)])) (fun t k => ?_) ?_
        · show Steps p.tables e below (T1295.setTop (mkF m 157 #[.val (.int p0), .val (.int p1), .val (.int p2), .val (.int p3), .val (.int p4), .val (.int p5), .val (.ref b823), .val (.ref b884), .val (.ref b919), .val (.int (1 : Int32))] [])) t
          refine XS.iload X1295.here hx rfl (hb hby at_157) rfl ?_
          show Steps p.tables e below (T1295.setTop (mkF m 159 #[.val (.int p0), .val (.int p1), .val (.int p2), .val (.int p3), .val (.int p4), .val (.int p5), .val (.ref b823), .val (.ref b884), .val (.ref b919), .val (.int (1 : Int32))] [(.int (1 : Int32))])) t
          refine XS.ifNo X1295.here hx rfl (hb hby at_159) rfl ((if0 _ _).trans (feq (by decide)).1) ?_
          show Steps p.tables e below (T1295.setTop (mkF m 162 #[.val (.int p0), .val (.int p1), .val (.int p2), .val (.int p3), .val (.int p4), .val (.int p5), .val (.ref b823), .val (.ref b884), .val (.ref b919), .val (.int (1 : Int32))] [])) t
          refine XS.aload X1295.here hx rfl (hb hby at_162) rfl rfl ?_
          exact k
        obtain ⟨cq1346, kq1346, qa1346, qb1346, qc1346⟩ := isOf hZ rfl p1298
        obtain ⟨_, _, ⟨T1346, L1346, kk1346, nn1346⟩, -, X1346, ⟨Lc1346, hQ1346, l1346, y1346, z1346⟩, st1346⟩ := X1295.virtualBack hx (y := (⟨"com/example/dropwire/dropwire/inprocess/InProcessPeer", "isDragging", "()Z"⟩ : MethodName)) (z := (⟨"com/example/dropwire/dropwire/inprocess/InProcessPeer", "isDragging", "()Z"⟩ : MethodName)) hown (mvT hZ (hw _ (List.mem_of_getElem? (i := 55) rfl))) (mvT hZ (hw _ (List.mem_of_getElem? (i := 56) rfl))) (notFace_of_selects (args := #[]) (mvT hZ (hw _ (List.mem_of_getElem? (i := 58) rfl)))) (mvT hZ (hw _ (List.mem_of_getElem? (i := 58) rfl))) (mvT hZ (hw _ (List.mem_of_getElem? (i := 57) rfl))) (by decide) (backOf (W := 0) (isDrag1 l Z a0 hw [] b823 b1125 T1295.heap n0 Z1345 p1301) hZ (hw _ (List.mem_of_getElem? (i := 59) rfl)) (hw _ (List.mem_of_getElem? (i := 2) rfl)) (by decide) (by decide)) qa1346 qc1346 (g := (mkF m 164 #[.val (.int p0), .val (.int p1), .val (.int p2), .val (.int p3), .val (.int p4), .val (.int p5), .val (.ref b823), .val (.ref b884), .val (.ref b919), .val (.int (1 : Int32))] [(.ref b823)])) rfl (by rw [hml]; rfl) (Steps.refl _) (argsL := []) (rest := []) (lenOf pd_280 rfl) rfl (by show 2 * 0 + _ ≤ _; exact Nat.le_of_eq rfl) (hb hby at_164) (fun _ _ => ⟨rfl, rfl, (by decide : 12 + 0 ≤ _), (by decide : 39 + 0 ≤ _)⟩)
        dsimp only [Pt.U, Pt.locs, Pt.cells, Pt.slots] at X1346 l1346 y1346 z1346 st1346 hQ1346
        subst l1346 y1346 z1346
        obtain ⟨rfl, N1347, e1346⟩ := hQ1346
        have N1349 := Fr.app N1307 N1347
        refine own_goT st1346 ?_
        refine own_go (S' := T1346.setTop (mkF m 179 #[.val (.int p0), .val (.int p1), .val (.int p2), .val (.int p3), .val (.int p4), .val (.int p5), .val (.ref b823), .val (.ref b884), .val (.ref b919), .val (.int (1 : Int32))] [(.int (1 : Int32))])) (fun t k => ?_) ?_
        · show Steps p.tables e below (T1346.setTop (mkF m 167 #[.val (.int p0), .val (.int p1), .val (.int p2), .val (.int p3), .val (.int p4), .val (.int p5), .val (.ref b823), .val (.ref b884), .val (.ref b919), .val (.int (1 : Int32))] [(.int (1 : Int32))])) t
          refine XS.ifNo X1346.here hx rfl (hb hby at_167) rfl ((if0 _ _).trans (feq (by decide)).1) ?_
          show Steps p.tables e below (T1346.setTop (mkF m 170 #[.val (.int p0), .val (.int p1), .val (.int p2), .val (.int p3), .val (.int p4), .val (.int p5), .val (.ref b823), .val (.ref b884), .val (.ref b919), .val (.int (1 : Int32))] [])) t
          refine XS.iconst X1346.here hx rfl (hb hby at_170) ?_
          show Steps p.tables e below (T1346.setTop (mkF m 171 #[.val (.int p0), .val (.int p1), .val (.int p2), .val (.int p3), .val (.int p4), .val (.int p5), .val (.ref b823), .val (.ref b884), .val (.ref b919), .val (.int (1 : Int32))] [(.int (1 : Int32))])) t
          refine XS.goto X1346.here hx rfl (pc0 := 171) (pc' := 175) rfl (hb hby at_171) (by decide) (by decide) ?_
          show Steps p.tables e below (T1346.setTop (mkF m 175 #[.val (.int p0), .val (.int p1), .val (.int p2), .val (.int p3), .val (.int p4), .val (.int p5), .val (.ref b823), .val (.ref b884), .val (.ref b919), .val (.int (1 : Int32))] [(.int (1 : Int32))])) t
          refine XS.istore X1346.here hx rfl (hb hby at_175) rfl (l' := #[.val (.int p0), .val (.int p1), .val (.int p2), .val (.int p3), .val (.int p4), .val (.int p5), .val (.ref b823), .val (.ref b884), .val (.ref b919), .val (.int (1 : Int32))]) rfl ?_
          show Steps p.tables e below (T1346.setTop (mkF m 177 #[.val (.int p0), .val (.int p1), .val (.int p2), .val (.int p3), .val (.int p4), .val (.int p5), .val (.ref b823), .val (.ref b884), .val (.ref b919), .val (.int (1 : Int32))] [])) t
          refine XS.iload X1346.here hx rfl (hb hby at_177) rfl ?_
          exact k
        obtain ⟨fs, hr, hrun, hended, hW, hsame⟩ := X1346.leave (v := some (.int (1 : Int32))) (fun h => by rw [Bd.returns] at h; cases h)
        refine own_end (v := some (.int (1 : Int32))) ?_ hrun hended ?_ hW (hsame.mono (by decide) (by decide))
        · show Steps p.tables e below (T1346.setTop (mkF m 179 #[.val (.int p0), .val (.int p1), .val (.int p2), .val (.int p3), .val (.int p4), .val (.int p5), .val (.ref b823), .val (.ref b884), .val (.ref b919), .val (.int (1 : Int32))] [(.int (1 : Int32))])) _
          exact retN X1346 hx (t := .boolean) Bd.returns (by simp) (hb hby at_179) hr
        · show Qrm0 Z p0 p1 p2 p3 p4 p5 w_s_DEFAULTCAPACITY_EMPTY_ELEMENTDATA w_s_NONE h0 n0 _ T1346.heap _
          rw [e1346]
          exact ⟨rfl, N1349⟩
  · skip
    refine own_go (S' := T875.setTop (mkF m 28 #[.val (.int p0), .val (.int p1), .val (.int p2), .val (.int p3), .val (.int p4), .val (.int p5), .val (.ref b823), .unset, .unset, .unset] [(.ref b823)])) (fun t k => ?_) ?_
    · show Steps p.tables e below (T875.setTop (mkF m 23 #[.val (.int p0), .val (.int p1), .val (.int p2), .val (.int p3), .val (.int p4), .val (.int p5), .val (.ref b823), .unset, .unset, .unset] [(.int (p5 &&& (2 : Int32)))])) t
      refine XS.ifNo X875.here hx rfl (hb hby at_23) rfl ((if0 _ _).trans (feq hc23).1) ?_
      show Steps p.tables e below (T875.setTop (mkF m 26 #[.val (.int p0), .val (.int p1), .val (.int p2), .val (.int p3), .val (.int p4), .val (.int p5), .val (.ref b823), .unset, .unset, .unset] [])) t
      refine XS.aload X875.here hx rfl (hb hby at_26) rfl rfl ?_
      exact k
    obtain ⟨T1350, h1350, X1350, e1350, E1350, A1350, D1350, -, st1350⟩ := newO X875 hx hZ hown (hw _ (List.mem_of_getElem? (i := 62) rfl)) (hw _ (List.mem_of_getElem? (i := 38) rfl)) (hw _ (List.mem_of_getElem? (i := 39) rfl)) e875 (g := (mkF m 28 #[.val (.int p0), .val (.int p1), .val (.int p2), .val (.int p3), .val (.int p4), .val (.int p5), .val (.ref b823), .unset, .unset, .unset] [(.ref b823)])) rfl (hb hby at_28) (by decide) (by decide)
    obtain ⟨b1350, g1350⟩ : ∃ z, z = T835.heap.size := ⟨_, rfl⟩
    rw [← g1350] at A1350 D1350 st1350
    have ne1351 : b823 ≠ b1350 := Nat.ne_of_lt (Nat.lt_of_lt_of_le p847.lt (Nat.le_of_eq g1350.symm))
    have ne1352 : b836 ≠ b1350 := Nat.ne_of_lt (Nat.lt_of_lt_of_le p856.lt (Nat.le_of_eq g1350.symm))
    have ne1353 : b837 ≠ b1350 := Nat.ne_of_lt (Nat.lt_of_lt_of_le p860.lt (Nat.le_of_eq g1350.symm))
    have ne1354 : b838 ≠ b1350 := Nat.ne_of_lt (Nat.lt_of_lt_of_le p864.lt (Nat.le_of_eq g1350.symm))
    have g_b1350 : n0 ≤ b1350 := Nat.le_trans Z874 (Nat.le_of_eq g1350.symm)
    have Z1355 : n0 ≤ h1350.size := Nat.le_trans Z874 E1350.1
    have f1356 : Sta Z h1350 "java/util/ArrayList" "DEFAULTCAPACITY_EMPTY_ELEMENTDATA" "[Ljava/lang/Object;" (.ref w_s_DEFAULTCAPACITY_EMPTY_ELEMENTDATA) := Sta.ext E1350 f871
    have f1357 : Sta Z h1350 "com/example/dropwire/dropwire/dnd/Actions" "NONE" "Lcom/example/dropwire/dropwire/dnd/Actions;" (.ref w_s_NONE) := Sta.ext E1350 f872
    have f1358 : Exa Z h1350 b823 "com/example/dropwire/dropwire/inprocess/InProcessPeer" := Exa.ext E1350 p847
    have f1359 : Fld Z h1350 b823 "com/example/dropwire/dropwire/inprocess/InProcessPeer" "drag" "Lcom/example/dropwire/dropwire/dnd/DragSourceContext;" .null := Fld.ext E1350 p848
    have f1360 : Fld Z h1350 b823 "com/example/dropwire/dropwire/inprocess/InProcessPeer" "recognizing" "Lcom/example/dropwire/dropwire/inprocess/InProcessPeer$Recognizer;" .null := Fld.ext E1350 p849
    have f1361 : Fld Z h1350 b823 "com/example/dropwire/dropwire/inprocess/InProcessPeer" "plain" "Lcom/example/dropwire/dropwire/dnd/Actions;" .null := Fld.ext E1350 p850
    have f1362 : Fld Z h1350 b823 "com/example/dropwire/dropwire/inprocess/InProcessPeer" "under" "Lcom/example/dropwire/dropwire/inprocess/InProcessPeer$Component;" .null := Fld.ext E1350 p851
    have f1363 : Fld Z h1350 b823 "com/example/dropwire/dropwire/inprocess/InProcessPeer" "visit" "Lcom/example/dropwire/dropwire/dnd/DropTargetVisit;" .null := Fld.ext E1350 p852
    have f1364 : Fld Z h1350 b823 "com/example/dropwire/dropwire/inprocess/InProcessPeer" "components" "Ljava/util/List;" (.ref b836) := Fld.ext E1350 p853
    have f1365 : Fld Z h1350 b823 "com/example/dropwire/dropwire/inprocess/InProcessPeer" "recognizers" "Ljava/util/List;" (.ref b837) := Fld.ext E1350 p854
    have f1366 : Fld Z h1350 b823 "com/example/dropwire/dropwire/inprocess/InProcessPeer" "hotspot" "Lcom/example/dropwire/dropwire/dnd/Point;" (.ref b838) := Fld.ext E1350 p855
    have f1367 : Exa Z h1350 b836 "java/util/ArrayList" := Exa.ext E1350 p856
    have f1368 : Fld Z h1350 b836 "java/util/ArrayList" "size" "I" (.int (0 : Int32)) := Fld.ext E1350 p857
    have f1369 : Fld Z h1350 b836 "java/util/AbstractList" "modCount" "I" (.int (0 : Int32)) := Fld.ext E1350 p858
    have f1370 : Fld Z h1350 b836 "java/util/ArrayList" "elementData" "[Ljava/lang/Object;" (.ref w_s_DEFAULTCAPACITY_EMPTY_ELEMENTDATA) := Fld.ext E1350 p859
    have f1371 : Exa Z h1350 b837 "java/util/ArrayList" := Exa.ext E1350 p860
    have f1372 : Fld Z h1350 b837 "java/util/ArrayList" "size" "I" (.int (0 : Int32)) := Fld.ext E1350 p861
    have f1373 : Fld Z h1350 b837 "java/util/AbstractList" "modCount" "I" (.int (0 : Int32)) := Fld.ext E1350 p862
    have f1374 : Fld Z h1350 b837 "java/util/ArrayList" "elementData" "[Ljava/lang/Object;" (.ref w_s_DEFAULTCAPACITY_EMPTY_ELEMENTDATA) := Fld.ext E1350 p863
    have f1375 : Exa Z h1350 b838 "com/example/dropwire/dropwire/dnd/Point" := Exa.ext E1350 p864
    have f1376 : Fld Z h1350 b838 "com/example/dropwire/dropwire/dnd/Point" "x" "I" (.int (0 : Int32)) := Fld.ext E1350 p865
    have f1377 : Fld Z h1350 b838 "com/example/dropwire/dropwire/dnd/Point" "y" "I" (.int (0 : Int32)) := Fld.ext E1350 p866
    have f1378 : Fld Z h1350 b1350 "com/example/dropwire/dropwire/dnd/Point" "x" "I" (.int (0 : Int32)) := D1350 (Or.inr (hw _ (List.mem_of_getElem? (i := 50) rfl))) (ty := .int) (by decide)
    have f1379 : Fld Z h1350 b1350 "com/example/dropwire/dropwire/dnd/Point" "y" "I" (.int (0 : Int32)) := D1350 (Or.inr (hw _ (List.mem_of_getElem? (i := 52) rfl))) (ty := .int) (by decide)
    refine own_go st1350 ?_
    refine own_go (S' := T1350.setTop (mkF m 34 #[.val (.int p0), .val (.int p1), .val (.int p2), .val (.int p3), .val (.int p4), .val (.int p5), .val (.ref b823), .unset, .unset, .unset] [(.int p3), (.int p2), (.ref b1350), (.ref b1350), (.ref b823)])) (fun t k => ?_) ?_
    · show Steps p.tables e below (T1350.setTop (mkF m 31 #[.val (.int p0), .val (.int p1), .val (.int p2), .val (.int p3), .val (.int p4), .val (.int p5), .val (.ref b823), .unset, .unset, .unset] [(.ref b1350), (.ref b823)])) t
      refine XS.dup X1350.here hx rfl (hb hby at_31) rfl rfl ?_
      show Steps p.tables e below (T1350.setTop (mkF m 32 #[.val (.int p0), .val (.int p1), .val (.int p2), .val (.int p3), .val (.int p4), .val (.int p5), .val (.ref b823), .unset, .unset, .unset] [(.ref b1350), (.ref b1350), (.ref b823)])) t
      refine XS.iloadN X1350.here hx rfl (hb hby at_32) rfl ?_
      show Steps p.tables e below (T1350.setTop (mkF m 33 #[.val (.int p0), .val (.int p1), .val (.int p2), .val (.int p3), .val (.int p4), .val (.int p5), .val (.ref b823), .unset, .unset, .unset] [(.int p2), (.ref b1350), (.ref b1350), (.ref b823)])) t
      refine XS.iloadN X1350.here hx rfl (hb hby at_33) rfl ?_
      exact k
    obtain ⟨_, _, ⟨T1380, L1380, kk1380, nn1380⟩, -, X1380, ⟨Lc1380, hQ1380, l1380, y1380, z1380⟩, st1380⟩ := X1350.specialBack hx (y := (⟨"com/example/dropwire/dropwire/dnd/Point", "<init>", "(II)V"⟩ : MethodName)) rfl hown (mvT hZ (hw _ (List.mem_of_getElem? (i := 63) rfl))) (mvT hZ (hw _ (List.mem_of_getElem? (i := 41) rfl))) (mvT hZ (hw _ (List.mem_of_getElem? (i := 42) rfl))) (by decide) (backOf (W := 2) (ptInit l Z a0 hw [] b1350 p2 p3 (0 : Int32) (0 : Int32) h1350 n0 Z1355 A1350 f1378 f1379 g_b1350) hZ (hw _ (List.mem_of_getElem? (i := 42) rfl)) (hw _ (List.mem_of_getElem? (i := 39) rfl)) (by decide) (by decide)) (g := (mkF m 34 #[.val (.int p0), .val (.int p1), .val (.int p2), .val (.int p3), .val (.int p4), .val (.int p5), .val (.ref b823), .unset, .unset, .unset] [(.int p3), (.int p2), (.ref b1350), (.ref b1350), (.ref b823)])) rfl (by rw [hml]; rfl) (Steps.refl _) (a := b1350) (argsL := [(.int p2), (.int p3)]) (rest := [(.ref b1350), (.ref b823)]) (lenOf pd_51 rfl) rfl (by show 2 * 0 + _ ≤ _; exact Nat.le_of_eq rfl) (hb hby at_34) (fun _ _ => ⟨rfl, e1350, (by decide : 5 + 0 ≤ _), (by decide : 18 + 0 ≤ _)⟩)
    dsimp only [Pt.U, Pt.locs, Pt.cells, Pt.slots] at X1380 l1380 y1380 z1380 st1380 hQ1380
    subst l1380 y1380 z1380
    obtain ⟨rfl, N1381, K1382, p1383, p1384, p1385⟩ := hQ1380
    have N1386 := Fr.app N878 N1381
    have f1387 : Sta Z T1380.heap "java/util/ArrayList" "DEFAULTCAPACITY_EMPTY_ELEMENTDATA" "[Ljava/lang/Object;" (.ref w_s_DEFAULTCAPACITY_EMPTY_ELEMENTDATA) := own_sta_keep f1356 K1382 (allS (own_plain A1350) all0)
    have f1388 : Sta Z T1380.heap "com/example/dropwire/dropwire/dnd/Actions" "NONE" "Lcom/example/dropwire/dropwire/dnd/Actions;" (.ref w_s_NONE) := own_sta_keep f1357 K1382 (allS (own_plain A1350) all0)
    have f1389 : Exa Z T1380.heap b823 "com/example/dropwire/dropwire/inprocess/InProcessPeer" := f1358.keep K1382
    have f1390 : Fld Z T1380.heap b823 "com/example/dropwire/dropwire/inprocess/InProcessPeer" "drag" "Lcom/example/dropwire/dropwire/dnd/DragSourceContext;" .null := f1359.keep K1382 (ninS ne1351 nin0)
    have f1391 : Fld Z T1380.heap b823 "com/example/dropwire/dropwire/inprocess/InProcessPeer" "recognizing" "Lcom/example/dropwire/dropwire/inprocess/InProcessPeer$Recognizer;" .null := f1360.keep K1382 (ninS ne1351 nin0)
    have f1392 : Fld Z T1380.heap b823 "com/example/dropwire/dropwire/inprocess/InProcessPeer" "plain" "Lcom/example/dropwire/dropwire/dnd/Actions;" .null := f1361.keep K1382 (ninS ne1351 nin0)
    have f1393 : Fld Z T1380.heap b823 "com/example/dropwire/dropwire/inprocess/InProcessPeer" "under" "Lcom/example/dropwire/dropwire/inprocess/InProcessPeer$Component;" .null := f1362.keep K1382 (ninS ne1351 nin0)
    have f1394 : Fld Z T1380.heap b823 "com/example/dropwire/dropwire/inprocess/InProcessPeer" "visit" "Lcom/example/dropwire/dropwire/dnd/DropTargetVisit;" .null := f1363.keep K1382 (ninS ne1351 nin0)
    have f1395 : Fld Z T1380.heap b823 "com/example/dropwire/dropwire/inprocess/InProcessPeer" "components" "Ljava/util/List;" (.ref b836) := f1364.keep K1382 (ninS ne1351 nin0)
    have f1396 : Fld Z T1380.heap b823 "com/example/dropwire/dropwire/inprocess/InProcessPeer" "recognizers" "Ljava/util/List;" (.ref b837) := f1365.keep K1382 (ninS ne1351 nin0)
    have f1397 : Fld Z T1380.heap b823 "com/example/dropwire/dropwire/inprocess/InProcessPeer" "hotspot" "Lcom/example/dropwire/dropwire/dnd/Point;" (.ref b838) := f1366.keep K1382 (ninS ne1351 nin0)
    have f1398 : Exa Z T1380.heap b836 "java/util/ArrayList" := f1367.keep K1382
    have f1399 : Fld Z T1380.heap b836 "java/util/ArrayList" "size" "I" (.int (0 : Int32)) := f1368.keep K1382 (ninS ne1352 nin0)
    have f1400 : Fld Z T1380.heap b836 "java/util/AbstractList" "modCount" "I" (.int (0 : Int32)) := f1369.keep K1382 (ninS ne1352 nin0)
    have f1401 : Fld Z T1380.heap b836 "java/util/ArrayList" "elementData" "[Ljava/lang/Object;" (.ref w_s_DEFAULTCAPACITY_EMPTY_ELEMENTDATA) := f1370.keep K1382 (ninS ne1352 nin0)
    have f1402 : Exa Z T1380.heap b837 "java/util/ArrayList" := f1371.keep K1382
    have f1403 : Fld Z T1380.heap b837 "java/util/ArrayList" "size" "I" (.int (0 : Int32)) := f1372.keep K1382 (ninS ne1353 nin0)
    have f1404 : Fld Z T1380.heap b837 "java/util/AbstractList" "modCount" "I" (.int (0 : Int32)) := f1373.keep K1382 (ninS ne1353 nin0)
    have f1405 : Fld Z T1380.heap b837 "java/util/ArrayList" "elementData" "[Ljava/lang/Object;" (.ref w_s_DEFAULTCAPACITY_EMPTY_ELEMENTDATA) := f1374.keep K1382 (ninS ne1353 nin0)
    have f1406 : Exa Z T1380.heap b838 "com/example/dropwire/dropwire/dnd/Point" := f1375.keep K1382
    have f1407 : Fld Z T1380.heap b838 "com/example/dropwire/dropwire/dnd/Point" "x" "I" (.int (0 : Int32)) := f1376.keep K1382 (ninS ne1354 nin0)
    have f1408 : Fld Z T1380.heap b838 "com/example/dropwire/dropwire/dnd/Point" "y" "I" (.int (0 : Int32)) := f1377.keep K1382 (ninS ne1354 nin0)
    have f1409 : Exa Z T1380.heap b1350 "com/example/dropwire/dropwire/dnd/Point" := A1350.keep K1382
    have Z1410 : n0 ≤ T1380.heap.size := Nat.le_trans Z1355 K1382.1
    refine own_goT st1380 ?_
    obtain ⟨cq1411, kq1411, qa1411, qb1411, qc1411⟩ := isOf hZ rfl f1389
    obtain ⟨_, _, ⟨T1411, L1411, kk1411, nn1411⟩, -, X1411, ⟨Lc1411, hQ1411, l1411, y1411, z1411⟩, st1411⟩ := X1380.virtualBack hx (y := (⟨"com/example/dropwire/dropwire/inprocess/InProcessPeer", "moveTo", "(Lcom/example/dropwire/dropwire/dnd/Point;)V"⟩ : MethodName)) (z := (⟨"com/example/dropwire/dropwire/inprocess/InProcessPeer", "moveTo", "(Lcom/example/dropwire/dropwire/dnd/Point;)V"⟩ : MethodName)) hown (mvT hZ (hw _ (List.mem_of_getElem? (i := 64) rfl))) (mvT hZ (hw _ (List.mem_of_getElem? (i := 65) rfl))) (notFace_of_selects (args := #[]) (mvT hZ (hw _ (List.mem_of_getElem? (i := 67) rfl)))) (mvT hZ (hw _ (List.mem_of_getElem? (i := 67) rfl))) (mvT hZ (hw _ (List.mem_of_getElem? (i := 66) rfl))) (by decide) (backOf (W := 0) (moveTo0 l Z a0 hw [] b823 b1350 (.ref b836) (.ref b837) (.ref b838) (.null) (.null) (.null) (.null) T1380.heap n0 Z1410 f1389 f1395 f1396 f1397 f1390 f1391 f1392 f1393 f1394 g_b823) hZ (hw _ (List.mem_of_getElem? (i := 68) rfl)) (hw _ (List.mem_of_getElem? (i := 2) rfl)) (by decide) (by decide)) qa1411 qc1411 (g := (mkF m 37 #[.val (.int p0), .val (.int p1), .val (.int p2), .val (.int p3), .val (.int p4), .val (.int p5), .val (.ref b823), .unset, .unset, .unset] [(.ref b1350), (.ref b823)])) rfl (by rw [hml]; rfl) (Steps.refl _) (argsL := [(.ref b1350)]) (rest := []) (lenOf pd_322 rfl) rfl (by show 2 * 0 + _ ≤ _; exact Nat.le_of_eq rfl) (hb hby at_37) (fun _ _ => ⟨rfl, rfl, (by decide : 5 + 0 ≤ _), (by decide : 18 + 0 ≤ _)⟩)
    dsimp only [Pt.U, Pt.locs, Pt.cells, Pt.slots] at X1411 l1411 y1411 z1411 st1411 hQ1411
    subst l1411 y1411 z1411
    obtain ⟨rfl, N1412, K1413, p1414, p1415, p1416, p1417, p1418, p1419, p1420, p1421, p1422⟩ := hQ1411
    have N1423 := Fr.app N1386 N1412
    have f1424 : Sta Z T1411.heap "java/util/ArrayList" "DEFAULTCAPACITY_EMPTY_ELEMENTDATA" "[Ljava/lang/Object;" (.ref w_s_DEFAULTCAPACITY_EMPTY_ELEMENTDATA) := own_sta_keep f1387 K1413 (allS (own_plain f1389) all0)
    have f1425 : Sta Z T1411.heap "com/example/dropwire/dropwire/dnd/Actions" "NONE" "Lcom/example/dropwire/dropwire/dnd/Actions;" (.ref w_s_NONE) := own_sta_keep f1388 K1413 (allS (own_plain f1389) all0)
    have f1426 : Exa Z T1411.heap b823 "com/example/dropwire/dropwire/inprocess/InProcessPeer" := f1389.keep K1413
    have f1427 : Exa Z T1411.heap b836 "java/util/ArrayList" := f1398.keep K1413
    have f1428 : Fld Z T1411.heap b836 "java/util/ArrayList" "size" "I" (.int (0 : Int32)) := f1399.keep K1413 (ninS (Ne.symm ne868) nin0)
    have f1429 : Fld Z T1411.heap b836 "java/util/AbstractList" "modCount" "I" (.int (0 : Int32)) := f1400.keep K1413 (ninS (Ne.symm ne868) nin0)
    have f1430 : Fld Z T1411.heap b836 "java/util/ArrayList" "elementData" "[Ljava/lang/Object;" (.ref w_s_DEFAULTCAPACITY_EMPTY_ELEMENTDATA) := f1401.keep K1413 (ninS (Ne.symm ne868) nin0)
    have f1431 : Exa Z T1411.heap b837 "java/util/ArrayList" := f1402.keep K1413
    have f1432 : Fld Z T1411.heap b837 "java/util/ArrayList" "size" "I" (.int (0 : Int32)) := f1403.keep K1413 (ninS (Ne.symm ne869) nin0)
    have f1433 : Fld Z T1411.heap b837 "java/util/AbstractList" "modCount" "I" (.int (0 : Int32)) := f1404.keep K1413 (ninS (Ne.symm ne869) nin0)
    have f1434 : Fld Z T1411.heap b837 "java/util/ArrayList" "elementData" "[Ljava/lang/Object;" (.ref w_s_DEFAULTCAPACITY_EMPTY_ELEMENTDATA) := f1405.keep K1413 (ninS (Ne.symm ne869) nin0)
    have f1435 : Exa Z T1411.heap b838 "com/example/dropwire/dropwire/dnd/Point" := f1406.keep K1413
    have f1436 : Fld Z T1411.heap b838 "com/example/dropwire/dropwire/dnd/Point" "x" "I" (.int (0 : Int32)) := f1407.keep K1413 (ninS (Ne.symm ne870) nin0)
    have f1437 : Fld Z T1411.heap b838 "com/example/dropwire/dropwire/dnd/Point" "y" "I" (.int (0 : Int32)) := f1408.keep K1413 (ninS (Ne.symm ne870) nin0)
    have f1438 : Exa Z T1411.heap b1350 "com/example/dropwire/dropwire/dnd/Point" := p1383.keep K1413
    have f1439 : Fld Z T1411.heap b1350 "com/example/dropwire/dropwire/dnd/Point" "x" "I" (.int p2) := p1384.keep K1413 (ninS (Ne.symm ne1351) nin0)
    have f1440 : Fld Z T1411.heap b1350 "com/example/dropwire/dropwire/dnd/Point" "y" "I" (.int p3) := p1385.keep K1413 (ninS (Ne.symm ne1351) nin0)
    have Z1441 : n0 ≤ T1411.heap.size := Nat.le_trans Z1410 K1413.1
    refine own_goT st1411 ?_
    refine own_go (S' := T1411.setTop (mkF m 42 #[.val (.int p0), .val (.int p1), .val (.int p2), .val (.int p3), .val (.int p4), .val (.int p5), .val (.ref b823), .unset, .unset, .unset] [(.ref b823)])) (fun t k => ?_) ?_
    · show Steps p.tables e below (T1411.setTop (mkF m 40 #[.val (.int p0), .val (.int p1), .val (.int p2), .val (.int p3), .val (.int p4), .val (.int p5), .val (.ref b823), .unset, .unset, .unset] [])) t
      refine XS.aload X1411.here hx rfl (hb hby at_40) rfl rfl ?_
      exact k
    obtain ⟨cq1442, kq1442, qa1442, qb1442, qc1442⟩ := isOf hZ rfl p1414
    obtain ⟨_, _, ⟨T1442, L1442, kk1442, nn1442⟩, -, X1442, ⟨Lc1442, hQ1442, l1442, y1442, z1442⟩, st1442⟩ := X1411.virtualBack hx (y := (⟨"com/example/dropwire/dropwire/inprocess/InProcessPeer", "isDragging", "()Z"⟩ : MethodName)) (z := (⟨"com/example/dropwire/dropwire/inprocess/InProcessPeer", "isDragging", "()Z"⟩ : MethodName)) hown (mvT hZ (hw _ (List.mem_of_getElem? (i := 55) rfl))) (mvT hZ (hw _ (List.mem_of_getElem? (i := 56) rfl))) (notFace_of_selects (args := #[]) (mvT hZ (hw _ (List.mem_of_getElem? (i := 58) rfl)))) (mvT hZ (hw _ (List.mem_of_getElem? (i := 58) rfl))) (mvT hZ (hw _ (List.mem_of_getElem? (i := 57) rfl))) (by decide) (backOf (W := 0) (isDrag0 l Z a0 hw [] b823 T1411.heap n0 Z1441 p1417) hZ (hw _ (List.mem_of_getElem? (i := 59) rfl)) (hw _ (List.mem_of_getElem? (i := 2) rfl)) (by decide) (by decide)) qa1442 qc1442 (g := (mkF m 42 #[.val (.int p0), .val (.int p1), .val (.int p2), .val (.int p3), .val (.int p4), .val (.int p5), .val (.ref b823), .unset, .unset, .unset] [(.ref b823)])) rfl (by rw [hml]; rfl) (Steps.refl _) (argsL := []) (rest := []) (lenOf pd_280 rfl) rfl (by show 2 * 0 + _ ≤ _; exact Nat.le_of_eq rfl) (hb hby at_42) (fun _ _ => ⟨rfl, rfl, (by decide : 5 + 0 ≤ _), (by decide : 18 + 0 ≤ _)⟩)
    dsimp only [Pt.U, Pt.locs, Pt.cells, Pt.slots] at X1442 l1442 y1442 z1442 st1442 hQ1442
    subst l1442 y1442 z1442
    obtain ⟨rfl, N1443, e1442⟩ := hQ1442
    have N1445 := Fr.app N1423 N1443
    refine own_goT st1442 ?_
    refine own_go (S' := T1442.setTop (mkF m 54 #[.val (.int p0), .val (.int p1), .val (.int p2), .val (.int p3), .val (.int p4), .val (.int p5), .val (.ref b823), .unset, .unset, .unset] [(.int (p5 &&& (1 : Int32)))])) (fun t k => ?_) ?_
    · show Steps p.tables e below (T1442.setTop (mkF m 45 #[.val (.int p0), .val (.int p1), .val (.int p2), .val (.int p3), .val (.int p4), .val (.int p5), .val (.ref b823), .unset, .unset, .unset] [(.int (0 : Int32))])) t
      refine XS.ifYes X1442.here hx rfl (pc0 := 45) (pc' := 50) rfl (hb hby at_45) rfl ((if0 _ _).trans (teq (by decide)).1) (by decide) (by decide) ?_
      show Steps p.tables e below (T1442.setTop (mkF m 50 #[.val (.int p0), .val (.int p1), .val (.int p2), .val (.int p3), .val (.int p4), .val (.int p5), .val (.ref b823), .unset, .unset, .unset] [])) t
      refine XS.iload X1442.here hx rfl (hb hby at_50) rfl ?_
      show Steps p.tables e below (T1442.setTop (mkF m 52 #[.val (.int p0), .val (.int p1), .val (.int p2), .val (.int p3), .val (.int p4), .val (.int p5), .val (.ref b823), .unset, .unset, .unset] [(.int p5)])) t
      refine XS.iconst X1442.here hx rfl (hb hby at_52) ?_
      show Steps p.tables e below (T1442.setTop (mkF m 53 #[.val (.int p0), .val (.int p1), .val (.int p2), .val (.int p3), .val (.int p4), .val (.int p5), .val (.ref b823), .unset, .unset, .unset] [(.int (1 : Int32)), (.int p5)])) t
      refine XS.iand X1442.here hx rfl (hb hby at_53) rfl ?_
      exact k
    by_cases hc54 : (p5 &&& (1 : Int32)) = (0 : Int32)
    · skip
      refine own_go (S' := T1442.setTop (mkF m 59 #[.val (.int p0), .val (.int p1), .val (.int p2), .val (.int p3), .val (.int p4), .val (.int p5), .val (.ref b823), .unset, .unset, .unset] [(.ref b823)])) (fun t k => ?_) ?_
      · show Steps p.tables e below (T1442.setTop (mkF m 54 #[.val (.int p0), .val (.int p1), .val (.int p2), .val (.int p3), .val (.int p4), .val (.int p5), .val (.ref b823), .unset, .unset, .unset] [(.int (p5 &&& (1 : Int32)))])) t
        refine XS.ifNo X1442.here hx rfl (hb hby at_54) rfl ((if0 _ _).trans (teq hc54).2) ?_
        show Steps p.tables e below (T1442.setTop (mkF m 57 #[.val (.int p0), .val (.int p1), .val (.int p2), .val (.int p3), .val (.int p4), .val (.int p5), .val (.ref b823), .unset, .unset, .unset] [])) t
        refine XS.aload X1442.here hx rfl (hb hby at_57) rfl rfl ?_
        exact k
      obtain ⟨cq1446, kq1446, qa1446, qb1446, qc1446⟩ := isOf hZ e1442 p1414
      obtain ⟨_, _, ⟨T1446, L1446, kk1446, nn1446⟩, -, X1446, ⟨Lc1446, hQ1446, l1446, y1446, z1446⟩, st1446⟩ := X1442.virtualBack hx (y := (⟨"com/example/dropwire/dropwire/inprocess/InProcessPeer", "isDragging", "()Z"⟩ : MethodName)) (z := (⟨"com/example/dropwire/dropwire/inprocess/InProcessPeer", "isDragging", "()Z"⟩ : MethodName)) hown (mvT hZ (hw _ (List.mem_of_getElem? (i := 55) rfl))) (mvT hZ (hw _ (List.mem_of_getElem? (i := 56) rfl))) (notFace_of_selects (args := #[]) (mvT hZ (hw _ (List.mem_of_getElem? (i := 58) rfl)))) (mvT hZ (hw _ (List.mem_of_getElem? (i := 58) rfl))) (mvT hZ (hw _ (List.mem_of_getElem? (i := 57) rfl))) (by decide) (backOf (W := 0) (isDrag0 l Z a0 hw [] b823 T1411.heap n0 Z1441 p1417) hZ (hw _ (List.mem_of_getElem? (i := 59) rfl)) (hw _ (List.mem_of_getElem? (i := 2) rfl)) (by decide) (by decide)) qa1446 qc1446 (g := (mkF m 59 #[.val (.int p0), .val (.int p1), .val (.int p2), .val (.int p3), .val (.int p4), .val (.int p5), .val (.ref b823), .unset, .unset, .unset] [(.ref b823)])) rfl (by rw [hml]; rfl) (Steps.refl _) (argsL := []) (rest := []) (lenOf pd_280 rfl) rfl (by show 2 * 0 + _ ≤ _; exact Nat.le_of_eq rfl) (hb hby at_59) (fun _ _ => ⟨rfl, e1442, (by decide : 5 + 0 ≤ _), (by decide : 18 + 0 ≤ _)⟩)
      dsimp only [Pt.U, Pt.locs, Pt.cells, Pt.slots] at X1446 l1446 y1446 z1446 st1446 hQ1446
      subst l1446 y1446 z1446
      obtain ⟨rfl, N1447, e1446⟩ := hQ1446
      have N1449 := Fr.app N1445 N1447
      refine own_goT st1446 ?_
      refine own_go (S' := T1446.setTop (mkF m 70 #[.val (.int p0), .val (.int p1), .val (.int p2), .val (.int p3), .val (.int p4), .val (.int p5), .val (.ref b823), .unset, .unset, .unset] [(.int (1 : Int32))])) (fun t k => ?_) ?_
      · show Steps p.tables e below (T1446.setTop (mkF m 62 #[.val (.int p0), .val (.int p1), .val (.int p2), .val (.int p3), .val (.int p4), .val (.int p5), .val (.ref b823), .unset, .unset, .unset] [(.int (0 : Int32))])) t
        refine XS.ifNo X1446.here hx rfl (hb hby at_62) rfl ((if0 _ _).trans (teq (by decide)).2) ?_
        show Steps p.tables e below (T1446.setTop (mkF m 65 #[.val (.int p0), .val (.int p1), .val (.int p2), .val (.int p3), .val (.int p4), .val (.int p5), .val (.ref b823), .unset, .unset, .unset] [])) t
        refine XS.iconst X1446.here hx rfl (hb hby at_65) ?_
        show Steps p.tables e below (T1446.setTop (mkF m 66 #[.val (.int p0), .val (.int p1), .val (.int p2), .val (.int p3), .val (.int p4), .val (.int p5), .val (.ref b823), .unset, .unset, .unset] [(.int (1 : Int32))])) t
        refine XS.goto X1446.here hx rfl (pc0 := 66) (pc' := 70) rfl (hb hby at_66) (by decide) (by decide) ?_
        exact k
      obtain ⟨fs, hr, hrun, hended, hW, hsame⟩ := X1446.leave (v := some (.int (1 : Int32))) (fun h => by rw [Bd.returns] at h; cases h)
      refine own_end (v := some (.int (1 : Int32))) ?_ hrun hended ?_ hW (hsame.mono (by decide) (by decide))
      · show Steps p.tables e below (T1446.setTop (mkF m 70 #[.val (.int p0), .val (.int p1), .val (.int p2), .val (.int p3), .val (.int p4), .val (.int p5), .val (.ref b823), .unset, .unset, .unset] [(.int (1 : Int32))])) _
        exact retN X1446 hx (t := .boolean) Bd.returns (by simp) (hb hby at_70) hr
      · show Qrm0 Z p0 p1 p2 p3 p4 p5 w_s_DEFAULTCAPACITY_EMPTY_ELEMENTDATA w_s_NONE h0 n0 _ T1446.heap _
        rw [e1446]
        exact ⟨rfl, N1449⟩
    · skip
      refine own_go (S' := T1442.setTop (mkF m 80 #[.val (.int p0), .val (.int p1), .val (.int p2), .val (.int p3), .val (.int p4), .val (.int p5), .val (.ref b823), .unset, .unset, .unset] [(.int ((1 : Int32) <<< (((p4 &&& (2147483647 : Int32)) % (3 : Int32)) &&& 31)))])) (fun t k => ?_) ?_
      · show Steps p.tables e below (T1442.setTop (mkF m 54 #[.val (.int p0), .val (.int p1), .val (.int p2), .val (.int p3), .val (.int p4), .val (.int p5), .val (.ref b823), .unset, .unset, .unset] [(.int (p5 &&& (1 : Int32)))])) t
        refine XS.ifYes X1442.here hx rfl (pc0 := 54) (pc' := 71) rfl (hb hby at_54) rfl ((if0 _ _).trans (feq hc54).2) (by decide) (by decide) ?_
        show Steps p.tables e below (T1442.setTop (mkF m 71 #[.val (.int p0), .val (.int p1), .val (.int p2), .val (.int p3), .val (.int p4), .val (.int p5), .val (.ref b823), .unset, .unset, .unset] [])) t
        refine XS.iconst X1442.here hx rfl (hb hby at_71) ?_
        show Steps p.tables e below (T1442.setTop (mkF m 72 #[.val (.int p0), .val (.int p1), .val (.int p2), .val (.int p3), .val (.int p4), .val (.int p5), .val (.ref b823), .unset, .unset, .unset] [(.int (1 : Int32))])) t
        refine XS.iload X1442.here hx rfl (hb hby at_72) rfl ?_
        show Steps p.tables e below (T1442.setTop (mkF m 74 #[.val (.int p0), .val (.int p1), .val (.int p2), .val (.int p3), .val (.int p4), .val (.int p5), .val (.ref b823), .unset, .unset, .unset] [(.int p4), (.int (1 : Int32))])) t
        refine X1442.ldcInt hx hown (mvT hZ (hw _ (List.mem_of_getElem? (i := 69) rfl))) (g := (mkF m 74 #[.val (.int p0), .val (.int p1), .val (.int p2), .val (.int p3), .val (.int p4), .val (.int p5), .val (.ref b823), .unset, .unset, .unset] [(.int p4), (.int (1 : Int32))])) rfl (hb hby at_74) _ ?_
        show Steps p.tables e below (T1442.setTop (mkF m 76 #[.val (.int p0), .val (.int p1), .val (.int p2), .val (.int p3), .val (.int p4), .val (.int p5), .val (.ref b823), .unset, .unset, .unset] [(.int (2147483647 : Int32)), (.int p4), (.int (1 : Int32))])) t
        refine XS.iand X1442.here hx rfl (hb hby at_76) rfl ?_
        show Steps p.tables e below (T1442.setTop (mkF m 77 #[.val (.int p0), .val (.int p1), .val (.int p2), .val (.int p3), .val (.int p4), .val (.int p5), .val (.ref b823), .unset, .unset, .unset] [(.int (p4 &&& (2147483647 : Int32))), (.int (1 : Int32))])) t
        refine XS.iconst X1442.here hx rfl (hb hby at_77) ?_
        show Steps p.tables e below (T1442.setTop (mkF m 78 #[.val (.int p0), .val (.int p1), .val (.int p2), .val (.int p3), .val (.int p4), .val (.int p5), .val (.ref b823), .unset, .unset, .unset] [(.int (3 : Int32)), (.int (p4 &&& (2147483647 : Int32))), (.int (1 : Int32))])) t
        refine iremM X1442 hx rfl (hb hby at_78) rfl (by decide) ?_
        show Steps p.tables e below (T1442.setTop (mkF m 79 #[.val (.int p0), .val (.int p1), .val (.int p2), .val (.int p3), .val (.int p4), .val (.int p5), .val (.ref b823), .unset, .unset, .unset] [(.int ((p4 &&& (2147483647 : Int32)) % (3 : Int32))), (.int (1 : Int32))])) t
        refine XS.ishl X1442.here hx rfl (hb hby at_79) rfl ?_
        exact k
      obtain ⟨_, _, ⟨T1450, L1450, kk1450, nn1450⟩, -, X1450, ⟨Lc1450, hQ1450, l1450, y1450, z1450⟩, st1450⟩ := Jvm.LawKit.callS X1442 hx (y := (⟨"com/example/dropwire/dropwire/dnd/Actions", "fromBits", "(I)Lcom/example/dropwire/dropwire/dnd/Actions;"⟩ : MethodName)) hown (mvT hZ (hw _ (List.mem_of_getElem? (i := 70) rfl))) (mvT hZ (hw _ (List.mem_of_getElem? (i := 71) rfl))) (mvT hZ (hw _ (List.mem_of_getElem? (i := 72) rfl))) (mvT hZ (hw _ (List.mem_of_getElem? (i := 73) rfl))) (by decide) (backOf (W := 0) (fromBits l Z a0 hw [] ((1 : Int32) <<< (((p4 &&& (2147483647 : Int32)) % (3 : Int32)) &&& 31)) T1411.heap n0 Z1441 ((own_bits p4).1 : (((1 : Int32) <<< (((p4 &&& (2147483647 : Int32)) % (3 : Int32)) &&& 31)) &&& (-8 : Int32)) = (0 : Int32))) hZ (hw _ (List.mem_of_getElem? (i := 73) rfl)) (hw _ (List.mem_of_getElem? (i := 72) rfl)) (by decide) (by decide)) (g := (mkF m 80 #[.val (.int p0), .val (.int p1), .val (.int p2), .val (.int p3), .val (.int p4), .val (.int p5), .val (.ref b823), .unset, .unset, .unset] [(.int ((1 : Int32) <<< (((p4 &&& (2147483647 : Int32)) % (3 : Int32)) &&& 31)))])) rfl (by rw [hml]; rfl) (argsL := [(.int ((1 : Int32) <<< (((p4 &&& (2147483647 : Int32)) % (3 : Int32)) &&& 31)))]) (rest := []) (lenOf pd_319 rfl) rfl (by show 2 * 0 + _ ≤ _; exact Nat.le_of_eq rfl) (hb hby at_80) (fun _ _ => ⟨rfl, e1442, (by decide : 5 + 1 ≤ _), (by decide : 18 + 1 ≤ _)⟩)
      dsimp only [Pt.U, Pt.locs, Pt.cells, Pt.slots] at X1450 l1450 y1450 z1450 st1450 hQ1450
      subst l1450 y1450 z1450
      obtain ⟨b1451, rfl, N1452, K1453, p1454, p1455, p1456⟩ := hQ1450
      have N1457 := Fr.app N1445 N1452
      have ne1458 : b823 ≠ b1451 := Nat.ne_of_lt (Nat.lt_of_lt_of_le p1414.lt p1454)
      have ne1459 : b836 ≠ b1451 := Nat.ne_of_lt (Nat.lt_of_lt_of_le f1427.lt p1454)
      have ne1460 : b837 ≠ b1451 := Nat.ne_of_lt (Nat.lt_of_lt_of_le f1431.lt p1454)
      have ne1461 : b838 ≠ b1451 := Nat.ne_of_lt (Nat.lt_of_lt_of_le f1435.lt p1454)
      have ne1462 : b1350 ≠ b1451 := Nat.ne_of_lt (Nat.lt_of_lt_of_le f1438.lt p1454)
      have g_b1451 : n0 ≤ b1451 := Nat.le_trans Z1441 p1454
      have f1463 : Sta Z T1450.heap "java/util/ArrayList" "DEFAULTCAPACITY_EMPTY_ELEMENTDATA" "[Ljava/lang/Object;" (.ref w_s_DEFAULTCAPACITY_EMPTY_ELEMENTDATA) := own_sta_keep f1424 K1453 all0
      have f1464 : Sta Z T1450.heap "com/example/dropwire/dropwire/dnd/Actions" "NONE" "Lcom/example/dropwire/dropwire/dnd/Actions;" (.ref w_s_NONE) := own_sta_keep f1425 K1453 all0
      have f1465 : Exa Z T1450.heap b823 "com/example/dropwire/dropwire/inprocess/InProcessPeer" := p1414.keep K1453
      have f1466 : Exa Z T1450.heap b836 "java/util/ArrayList" := f1427.keep K1453
      have f1467 : Fld Z T1450.heap b836 "java/util/ArrayList" "size" "I" (.int (0 : Int32)) := f1428.keep K1453 nin0
      have f1468 : Fld Z T1450.heap b836 "java/util/AbstractList" "modCount" "I" (.int (0 : Int32)) := f1429.keep K1453 nin0
      have f1469 : Fld Z T1450.heap b836 "java/util/ArrayList" "elementData" "[Ljava/lang/Object;" (.ref w_s_DEFAULTCAPACITY_EMPTY_ELEMENTDATA) := f1430.keep K1453 nin0
      have f1470 : Exa Z T1450.heap b837 "java/util/ArrayList" := f1431.keep K1453
      have f1471 : Fld Z T1450.heap b837 "java/util/ArrayList" "size" "I" (.int (0 : Int32)) := f1432.keep K1453 nin0
      have f1472 : Fld Z T1450.heap b837 "java/util/AbstractList" "modCount" "I" (.int (0 : Int32)) := f1433.keep K1453 nin0
      have f1473 : Fld Z T1450.heap b837 "java/util/ArrayList" "elementData" "[Ljava/lang/Object;" (.ref w_s_DEFAULTCAPACITY_EMPTY_ELEMENTDATA) := f1434.keep K1453 nin0
      have f1474 : Exa Z T1450.heap b838 "com/example/dropwire/dropwire/dnd/Point" := f1435.keep K1453
      have f1475 : Fld Z T1450.heap b838 "com/example/dropwire/dropwire/dnd/Point" "x" "I" (.int (0 : Int32)) := f1436.keep K1453 nin0
      have f1476 : Fld Z T1450.heap b838 "com/example/dropwire/dropwire/dnd/Point" "y" "I" (.int (0 : Int32)) := f1437.keep K1453 nin0
      have f1477 : Exa Z T1450.heap b1350 "com/example/dropwire/dropwire/dnd/Point" := f1438.keep K1453
      have f1478 : Fld Z T1450.heap b1350 "com/example/dropwire/dropwire/dnd/Point" "x" "I" (.int p2) := f1439.keep K1453 nin0
      have f1479 : Fld Z T1450.heap b1350 "com/example/dropwire/dropwire/dnd/Point" "y" "I" (.int p3) := f1440.keep K1453 nin0
      have f1480 : Fld Z T1450.heap b823 "com/example/dropwire/dropwire/inprocess/InProcessPeer" "components" "Ljava/util/List;" (.ref b836) := p1415.keep K1453 nin0
      have f1481 : Fld Z T1450.heap b823 "com/example/dropwire/dropwire/inprocess/InProcessPeer" "recognizers" "Ljava/util/List;" (.ref b837) := p1416.keep K1453 nin0
      have f1482 : Fld Z T1450.heap b823 "com/example/dropwire/dropwire/inprocess/InProcessPeer" "drag" "Lcom/example/dropwire/dropwire/dnd/DragSourceContext;" .null := p1417.keep K1453 nin0
      have f1483 : Fld Z T1450.heap b823 "com/example/dropwire/dropwire/inprocess/InProcessPeer" "recognizing" "Lcom/example/dropwire/dropwire/inprocess/InProcessPeer$Recognizer;" .null := p1418.keep K1453 nin0
      have f1484 : Fld Z T1450.heap b823 "com/example/dropwire/dropwire/inprocess/InProcessPeer" "plain" "Lcom/example/dropwire/dropwire/dnd/Actions;" .null := p1419.keep K1453 nin0
      have f1485 : Fld Z T1450.heap b823 "com/example/dropwire/dropwire/inprocess/InProcessPeer" "under" "Lcom/example/dropwire/dropwire/inprocess/InProcessPeer$Component;" .null := p1420.keep K1453 nin0
      have f1486 : Fld Z T1450.heap b823 "com/example/dropwire/dropwire/inprocess/InProcessPeer" "visit" "Lcom/example/dropwire/dropwire/dnd/DropTargetVisit;" .null := p1421.keep K1453 nin0
      have f1487 : Fld Z T1450.heap b823 "com/example/dropwire/dropwire/inprocess/InProcessPeer" "hotspot" "Lcom/example/dropwire/dropwire/dnd/Point;" (.ref b1350) := p1422.keep K1453 nin0
      have Z1488 : n0 ≤ T1450.heap.size := Nat.le_trans Z1441 K1453.1
      refine own_go st1450 ?_
      refine own_go (S' := T1450.setTop (mkF m 93 #[.val (.int p0), .val (.int p1), .val (.int p2), .val (.int p3), .val (.int p4), .val (.int p5), .val (.ref b823), .val (.ref b1451), .unset, .unset] [(.int ((Jvm.Free.XT.ushr p4 (8 : Int32)) &&& (7 : Int32)))])) (fun t k => ?_) ?_
      · show Steps p.tables e below (T1450.setTop (mkF m 83 #[.val (.int p0), .val (.int p1), .val (.int p2), .val (.int p3), .val (.int p4), .val (.int p5), .val (.ref b823), .unset, .unset, .unset] [(.ref b1451)])) t
        refine XS.astore X1450.here hx rfl (hb hby at_83) rfl rfl (l' := #[.val (.int p0), .val (.int p1), .val (.int p2), .val (.int p3), .val (.int p4), .val (.int p5), .val (.ref b823), .val (.ref b1451), .unset, .unset]) rfl ?_
        show Steps p.tables e below (T1450.setTop (mkF m 85 #[.val (.int p0), .val (.int p1), .val (.int p2), .val (.int p3), .val (.int p4), .val (.int p5), .val (.ref b823), .val (.ref b1451), .unset, .unset] [])) t
        refine XS.iload X1450.here hx rfl (hb hby at_85) rfl ?_
        show Steps p.tables e below (T1450.setTop (mkF m 87 #[.val (.int p0), .val (.int p1), .val (.int p2), .val (.int p3), .val (.int p4), .val (.int p5), .val (.ref b823), .val (.ref b1451), .unset, .unset] [(.int p4)])) t
        refine XS.bipush X1450.here hx rfl (hb hby at_87) ?_
        show Steps p.tables e below (T1450.setTop (mkF m 89 #[.val (.int p0), .val (.int p1), .val (.int p2), .val (.int p3), .val (.int p4), .val (.int p5), .val (.ref b823), .val (.ref b1451), .unset, .unset] [(.int (8 : Int32)), (.int p4)])) t
        refine XS.iushr X1450.here hx rfl (hb hby at_89) rfl ?_
        show Steps p.tables e below (T1450.setTop (mkF m 90 #[.val (.int p0), .val (.int p1), .val (.int p2), .val (.int p3), .val (.int p4), .val (.int p5), .val (.ref b823), .val (.ref b1451), .unset, .unset] [(.int (Jvm.Free.XT.ushr p4 (8 : Int32)))])) t
        refine XS.bipush X1450.here hx rfl (hb hby at_90) ?_
        show Steps p.tables e below (T1450.setTop (mkF m 92 #[.val (.int p0), .val (.int p1), .val (.int p2), .val (.int p3), .val (.int p4), .val (.int p5), .val (.ref b823), .val (.ref b1451), .unset, .unset] [(.int (7 : Int32)), (.int (Jvm.Free.XT.ushr p4 (8 : Int32)))])) t
        refine XS.iand X1450.here hx rfl (hb hby at_92) rfl ?_
        exact k
      obtain ⟨_, _, ⟨T1489, L1489, kk1489, nn1489⟩, -, X1489, ⟨Lc1489, hQ1489, l1489, y1489, z1489⟩, st1489⟩ := Jvm.LawKit.callS X1450 hx (y := (⟨"com/example/dropwire/dropwire/dnd/Actions", "fromBits", "(I)Lcom/example/dropwire/dropwire/dnd/Actions;"⟩ : MethodName)) hown (mvT hZ (hw _ (List.mem_of_getElem? (i := 70) rfl))) (mvT hZ (hw _ (List.mem_of_getElem? (i := 71) rfl))) (mvT hZ (hw _ (List.mem_of_getElem? (i := 72) rfl))) (mvT hZ (hw _ (List.mem_of_getElem? (i := 73) rfl))) (by decide) (backOf (W := 0) (fromBits l Z a0 hw [] ((Jvm.Free.XT.ushr p4 (8 : Int32)) &&& (7 : Int32)) T1450.heap n0 Z1488 (own_low _ : (((Jvm.Free.XT.ushr p4 (8 : Int32)) &&& (7 : Int32)) &&& (-8 : Int32)) = (0 : Int32))) hZ (hw _ (List.mem_of_getElem? (i := 73) rfl)) (hw _ (List.mem_of_getElem? (i := 72) rfl)) (by decide) (by decide)) (g := (mkF m 93 #[.val (.int p0), .val (.int p1), .val (.int p2), .val (.int p3), .val (.int p4), .val (.int p5), .val (.ref b823), .val (.ref b1451), .unset, .unset] [(.int ((Jvm.Free.XT.ushr p4 (8 : Int32)) &&& (7 : Int32)))])) rfl (by rw [hml]; rfl) (argsL := [(.int ((Jvm.Free.XT.ushr p4 (8 : Int32)) &&& (7 : Int32)))]) (rest := []) (lenOf pd_319 rfl) rfl (by show 2 * 0 + _ ≤ _; exact Nat.le_of_eq rfl) (hb hby at_93) (fun _ _ => ⟨rfl, rfl, (by decide : 6 + 1 ≤ _), (by decide : 19 + 1 ≤ _)⟩)
      dsimp only [Pt.U, Pt.locs, Pt.cells, Pt.slots] at X1489 l1489 y1489 z1489 st1489 hQ1489
      subst l1489 y1489 z1489
      obtain ⟨b1490, rfl, N1491, K1492, p1493, p1494, p1495⟩ := hQ1489
      have N1496 := Fr.app N1457 N1491
      have ne1497 : b823 ≠ b1490 := Nat.ne_of_lt (Nat.lt_of_lt_of_le f1465.lt p1493)
      have ne1498 : b836 ≠ b1490 := Nat.ne_of_lt (Nat.lt_of_lt_of_le f1466.lt p1493)
      have ne1499 : b837 ≠ b1490 := Nat.ne_of_lt (Nat.lt_of_lt_of_le f1470.lt p1493)
      have ne1500 : b838 ≠ b1490 := Nat.ne_of_lt (Nat.lt_of_lt_of_le f1474.lt p1493)
      have ne1501 : b1350 ≠ b1490 := Nat.ne_of_lt (Nat.lt_of_lt_of_le f1477.lt p1493)
      have ne1502 : b1451 ≠ b1490 := Nat.ne_of_lt (Nat.lt_of_lt_of_le p1455.lt p1493)
      have g_b1490 : n0 ≤ b1490 := Nat.le_trans Z1488 p1493
      have f1503 : Sta Z T1489.heap "java/util/ArrayList" "DEFAULTCAPACITY_EMPTY_ELEMENTDATA" "[Ljava/lang/Object;" (.ref w_s_DEFAULTCAPACITY_EMPTY_ELEMENTDATA) := own_sta_keep f1463 K1492 all0
      have f1504 : Sta Z T1489.heap "com/example/dropwire/dropwire/dnd/Actions" "NONE" "Lcom/example/dropwire/dropwire/dnd/Actions;" (.ref w_s_NONE) := own_sta_keep f1464 K1492 all0
      have f1505 : Exa Z T1489.heap b823 "com/example/dropwire/dropwire/inprocess/InProcessPeer" := f1465.keep K1492
      have f1506 : Exa Z T1489.heap b836 "java/util/ArrayList" := f1466.keep K1492
      have f1507 : Fld Z T1489.heap b836 "java/util/ArrayList" "size" "I" (.int (0 : Int32)) := f1467.keep K1492 nin0
      have f1508 : Fld Z T1489.heap b836 "java/util/AbstractList" "modCount" "I" (.int (0 : Int32)) := f1468.keep K1492 nin0
      have f1509 : Fld Z T1489.heap b836 "java/util/ArrayList" "elementData" "[Ljava/lang/Object;" (.ref w_s_DEFAULTCAPACITY_EMPTY_ELEMENTDATA) := f1469.keep K1492 nin0
      have f1510 : Exa Z T1489.heap b837 "java/util/ArrayList" := f1470.keep K1492
      have f1511 : Fld Z T1489.heap b837 "java/util/ArrayList" "size" "I" (.int (0 : Int32)) := f1471.keep K1492 nin0
      have f1512 : Fld Z T1489.heap b837 "java/util/AbstractList" "modCount" "I" (.int (0 : Int32)) := f1472.keep K1492 nin0
      have f1513 : Fld Z T1489.heap b837 "java/util/ArrayList" "elementData" "[Ljava/lang/Object;" (.ref w_s_DEFAULTCAPACITY_EMPTY_ELEMENTDATA) := f1473.keep K1492 nin0
      have f1514 : Exa Z T1489.heap b838 "com/example/dropwire/dropwire/dnd/Point" := f1474.keep K1492
      have f1515 : Fld Z T1489.heap b838 "com/example/dropwire/dropwire/dnd/Point" "x" "I" (.int (0 : Int32)) := f1475.keep K1492 nin0
      have f1516 : Fld Z T1489.heap b838 "com/example/dropwire/dropwire/dnd/Point" "y" "I" (.int (0 : Int32)) := f1476.keep K1492 nin0
      have f1517 : Exa Z T1489.heap b1350 "com/example/dropwire/dropwire/dnd/Point" := f1477.keep K1492
      have f1518 : Fld Z T1489.heap b1350 "com/example/dropwire/dropwire/dnd/Point" "x" "I" (.int p2) := f1478.keep K1492 nin0
      have f1519 : Fld Z T1489.heap b1350 "com/example/dropwire/dropwire/dnd/Point" "y" "I" (.int p3) := f1479.keep K1492 nin0
      have f1520 : Fld Z T1489.heap b823 "com/example/dropwire/dropwire/inprocess/InProcessPeer" "components" "Ljava/util/List;" (.ref b836) := f1480.keep K1492 nin0
      have f1521 : Fld Z T1489.heap b823 "com/example/dropwire/dropwire/inprocess/InProcessPeer" "recognizers" "Ljava/util/List;" (.ref b837) := f1481.keep K1492 nin0
      have f1522 : Fld Z T1489.heap b823 "com/example/dropwire/dropwire/inprocess/InProcessPeer" "drag" "Lcom/example/dropwire/dropwire/dnd/DragSourceContext;" .null := f1482.keep K1492 nin0
      have f1523 : Fld Z T1489.heap b823 "com/example/dropwire/dropwire/inprocess/InProcessPeer" "recognizing" "Lcom/example/dropwire/dropwire/inprocess/InProcessPeer$Recognizer;" .null := f1483.keep K1492 nin0
      have f1524 : Fld Z T1489.heap b823 "com/example/dropwire/dropwire/inprocess/InProcessPeer" "plain" "Lcom/example/dropwire/dropwire/dnd/Actions;" .null := f1484.keep K1492 nin0
      have f1525 : Fld Z T1489.heap b823 "com/example/dropwire/dropwire/inprocess/InProcessPeer" "under" "Lcom/example/dropwire/dropwire/inprocess/InProcessPeer$Component;" .null := f1485.keep K1492 nin0
      have f1526 : Fld Z T1489.heap b823 "com/example/dropwire/dropwire/inprocess/InProcessPeer" "visit" "Lcom/example/dropwire/dropwire/dnd/DropTargetVisit;" .null := f1486.keep K1492 nin0
      have f1527 : Fld Z T1489.heap b823 "com/example/dropwire/dropwire/inprocess/InProcessPeer" "hotspot" "Lcom/example/dropwire/dropwire/dnd/Point;" (.ref b1350) := f1487.keep K1492 nin0
      have f1528 : Exa Z T1489.heap b1451 "com/example/dropwire/dropwire/dnd/Actions" := p1455.keep K1492
      have f1529 : Fld Z T1489.heap b1451 "com/example/dropwire/dropwire/dnd/Actions" "bits" "I" (.int ((1 : Int32) <<< (((p4 &&& (2147483647 : Int32)) % (3 : Int32)) &&& 31))) := p1456.keep K1492 nin0
      have Z1530 : n0 ≤ T1489.heap.size := Nat.le_trans Z1488 K1492.1
      refine own_go st1489 ?_
      refine own_go (S' := T1489.setTop (mkF m 98 #[.val (.int p0), .val (.int p1), .val (.int p2), .val (.int p3), .val (.int p4), .val (.int p5), .val (.ref b823), .val (.ref b1451), .val (.ref b1490), .unset] [])) (fun t k => ?_) ?_
      · show Steps p.tables e below (T1489.setTop (mkF m 96 #[.val (.int p0), .val (.int p1), .val (.int p2), .val (.int p3), .val (.int p4), .val (.int p5), .val (.ref b823), .val (.ref b1451), .unset, .unset] [(.ref b1490)])) t
        refine XS.astore X1489.here hx rfl (hb hby at_96) rfl rfl (l' := #[.val (.int p0), .val (.int p1), .val (.int p2), .val (.int p3), .val (.int p4), .val (.int p5), .val (.ref b823), .val (.ref b1451), .val (.ref b1490), .unset]) rfl ?_
        exact k
      obtain ⟨T1531, h1531, X1531, e1531, E1531, A1531, D1531, Un1531, st1531⟩ := newO X1489 hx hZ hown (hw _ (List.mem_of_getElem? (i := 82) rfl)) (hw _ (List.mem_of_getElem? (i := 83) rfl)) (hw _ (List.mem_of_getElem? (i := 84) rfl)) rfl (g := (mkF m 98 #[.val (.int p0), .val (.int p1), .val (.int p2), .val (.int p3), .val (.int p4), .val (.int p5), .val (.ref b823), .val (.ref b1451), .val (.ref b1490), .unset] [])) rfl (hb hby at_98) (by decide) (by decide)
      obtain ⟨b1531, g1531⟩ : ∃ z, z = T1489.heap.size := ⟨_, rfl⟩
      rw [← g1531] at A1531 D1531 Un1531 st1531
      have ne1532 : b823 ≠ b1531 := Nat.ne_of_lt (Nat.lt_of_lt_of_le f1505.lt (Nat.le_of_eq g1531.symm))
      have ne1533 : b836 ≠ b1531 := Nat.ne_of_lt (Nat.lt_of_lt_of_le f1506.lt (Nat.le_of_eq g1531.symm))
      have ne1534 : b837 ≠ b1531 := Nat.ne_of_lt (Nat.lt_of_lt_of_le f1510.lt (Nat.le_of_eq g1531.symm))
      have ne1535 : b838 ≠ b1531 := Nat.ne_of_lt (Nat.lt_of_lt_of_le f1514.lt (Nat.le_of_eq g1531.symm))
      have ne1536 : b1350 ≠ b1531 := Nat.ne_of_lt (Nat.lt_of_lt_of_le f1517.lt (Nat.le_of_eq g1531.symm))
      have ne1537 : b1451 ≠ b1531 := Nat.ne_of_lt (Nat.lt_of_lt_of_le f1528.lt (Nat.le_of_eq g1531.symm))
      have ne1538 : b1490 ≠ b1531 := Nat.ne_of_lt (Nat.lt_of_lt_of_le p1494.lt (Nat.le_of_eq g1531.symm))
      have g_b1531 : n0 ≤ b1531 := Nat.le_trans Z1530 (Nat.le_of_eq g1531.symm)
      have Z1539 : n0 ≤ h1531.size := Nat.le_trans Z1530 E1531.1
      have f1540 : Sta Z h1531 "java/util/ArrayList" "DEFAULTCAPACITY_EMPTY_ELEMENTDATA" "[Ljava/lang/Object;" (.ref w_s_DEFAULTCAPACITY_EMPTY_ELEMENTDATA) := Sta.ext E1531 f1503
      have f1541 : Sta Z h1531 "com/example/dropwire/dropwire/dnd/Actions" "NONE" "Lcom/example/dropwire/dropwire/dnd/Actions;" (.ref w_s_NONE) := Sta.ext E1531 f1504
      have f1542 : Exa Z h1531 b823 "com/example/dropwire/dropwire/inprocess/InProcessPeer" := Exa.ext E1531 f1505
      have f1543 : Exa Z h1531 b836 "java/util/ArrayList" := Exa.ext E1531 f1506
      have f1544 : Fld Z h1531 b836 "java/util/ArrayList" "size" "I" (.int (0 : Int32)) := Fld.ext E1531 f1507
      have f1545 : Fld Z h1531 b836 "java/util/AbstractList" "modCount" "I" (.int (0 : Int32)) := Fld.ext E1531 f1508
      have f1546 : Fld Z h1531 b836 "java/util/ArrayList" "elementData" "[Ljava/lang/Object;" (.ref w_s_DEFAULTCAPACITY_EMPTY_ELEMENTDATA) := Fld.ext E1531 f1509
      have f1547 : Exa Z h1531 b837 "java/util/ArrayList" := Exa.ext E1531 f1510
      have f1548 : Fld Z h1531 b837 "java/util/ArrayList" "size" "I" (.int (0 : Int32)) := Fld.ext E1531 f1511
      have f1549 : Fld Z h1531 b837 "java/util/AbstractList" "modCount" "I" (.int (0 : Int32)) := Fld.ext E1531 f1512
      have f1550 : Fld Z h1531 b837 "java/util/ArrayList" "elementData" "[Ljava/lang/Object;" (.ref w_s_DEFAULTCAPACITY_EMPTY_ELEMENTDATA) := Fld.ext E1531 f1513
      have f1551 : Exa Z h1531 b838 "com/example/dropwire/dropwire/dnd/Point" := Exa.ext E1531 f1514
      have f1552 : Fld Z h1531 b838 "com/example/dropwire/dropwire/dnd/Point" "x" "I" (.int (0 : Int32)) := Fld.ext E1531 f1515
      have f1553 : Fld Z h1531 b838 "com/example/dropwire/dropwire/dnd/Point" "y" "I" (.int (0 : Int32)) := Fld.ext E1531 f1516
      have f1554 : Exa Z h1531 b1350 "com/example/dropwire/dropwire/dnd/Point" := Exa.ext E1531 f1517
      have f1555 : Fld Z h1531 b1350 "com/example/dropwire/dropwire/dnd/Point" "x" "I" (.int p2) := Fld.ext E1531 f1518
      have f1556 : Fld Z h1531 b1350 "com/example/dropwire/dropwire/dnd/Point" "y" "I" (.int p3) := Fld.ext E1531 f1519
      have f1557 : Fld Z h1531 b823 "com/example/dropwire/dropwire/inprocess/InProcessPeer" "components" "Ljava/util/List;" (.ref b836) := Fld.ext E1531 f1520
      have f1558 : Fld Z h1531 b823 "com/example/dropwire/dropwire/inprocess/InProcessPeer" "recognizers" "Ljava/util/List;" (.ref b837) := Fld.ext E1531 f1521
      have f1559 : Fld Z h1531 b823 "com/example/dropwire/dropwire/inprocess/InProcessPeer" "drag" "Lcom/example/dropwire/dropwire/dnd/DragSourceContext;" .null := Fld.ext E1531 f1522
      have f1560 : Fld Z h1531 b823 "com/example/dropwire/dropwire/inprocess/InProcessPeer" "recognizing" "Lcom/example/dropwire/dropwire/inprocess/InProcessPeer$Recognizer;" .null := Fld.ext E1531 f1523
      have f1561 : Fld Z h1531 b823 "com/example/dropwire/dropwire/inprocess/InProcessPeer" "plain" "Lcom/example/dropwire/dropwire/dnd/Actions;" .null := Fld.ext E1531 f1524
      have f1562 : Fld Z h1531 b823 "com/example/dropwire/dropwire/inprocess/InProcessPeer" "under" "Lcom/example/dropwire/dropwire/inprocess/InProcessPeer$Component;" .null := Fld.ext E1531 f1525
      have f1563 : Fld Z h1531 b823 "com/example/dropwire/dropwire/inprocess/InProcessPeer" "visit" "Lcom/example/dropwire/dropwire/dnd/DropTargetVisit;" .null := Fld.ext E1531 f1526
      have f1564 : Fld Z h1531 b823 "com/example/dropwire/dropwire/inprocess/InProcessPeer" "hotspot" "Lcom/example/dropwire/dropwire/dnd/Point;" (.ref b1350) := Fld.ext E1531 f1527
      have f1565 : Exa Z h1531 b1451 "com/example/dropwire/dropwire/dnd/Actions" := Exa.ext E1531 f1528
      have f1566 : Fld Z h1531 b1451 "com/example/dropwire/dropwire/dnd/Actions" "bits" "I" (.int ((1 : Int32) <<< (((p4 &&& (2147483647 : Int32)) % (3 : Int32)) &&& 31))) := Fld.ext E1531 f1529
      have f1567 : Exa Z h1531 b1490 "com/example/dropwire/dropwire/dnd/Actions" := Exa.ext E1531 p1494
      have f1568 : Fld Z h1531 b1490 "com/example/dropwire/dropwire/dnd/Actions" "bits" "I" (.int ((Jvm.Free.XT.ushr p4 (8 : Int32)) &&& (7 : Int32))) := Fld.ext E1531 p1495
      have f1569 : Fld Z h1531 b1531 "com/example/dropwire/dropwire/dnd/DragSource" "current" "Lcom/example/dropwire/dropwire/dnd/DragSourceContext;" .null := D1531 (Or.inl (hw _ (List.mem_of_getElem? (i := 151) rfl))) (ty := (.object "com/example/dropwire/dropwire/dnd/DragSourceContext")) (by decide)
      refine own_go st1531 ?_
      refine own_go (S' := T1531.setTop (mkF m 102 #[.val (.int p0), .val (.int p1), .val (.int p2), .val (.int p3), .val (.int p4), .val (.int p5), .val (.ref b823), .val (.ref b1451), .val (.ref b1490), .unset] [(.ref b1531), (.ref b1531)])) (fun t k => ?_) ?_
      · show Steps p.tables e below (T1531.setTop (mkF m 101 #[.val (.int p0), .val (.int p1), .val (.int p2), .val (.int p3), .val (.int p4), .val (.int p5), .val (.ref b823), .val (.ref b1451), .val (.ref b1490), .unset] [(.ref b1531)])) t
        refine XS.dup X1531.here hx rfl (hb hby at_101) rfl rfl ?_
        exact k
      obtain ⟨_, _, ⟨T1570, L1570, kk1570, nn1570⟩, -, X1570, ⟨Lc1570, hQ1570, l1570, y1570, z1570⟩, st1570⟩ := X1531.specialBack hx (y := (⟨"com/example/dropwire/dropwire/dnd/DragSource", "<init>", "()V"⟩ : MethodName)) rfl hown (mvT hZ (hw _ (List.mem_of_getElem? (i := 85) rfl))) (mvT hZ (hw _ (List.mem_of_getElem? (i := 86) rfl))) (mvT hZ (hw _ (List.mem_of_getElem? (i := 87) rfl))) (by decide) (backOf (W := 1) (dsInit l Z a0 hw [] b1531 h1531 n0 Z1539 ) hZ (hw _ (List.mem_of_getElem? (i := 87) rfl)) (hw _ (List.mem_of_getElem? (i := 84) rfl)) (by decide) (by decide)) (g := (mkF m 102 #[.val (.int p0), .val (.int p1), .val (.int p2), .val (.int p3), .val (.int p4), .val (.int p5), .val (.ref b823), .val (.ref b1451), .val (.ref b1490), .unset] [(.ref b1531), (.ref b1531)])) rfl (by rw [hml]; rfl) (Steps.refl _) (a := b1531) (argsL := []) (rest := [(.ref b1531)]) (lenOf pd_6 rfl) rfl (by show 2 * 0 + _ ≤ _; exact Nat.le_of_eq rfl) (hb hby at_102) (fun _ _ => ⟨rfl, e1531, (by decide : 8 + 0 ≤ _), (by decide : 21 + 0 ≤ _)⟩)
      dsimp only [Pt.U, Pt.locs, Pt.cells, Pt.slots] at X1570 l1570 y1570 z1570 st1570 hQ1570
      subst l1570 y1570 z1570
      obtain ⟨rfl, N1571, e1570⟩ := hQ1570
      have N1573 := Fr.app N1496 N1571
      refine own_goT st1570 ?_
      refine own_go (S' := T1570.setTop (mkF m 107 #[.val (.int p0), .val (.int p1), .val (.int p2), .val (.int p3), .val (.int p4), .val (.int p5), .val (.ref b823), .val (.ref b1451), .val (.ref b1490), .unset] [(.ref b823), (.ref b1531)])) (fun t k => ?_) ?_
      · show Steps p.tables e below (T1570.setTop (mkF m 105 #[.val (.int p0), .val (.int p1), .val (.int p2), .val (.int p3), .val (.int p4), .val (.int p5), .val (.ref b823), .val (.ref b1451), .val (.ref b1490), .unset] [(.ref b1531)])) t
        refine XS.aload X1570.here hx rfl (hb hby at_105) rfl rfl ?_
        exact k
      obtain ⟨T1574, h1574, X1574, e1574, E1574, A1574, D1574, -, st1574⟩ := newO X1570 hx hZ hown (hw _ (List.mem_of_getElem? (i := 62) rfl)) (hw _ (List.mem_of_getElem? (i := 38) rfl)) (hw _ (List.mem_of_getElem? (i := 39) rfl)) e1570 (g := (mkF m 107 #[.val (.int p0), .val (.int p1), .val (.int p2), .val (.int p3), .val (.int p4), .val (.int p5), .val (.ref b823), .val (.ref b1451), .val (.ref b1490), .unset] [(.ref b823), (.ref b1531)])) rfl (hb hby at_107) (by decide) (by decide)
      obtain ⟨b1574, g1574⟩ : ∃ z, z = h1531.size := ⟨_, rfl⟩
      rw [← g1574] at A1574 D1574 st1574
      have ne1575 : b823 ≠ b1574 := Nat.ne_of_lt (Nat.lt_of_lt_of_le f1542.lt (Nat.le_of_eq g1574.symm))
      have ne1576 : b836 ≠ b1574 := Nat.ne_of_lt (Nat.lt_of_lt_of_le f1543.lt (Nat.le_of_eq g1574.symm))
      have ne1577 : b837 ≠ b1574 := Nat.ne_of_lt (Nat.lt_of_lt_of_le f1547.lt (Nat.le_of_eq g1574.symm))
      have ne1578 : b838 ≠ b1574 := Nat.ne_of_lt (Nat.lt_of_lt_of_le f1551.lt (Nat.le_of_eq g1574.symm))
      have ne1579 : b1350 ≠ b1574 := Nat.ne_of_lt (Nat.lt_of_lt_of_le f1554.lt (Nat.le_of_eq g1574.symm))
      have ne1580 : b1451 ≠ b1574 := Nat.ne_of_lt (Nat.lt_of_lt_of_le f1565.lt (Nat.le_of_eq g1574.symm))
      have ne1581 : b1490 ≠ b1574 := Nat.ne_of_lt (Nat.lt_of_lt_of_le f1567.lt (Nat.le_of_eq g1574.symm))
      have ne1582 : b1531 ≠ b1574 := Nat.ne_of_lt (Nat.lt_of_lt_of_le A1531.lt (Nat.le_of_eq g1574.symm))
      have g_b1574 : n0 ≤ b1574 := Nat.le_trans Z1539 (Nat.le_of_eq g1574.symm)
      have Z1583 : n0 ≤ h1574.size := Nat.le_trans Z1539 E1574.1
      have f1584 : Sta Z h1574 "java/util/ArrayList" "DEFAULTCAPACITY_EMPTY_ELEMENTDATA" "[Ljava/lang/Object;" (.ref w_s_DEFAULTCAPACITY_EMPTY_ELEMENTDATA) := Sta.ext E1574 f1540
      have f1585 : Sta Z h1574 "com/example/dropwire/dropwire/dnd/Actions" "NONE" "Lcom/example/dropwire/dropwire/dnd/Actions;" (.ref w_s_NONE) := Sta.ext E1574 f1541
      have f1586 : Exa Z h1574 b823 "com/example/dropwire/dropwire/inprocess/InProcessPeer" := Exa.ext E1574 f1542
      have f1587 : Exa Z h1574 b836 "java/util/ArrayList" := Exa.ext E1574 f1543
      have f1588 : Fld Z h1574 b836 "java/util/ArrayList" "size" "I" (.int (0 : Int32)) := Fld.ext E1574 f1544
      have f1589 : Fld Z h1574 b836 "java/util/AbstractList" "modCount" "I" (.int (0 : Int32)) := Fld.ext E1574 f1545
      have f1590 : Fld Z h1574 b836 "java/util/ArrayList" "elementData" "[Ljava/lang/Object;" (.ref w_s_DEFAULTCAPACITY_EMPTY_ELEMENTDATA) := Fld.ext E1574 f1546
      have f1591 : Exa Z h1574 b837 "java/util/ArrayList" := Exa.ext E1574 f1547
      have f1592 : Fld Z h1574 b837 "java/util/ArrayList" "size" "I" (.int (0 : Int32)) := Fld.ext E1574 f1548
      have f1593 : Fld Z h1574 b837 "java/util/AbstractList" "modCount" "I" (.int (0 : Int32)) := Fld.ext E1574 f1549
      have f1594 : Fld Z h1574 b837 "java/util/ArrayList" "elementData" "[Ljava/lang/Object;" (.ref w_s_DEFAULTCAPACITY_EMPTY_ELEMENTDATA) := Fld.ext E1574 f1550
      have f1595 : Exa Z h1574 b838 "com/example/dropwire/dropwire/dnd/Point" := Exa.ext E1574 f1551
      have f1596 : Fld Z h1574 b838 "com/example/dropwire/dropwire/dnd/Point" "x" "I" (.int (0 : Int32)) := Fld.ext E1574 f1552
      have f1597 : Fld Z h1574 b838 "com/example/dropwire/dropwire/dnd/Point" "y" "I" (.int (0 : Int32)) := Fld.ext E1574 f1553
      have f1598 : Exa Z h1574 b1350 "com/example/dropwire/dropwire/dnd/Point" := Exa.ext E1574 f1554
      have f1599 : Fld Z h1574 b1350 "com/example/dropwire/dropwire/dnd/Point" "x" "I" (.int p2) := Fld.ext E1574 f1555
      have f1600 : Fld Z h1574 b1350 "com/example/dropwire/dropwire/dnd/Point" "y" "I" (.int p3) := Fld.ext E1574 f1556
      have f1601 : Fld Z h1574 b823 "com/example/dropwire/dropwire/inprocess/InProcessPeer" "components" "Ljava/util/List;" (.ref b836) := Fld.ext E1574 f1557
      have f1602 : Fld Z h1574 b823 "com/example/dropwire/dropwire/inprocess/InProcessPeer" "recognizers" "Ljava/util/List;" (.ref b837) := Fld.ext E1574 f1558
      have f1603 : Fld Z h1574 b823 "com/example/dropwire/dropwire/inprocess/InProcessPeer" "drag" "Lcom/example/dropwire/dropwire/dnd/DragSourceContext;" .null := Fld.ext E1574 f1559
      have f1604 : Fld Z h1574 b823 "com/example/dropwire/dropwire/inprocess/InProcessPeer" "recognizing" "Lcom/example/dropwire/dropwire/inprocess/InProcessPeer$Recognizer;" .null := Fld.ext E1574 f1560
      have f1605 : Fld Z h1574 b823 "com/example/dropwire/dropwire/inprocess/InProcessPeer" "plain" "Lcom/example/dropwire/dropwire/dnd/Actions;" .null := Fld.ext E1574 f1561
      have f1606 : Fld Z h1574 b823 "com/example/dropwire/dropwire/inprocess/InProcessPeer" "under" "Lcom/example/dropwire/dropwire/inprocess/InProcessPeer$Component;" .null := Fld.ext E1574 f1562
      have f1607 : Fld Z h1574 b823 "com/example/dropwire/dropwire/inprocess/InProcessPeer" "visit" "Lcom/example/dropwire/dropwire/dnd/DropTargetVisit;" .null := Fld.ext E1574 f1563
      have f1608 : Fld Z h1574 b823 "com/example/dropwire/dropwire/inprocess/InProcessPeer" "hotspot" "Lcom/example/dropwire/dropwire/dnd/Point;" (.ref b1350) := Fld.ext E1574 f1564
      have f1609 : Exa Z h1574 b1451 "com/example/dropwire/dropwire/dnd/Actions" := Exa.ext E1574 f1565
      have f1610 : Fld Z h1574 b1451 "com/example/dropwire/dropwire/dnd/Actions" "bits" "I" (.int ((1 : Int32) <<< (((p4 &&& (2147483647 : Int32)) % (3 : Int32)) &&& 31))) := Fld.ext E1574 f1566
      have f1611 : Exa Z h1574 b1490 "com/example/dropwire/dropwire/dnd/Actions" := Exa.ext E1574 f1567
      have f1612 : Fld Z h1574 b1490 "com/example/dropwire/dropwire/dnd/Actions" "bits" "I" (.int ((Jvm.Free.XT.ushr p4 (8 : Int32)) &&& (7 : Int32))) := Fld.ext E1574 f1568
      have f1613 : Exa Z h1574 b1531 "com/example/dropwire/dropwire/dnd/DragSource" := Exa.ext E1574 A1531
      have f1614 : Unt h1574 b1531 := Unt.ext E1574 Un1531
      have f1615 : Fld Z h1574 b1531 "com/example/dropwire/dropwire/dnd/DragSource" "current" "Lcom/example/dropwire/dropwire/dnd/DragSourceContext;" .null := Fld.ext E1574 f1569
      have f1616 : Fld Z h1574 b1574 "com/example/dropwire/dropwire/dnd/Point" "x" "I" (.int (0 : Int32)) := D1574 (Or.inr (hw _ (List.mem_of_getElem? (i := 50) rfl))) (ty := .int) (by decide)
      have f1617 : Fld Z h1574 b1574 "com/example/dropwire/dropwire/dnd/Point" "y" "I" (.int (0 : Int32)) := D1574 (Or.inr (hw _ (List.mem_of_getElem? (i := 52) rfl))) (ty := .int) (by decide)
      refine own_go st1574 ?_
      refine own_go (S' := T1574.setTop (mkF m 113 #[.val (.int p0), .val (.int p1), .val (.int p2), .val (.int p3), .val (.int p4), .val (.int p5), .val (.ref b823), .val (.ref b1451), .val (.ref b1490), .unset] [(.int p1), (.int p0), (.ref b1574), (.ref b1574), (.ref b823), (.ref b1531)])) (fun t k => ?_) ?_
      · show Steps p.tables e below (T1574.setTop (mkF m 110 #[.val (.int p0), .val (.int p1), .val (.int p2), .val (.int p3), .val (.int p4), .val (.int p5), .val (.ref b823), .val (.ref b1451), .val (.ref b1490), .unset] [(.ref b1574), (.ref b823), (.ref b1531)])) t
        refine XS.dup X1574.here hx rfl (hb hby at_110) rfl rfl ?_
        show Steps p.tables e below (T1574.setTop (mkF m 111 #[.val (.int p0), .val (.int p1), .val (.int p2), .val (.int p3), .val (.int p4), .val (.int p5), .val (.ref b823), .val (.ref b1451), .val (.ref b1490), .unset] [(.ref b1574), (.ref b1574), (.ref b823), (.ref b1531)])) t
        refine XS.iloadN X1574.here hx rfl (hb hby at_111) rfl ?_
        show Steps p.tables e below (T1574.setTop (mkF m 112 #[.val (.int p0), .val (.int p1), .val (.int p2), .val (.int p3), .val (.int p4), .val (.int p5), .val (.ref b823), .val (.ref b1451), .val (.ref b1490), .unset] [(.int p0), (.ref b1574), (.ref b1574), (.ref b823), (.ref b1531)])) t
        refine XS.iloadN X1574.here hx rfl (hb hby at_112) rfl ?_
        exact k
      obtain ⟨_, _, ⟨T1618, L1618, kk1618, nn1618⟩, -, X1618, ⟨Lc1618, hQ1618, l1618, y1618, z1618⟩, st1618⟩ := X1574.specialBack hx (y := (⟨"com/example/dropwire/dropwire/dnd/Point", "<init>", "(II)V"⟩ : MethodName)) rfl hown (mvT hZ (hw _ (List.mem_of_getElem? (i := 63) rfl))) (mvT hZ (hw _ (List.mem_of_getElem? (i := 41) rfl))) (mvT hZ (hw _ (List.mem_of_getElem? (i := 42) rfl))) (by decide) (backOf (W := 3) (ptInit l Z a0 hw [] b1574 p0 p1 (0 : Int32) (0 : Int32) h1574 n0 Z1583 A1574 f1616 f1617 g_b1574) hZ (hw _ (List.mem_of_getElem? (i := 42) rfl)) (hw _ (List.mem_of_getElem? (i := 39) rfl)) (by decide) (by decide)) (g := (mkF m 113 #[.val (.int p0), .val (.int p1), .val (.int p2), .val (.int p3), .val (.int p4), .val (.int p5), .val (.ref b823), .val (.ref b1451), .val (.ref b1490), .unset] [(.int p1), (.int p0), (.ref b1574), (.ref b1574), (.ref b823), (.ref b1531)])) rfl (by rw [hml]; rfl) (Steps.refl _) (a := b1574) (argsL := [(.int p0), (.int p1)]) (rest := [(.ref b1574), (.ref b823), (.ref b1531)]) (lenOf pd_51 rfl) rfl (by show 2 * 0 + _ ≤ _; exact Nat.le_of_eq rfl) (hb hby at_113) (fun _ _ => ⟨rfl, e1574, (by decide : 9 + 0 ≤ _), (by decide : 23 + 0 ≤ _)⟩)
      dsimp only [Pt.U, Pt.locs, Pt.cells, Pt.slots] at X1618 l1618 y1618 z1618 st1618 hQ1618
      subst l1618 y1618 z1618
      obtain ⟨rfl, N1619, K1620, p1621, p1622, p1623⟩ := hQ1618
      have N1624 := Fr.app N1573 N1619
      have f1625 : Sta Z T1618.heap "java/util/ArrayList" "DEFAULTCAPACITY_EMPTY_ELEMENTDATA" "[Ljava/lang/Object;" (.ref w_s_DEFAULTCAPACITY_EMPTY_ELEMENTDATA) := own_sta_keep f1584 K1620 (allS (own_plain A1574) all0)
      have f1626 : Sta Z T1618.heap "com/example/dropwire/dropwire/dnd/Actions" "NONE" "Lcom/example/dropwire/dropwire/dnd/Actions;" (.ref w_s_NONE) := own_sta_keep f1585 K1620 (allS (own_plain A1574) all0)
      have f1627 : Exa Z T1618.heap b823 "com/example/dropwire/dropwire/inprocess/InProcessPeer" := f1586.keep K1620
      have f1628 : Exa Z T1618.heap b836 "java/util/ArrayList" := f1587.keep K1620
      have f1629 : Fld Z T1618.heap b836 "java/util/ArrayList" "size" "I" (.int (0 : Int32)) := f1588.keep K1620 (ninS ne1576 nin0)
      have f1630 : Fld Z T1618.heap b836 "java/util/AbstractList" "modCount" "I" (.int (0 : Int32)) := f1589.keep K1620 (ninS ne1576 nin0)
      have f1631 : Fld Z T1618.heap b836 "java/util/ArrayList" "elementData" "[Ljava/lang/Object;" (.ref w_s_DEFAULTCAPACITY_EMPTY_ELEMENTDATA) := f1590.keep K1620 (ninS ne1576 nin0)
      have f1632 : Exa Z T1618.heap b837 "java/util/ArrayList" := f1591.keep K1620
      have f1633 : Fld Z T1618.heap b837 "java/util/ArrayList" "size" "I" (.int (0 : Int32)) := f1592.keep K1620 (ninS ne1577 nin0)
      have f1634 : Fld Z T1618.heap b837 "java/util/AbstractList" "modCount" "I" (.int (0 : Int32)) := f1593.keep K1620 (ninS ne1577 nin0)
      have f1635 : Fld Z T1618.heap b837 "java/util/ArrayList" "elementData" "[Ljava/lang/Object;" (.ref w_s_DEFAULTCAPACITY_EMPTY_ELEMENTDATA) := f1594.keep K1620 (ninS ne1577 nin0)
      have f1636 : Exa Z T1618.heap b838 "com/example/dropwire/dropwire/dnd/Point" := f1595.keep K1620
      have f1637 : Fld Z T1618.heap b838 "com/example/dropwire/dropwire/dnd/Point" "x" "I" (.int (0 : Int32)) := f1596.keep K1620 (ninS ne1578 nin0)
      have f1638 : Fld Z T1618.heap b838 "com/example/dropwire/dropwire/dnd/Point" "y" "I" (.int (0 : Int32)) := f1597.keep K1620 (ninS ne1578 nin0)
      have f1639 : Exa Z T1618.heap b1350 "com/example/dropwire/dropwire/dnd/Point" := f1598.keep K1620
      have f1640 : Fld Z T1618.heap b1350 "com/example/dropwire/dropwire/dnd/Point" "x" "I" (.int p2) := f1599.keep K1620 (ninS ne1579 nin0)
      have f1641 : Fld Z T1618.heap b1350 "com/example/dropwire/dropwire/dnd/Point" "y" "I" (.int p3) := f1600.keep K1620 (ninS ne1579 nin0)
      have f1642 : Fld Z T1618.heap b823 "com/example/dropwire/dropwire/inprocess/InProcessPeer" "components" "Ljava/util/List;" (.ref b836) := f1601.keep K1620 (ninS ne1575 nin0)
      have f1643 : Fld Z T1618.heap b823 "com/example/dropwire/dropwire/inprocess/InProcessPeer" "recognizers" "Ljava/util/List;" (.ref b837) := f1602.keep K1620 (ninS ne1575 nin0)
      have f1644 : Fld Z T1618.heap b823 "com/example/dropwire/dropwire/inprocess/InProcessPeer" "drag" "Lcom/example/dropwire/dropwire/dnd/DragSourceContext;" .null := f1603.keep K1620 (ninS ne1575 nin0)
      have f1645 : Fld Z T1618.heap b823 "com/example/dropwire/dropwire/inprocess/InProcessPeer" "recognizing" "Lcom/example/dropwire/dropwire/inprocess/InProcessPeer$Recognizer;" .null := f1604.keep K1620 (ninS ne1575 nin0)
      have f1646 : Fld Z T1618.heap b823 "com/example/dropwire/dropwire/inprocess/InProcessPeer" "plain" "Lcom/example/dropwire/dropwire/dnd/Actions;" .null := f1605.keep K1620 (ninS ne1575 nin0)
      have f1647 : Fld Z T1618.heap b823 "com/example/dropwire/dropwire/inprocess/InProcessPeer" "under" "Lcom/example/dropwire/dropwire/inprocess/InProcessPeer$Component;" .null := f1606.keep K1620 (ninS ne1575 nin0)
      have f1648 : Fld Z T1618.heap b823 "com/example/dropwire/dropwire/inprocess/InProcessPeer" "visit" "Lcom/example/dropwire/dropwire/dnd/DropTargetVisit;" .null := f1607.keep K1620 (ninS ne1575 nin0)
      have f1649 : Fld Z T1618.heap b823 "com/example/dropwire/dropwire/inprocess/InProcessPeer" "hotspot" "Lcom/example/dropwire/dropwire/dnd/Point;" (.ref b1350) := f1608.keep K1620 (ninS ne1575 nin0)
      have f1650 : Exa Z T1618.heap b1451 "com/example/dropwire/dropwire/dnd/Actions" := f1609.keep K1620
      have f1651 : Fld Z T1618.heap b1451 "com/example/dropwire/dropwire/dnd/Actions" "bits" "I" (.int ((1 : Int32) <<< (((p4 &&& (2147483647 : Int32)) % (3 : Int32)) &&& 31))) := f1610.keep K1620 (ninS ne1580 nin0)
      have f1652 : Exa Z T1618.heap b1490 "com/example/dropwire/dropwire/dnd/Actions" := f1611.keep K1620
      have f1653 : Fld Z T1618.heap b1490 "com/example/dropwire/dropwire/dnd/Actions" "bits" "I" (.int ((Jvm.Free.XT.ushr p4 (8 : Int32)) &&& (7 : Int32))) := f1612.keep K1620 (ninS ne1581 nin0)
      have f1654 : Exa Z T1618.heap b1531 "com/example/dropwire/dropwire/dnd/DragSource" := f1613.keep K1620
      have f1655 : Unt T1618.heap b1531 := own_unt_keep f1614 K1620 (ninS ne1582 nin0)
      have f1656 : Fld Z T1618.heap b1531 "com/example/dropwire/dropwire/dnd/DragSource" "current" "Lcom/example/dropwire/dropwire/dnd/DragSourceContext;" .null := f1615.keep K1620 (ninS ne1582 nin0)
      have f1657 : Exa Z T1618.heap b1574 "com/example/dropwire/dropwire/dnd/Point" := A1574.keep K1620
      have Z1658 : n0 ≤ T1618.heap.size := Nat.le_trans Z1583 K1620.1
      refine own_goT st1618 ?_
      refine own_go (S' := T1618.setTop (mkF m 118 #[.val (.int p0), .val (.int p1), .val (.int p2), .val (.int p3), .val (.int p4), .val (.int p5), .val (.ref b823), .val (.ref b1451), .val (.ref b1490), .unset] [(.ref b1451), (.ref b1574), (.ref b823), (.ref b1531)])) (fun t k => ?_) ?_
      · show Steps p.tables e below (T1618.setTop (mkF m 116 #[.val (.int p0), .val (.int p1), .val (.int p2), .val (.int p3), .val (.int p4), .val (.int p5), .val (.ref b823), .val (.ref b1451), .val (.ref b1490), .unset] [(.ref b1574), (.ref b823), (.ref b1531)])) t
        refine XS.aload X1618.here hx rfl (hb hby at_116) rfl rfl ?_
        exact k
      obtain ⟨cq1659, kq1659, qa1659, qb1659, qc1659⟩ := isOf hZ rfl f1627
      obtain ⟨_, _, ⟨T1659, L1659, kk1659, nn1659⟩, -, X1659, ⟨Lc1659, hQ1659, l1659, y1659, z1659⟩, st1659⟩ := X1618.virtualBack hx (y := (⟨"com/example/dropwire/dropwire/inprocess/InProcessPeer", "gesture", "(Lcom/example/dropwire/dropwire/dnd/Point;Lcom/example/dropwire/dropwire/dnd/Actions;)Lcom/example/dropwire/dropwire/dnd/DragGesture;"⟩ : MethodName)) (z := (⟨"com/example/dropwire/dropwire/inprocess/InProcessPeer", "gesture", "(Lcom/example/dropwire/dropwire/dnd/Point;Lcom/example/dropwire/dropwire/dnd/Actions;)Lcom/example/dropwire/dropwire/dnd/DragGesture;"⟩ : MethodName)) hown (mvT hZ (hw _ (List.mem_of_getElem? (i := 89) rfl))) (mvT hZ (hw _ (List.mem_of_getElem? (i := 90) rfl))) (notFace_of_selects (args := #[]) (mvT hZ (hw _ (List.mem_of_getElem? (i := 92) rfl)))) (mvT hZ (hw _ (List.mem_of_getElem? (i := 92) rfl))) (mvT hZ (hw _ (List.mem_of_getElem? (i := 91) rfl))) (by decide) (backOf (W := 1) (gest l Z a0 hw [] b823 b1574 b1451 ((1 : Int32) <<< (((p4 &&& (2147483647 : Int32)) % (3 : Int32)) &&& 31)) T1618.heap n0 Z1658 ((own_bits p4).2 : (bitCount_r ((1 : Int32) <<< (((p4 &&& (2147483647 : Int32)) % (3 : Int32)) &&& 31))) = (1 : Int32)) f1651 f1650) hZ (hw _ (List.mem_of_getElem? (i := 93) rfl)) (hw _ (List.mem_of_getElem? (i := 2) rfl)) (by decide) (by decide)) qa1659 qc1659 (g := (mkF m 118 #[.val (.int p0), .val (.int p1), .val (.int p2), .val (.int p3), .val (.int p4), .val (.int p5), .val (.ref b823), .val (.ref b1451), .val (.ref b1490), .unset] [(.ref b1451), (.ref b1574), (.ref b823), (.ref b1531)])) rfl (by rw [hml]; rfl) (Steps.refl _) (argsL := [(.ref b1574), (.ref b1451)]) (rest := [(.ref b1531)]) (lenOf pd_320 rfl) rfl (by show 2 * 0 + _ ≤ _; exact Nat.le_of_eq rfl) (hb hby at_118) (fun _ _ => ⟨rfl, rfl, (by decide : 9 + 1 ≤ _), (by decide : 23 + 3 ≤ _)⟩)
      dsimp only [Pt.U, Pt.locs, Pt.cells, Pt.slots] at X1659 l1659 y1659 z1659 st1659 hQ1659
      subst l1659 y1659 z1659
      obtain ⟨b1660, rfl, N1661, K1662, p1663, p1664, p1665, p1666, p1667⟩ := hQ1659
      have N1668 := Fr.app N1624 N1661
      have ne1669 : b823 ≠ b1660 := Nat.ne_of_lt (Nat.lt_of_lt_of_le f1627.lt p1663)
      have ne1670 : b836 ≠ b1660 := Nat.ne_of_lt (Nat.lt_of_lt_of_le f1628.lt p1663)
      have ne1671 : b837 ≠ b1660 := Nat.ne_of_lt (Nat.lt_of_lt_of_le f1632.lt p1663)
      have ne1672 : b838 ≠ b1660 := Nat.ne_of_lt (Nat.lt_of_lt_of_le f1636.lt p1663)
      have ne1673 : b1350 ≠ b1660 := Nat.ne_of_lt (Nat.lt_of_lt_of_le f1639.lt p1663)
      have ne1674 : b1451 ≠ b1660 := Nat.ne_of_lt (Nat.lt_of_lt_of_le f1650.lt p1663)
      have ne1675 : b1490 ≠ b1660 := Nat.ne_of_lt (Nat.lt_of_lt_of_le f1652.lt p1663)
      have ne1676 : b1531 ≠ b1660 := Nat.ne_of_lt (Nat.lt_of_lt_of_le f1654.lt p1663)
      have ne1677 : b1574 ≠ b1660 := Nat.ne_of_lt (Nat.lt_of_lt_of_le p1621.lt p1663)
      have g_b1660 : n0 ≤ b1660 := Nat.le_trans Z1658 p1663
      have f1678 : Sta Z T1659.heap "java/util/ArrayList" "DEFAULTCAPACITY_EMPTY_ELEMENTDATA" "[Ljava/lang/Object;" (.ref w_s_DEFAULTCAPACITY_EMPTY_ELEMENTDATA) := own_sta_keep f1625 K1662 all0
      have f1679 : Sta Z T1659.heap "com/example/dropwire/dropwire/dnd/Actions" "NONE" "Lcom/example/dropwire/dropwire/dnd/Actions;" (.ref w_s_NONE) := own_sta_keep f1626 K1662 all0
      have f1680 : Exa Z T1659.heap b823 "com/example/dropwire/dropwire/inprocess/InProcessPeer" := f1627.keep K1662
      have f1681 : Exa Z T1659.heap b836 "java/util/ArrayList" := f1628.keep K1662
      have f1682 : Fld Z T1659.heap b836 "java/util/ArrayList" "size" "I" (.int (0 : Int32)) := f1629.keep K1662 nin0
      have f1683 : Fld Z T1659.heap b836 "java/util/AbstractList" "modCount" "I" (.int (0 : Int32)) := f1630.keep K1662 nin0
      have f1684 : Fld Z T1659.heap b836 "java/util/ArrayList" "elementData" "[Ljava/lang/Object;" (.ref w_s_DEFAULTCAPACITY_EMPTY_ELEMENTDATA) := f1631.keep K1662 nin0
      have f1685 : Exa Z T1659.heap b837 "java/util/ArrayList" := f1632.keep K1662
      have f1686 : Fld Z T1659.heap b837 "java/util/ArrayList" "size" "I" (.int (0 : Int32)) := f1633.keep K1662 nin0
      have f1687 : Fld Z T1659.heap b837 "java/util/AbstractList" "modCount" "I" (.int (0 : Int32)) := f1634.keep K1662 nin0
      have f1688 : Fld Z T1659.heap b837 "java/util/ArrayList" "elementData" "[Ljava/lang/Object;" (.ref w_s_DEFAULTCAPACITY_EMPTY_ELEMENTDATA) := f1635.keep K1662 nin0
      have f1689 : Exa Z T1659.heap b838 "com/example/dropwire/dropwire/dnd/Point" := f1636.keep K1662
      have f1690 : Fld Z T1659.heap b838 "com/example/dropwire/dropwire/dnd/Point" "x" "I" (.int (0 : Int32)) := f1637.keep K1662 nin0
      have f1691 : Fld Z T1659.heap b838 "com/example/dropwire/dropwire/dnd/Point" "y" "I" (.int (0 : Int32)) := f1638.keep K1662 nin0
      have f1692 : Exa Z T1659.heap b1350 "com/example/dropwire/dropwire/dnd/Point" := f1639.keep K1662
      have f1693 : Fld Z T1659.heap b1350 "com/example/dropwire/dropwire/dnd/Point" "x" "I" (.int p2) := f1640.keep K1662 nin0
      have f1694 : Fld Z T1659.heap b1350 "com/example/dropwire/dropwire/dnd/Point" "y" "I" (.int p3) := f1641.keep K1662 nin0
      have f1695 : Fld Z T1659.heap b823 "com/example/dropwire/dropwire/inprocess/InProcessPeer" "components" "Ljava/util/List;" (.ref b836) := f1642.keep K1662 nin0
      have f1696 : Fld Z T1659.heap b823 "com/example/dropwire/dropwire/inprocess/InProcessPeer" "recognizers" "Ljava/util/List;" (.ref b837) := f1643.keep K1662 nin0
      have f1697 : Fld Z T1659.heap b823 "com/example/dropwire/dropwire/inprocess/InProcessPeer" "drag" "Lcom/example/dropwire/dropwire/dnd/DragSourceContext;" .null := f1644.keep K1662 nin0
      have f1698 : Fld Z T1659.heap b823 "com/example/dropwire/dropwire/inprocess/InProcessPeer" "recognizing" "Lcom/example/dropwire/dropwire/inprocess/InProcessPeer$Recognizer;" .null := f1645.keep K1662 nin0
      have f1699 : Fld Z T1659.heap b823 "com/example/dropwire/dropwire/inprocess/InProcessPeer" "plain" "Lcom/example/dropwire/dropwire/dnd/Actions;" .null := f1646.keep K1662 nin0
      have f1700 : Fld Z T1659.heap b823 "com/example/dropwire/dropwire/inprocess/InProcessPeer" "under" "Lcom/example/dropwire/dropwire/inprocess/InProcessPeer$Component;" .null := f1647.keep K1662 nin0
      have f1701 : Fld Z T1659.heap b823 "com/example/dropwire/dropwire/inprocess/InProcessPeer" "visit" "Lcom/example/dropwire/dropwire/dnd/DropTargetVisit;" .null := f1648.keep K1662 nin0
      have f1702 : Fld Z T1659.heap b823 "com/example/dropwire/dropwire/inprocess/InProcessPeer" "hotspot" "Lcom/example/dropwire/dropwire/dnd/Point;" (.ref b1350) := f1649.keep K1662 nin0
      have f1703 : Exa Z T1659.heap b1451 "com/example/dropwire/dropwire/dnd/Actions" := f1650.keep K1662
      have f1704 : Fld Z T1659.heap b1451 "com/example/dropwire/dropwire/dnd/Actions" "bits" "I" (.int ((1 : Int32) <<< (((p4 &&& (2147483647 : Int32)) % (3 : Int32)) &&& 31))) := f1651.keep K1662 nin0
      have f1705 : Exa Z T1659.heap b1490 "com/example/dropwire/dropwire/dnd/Actions" := f1652.keep K1662
      have f1706 : Fld Z T1659.heap b1490 "com/example/dropwire/dropwire/dnd/Actions" "bits" "I" (.int ((Jvm.Free.XT.ushr p4 (8 : Int32)) &&& (7 : Int32))) := f1653.keep K1662 nin0
      have f1707 : Exa Z T1659.heap b1531 "com/example/dropwire/dropwire/dnd/DragSource" := f1654.keep K1662
      have f1708 : Unt T1659.heap b1531 := own_unt_keep f1655 K1662 nin0
      have f1709 : Fld Z T1659.heap b1531 "com/example/dropwire/dropwire/dnd/DragSource" "current" "Lcom/example/dropwire/dropwire/dnd/DragSourceContext;" .null := f1656.keep K1662 nin0
      have f1710 : Exa Z T1659.heap b1574 "com/example/dropwire/dropwire/dnd/Point" := p1621.keep K1662
      have f1711 : Fld Z T1659.heap b1574 "com/example/dropwire/dropwire/dnd/Point" "x" "I" (.int p0) := p1622.keep K1662 nin0
      have f1712 : Fld Z T1659.heap b1574 "com/example/dropwire/dropwire/dnd/Point" "y" "I" (.int p1) := p1623.keep K1662 nin0
      have Z1713 : n0 ≤ T1659.heap.size := Nat.le_trans Z1658 K1662.1
      refine own_goT st1659 ?_
      refine own_go (S' := T1659.setTop (mkF m 125 #[.val (.int p0), .val (.int p1), .val (.int p2), .val (.int p3), .val (.int p4), .val (.int p5), .val (.ref b823), .val (.ref b1451), .val (.ref b1490), .unset] [.null, (.ref b1490), .null, (.ref b1660), (.ref b1531)])) (fun t k => ?_) ?_
      · show Steps p.tables e below (T1659.setTop (mkF m 121 #[.val (.int p0), .val (.int p1), .val (.int p2), .val (.int p3), .val (.int p4), .val (.int p5), .val (.ref b823), .val (.ref b1451), .val (.ref b1490), .unset] [(.ref b1660), (.ref b1531)])) t
        refine XS.aconstNull X1659.here hx rfl (hb hby at_121) ?_
        show Steps p.tables e below (T1659.setTop (mkF m 122 #[.val (.int p0), .val (.int p1), .val (.int p2), .val (.int p3), .val (.int p4), .val (.int p5), .val (.ref b823), .val (.ref b1451), .val (.ref b1490), .unset] [.null, (.ref b1660), (.ref b1531)])) t
        refine XS.aload X1659.here hx rfl (hb hby at_122) rfl rfl ?_
        show Steps p.tables e below (T1659.setTop (mkF m 124 #[.val (.int p0), .val (.int p1), .val (.int p2), .val (.int p3), .val (.int p4), .val (.int p5), .val (.ref b823), .val (.ref b1451), .val (.ref b1490), .unset] [(.ref b1490), .null, (.ref b1660), (.ref b1531)])) t
        refine XS.aconstNull X1659.here hx rfl (hb hby at_124) ?_
        exact k
      obtain ⟨cq1714, kq1714, qa1714, qb1714, qc1714⟩ := isOf hZ rfl f1707
      obtain ⟨_, _, ⟨T1714, L1714, kk1714, nn1714⟩, -, X1714, ⟨Lc1714, hQ1714, l1714, y1714, z1714⟩, st1714⟩ := X1659.virtualBack hx (y := (⟨"com/example/dropwire/dropwire/dnd/DragSource", "startDrag", "(Lcom/example/dropwire/dropwire/dnd/DragGesture;Lcom/example/dropwire/dropwire/transfer/Transferable;Lcom/example/dropwire/dropwire/dnd/Actions;Lcom/example/dropwire/dropwire/dnd/DragSourceListener;)Lcom/example/dropwire/dropwire/dnd/DragSourceContext;"⟩ : MethodName)) (z := (⟨"com/example/dropwire/dropwire/dnd/DragSource", "startDrag", "(Lcom/example/dropwire/dropwire/dnd/DragGesture;Lcom/example/dropwire/dropwire/transfer/Transferable;Lcom/example/dropwire/dropwire/dnd/Actions;Lcom/example/dropwire/dropwire/dnd/DragSourceListener;)Lcom/example/dropwire/dropwire/dnd/DragSourceContext;"⟩ : MethodName)) hown (mvT hZ (hw _ (List.mem_of_getElem? (i := 119) rfl))) (mvT hZ (hw _ (List.mem_of_getElem? (i := 120) rfl))) (notFace_of_selects (args := #[]) (mvT hZ (hw _ (List.mem_of_getElem? (i := 122) rfl)))) (mvT hZ (hw _ (List.mem_of_getElem? (i := 122) rfl))) (mvT hZ (hw _ (List.mem_of_getElem? (i := 121) rfl))) (by decide) (backOfWith (W := 0) (dsStart l Z a0 hw [] b1531 b1660 b1490 b1451 w_s_NONE b823 b1574 (.ref b836) b837 (.ref b1350) (.null) (.null) (.null) (0 : Int32) T1659.heap n0 Z1713 p1667 p1664 f1679 f1708 f1709 f1707 g_b1531 p1665 p1666 f1697 ne1532 f1680 g_b823 f1695 f1696 f1702 f1698 f1699 f1700 f1701 f1687 ne1534 (Ne.symm ne869) f1685 f1686) hZ (hw _ (List.mem_of_getElem? (i := 123) rfl)) (hw _ (List.mem_of_getElem? (i := 84) rfl)) (by decide) (by decide)) qa1714 qc1714 (g := (mkF m 125 #[.val (.int p0), .val (.int p1), .val (.int p2), .val (.int p3), .val (.int p4), .val (.int p5), .val (.ref b823), .val (.ref b1451), .val (.ref b1490), .unset] [.null, (.ref b1490), .null, (.ref b1660), (.ref b1531)])) rfl (by rw [hml]; rfl) (Steps.refl _) (argsL := [(.ref b1660), .null, (.ref b1490), .null]) (rest := []) (lenOf pd_321 rfl) rfl (by show 2 * 0 + _ ≤ _; exact Nat.le_of_eq rfl) (hb hby at_125) (fun _ _ => ⟨rfl, rfl, (by decide : 10 + 2 ≤ _), (by decide : 26 + 13 ≤ _)⟩)
      dsimp only [Pt.U, Pt.locs, Pt.cells, Pt.slots] at X1714 l1714 y1714 z1714 st1714 hQ1714
      subst l1714 y1714 z1714
      obtain ⟨b1715, rfl, N1716, K1717, p1718, p1719, p1720, p1721, p1722, p1723, p1724, p1725, p1726, p1727, p1728, p1729, p1730, p1731, p1732, p1733, p1734, p1735, p1736⟩ := hQ1714
      have N1737 := Fr.app N1668 N1716
      have ne1738 : b823 ≠ b1715 := Nat.ne_of_lt (Nat.lt_of_lt_of_le f1680.lt p1718)
      have ne1739 : b836 ≠ b1715 := Nat.ne_of_lt (Nat.lt_of_lt_of_le f1681.lt p1718)
      have ne1740 : b837 ≠ b1715 := Nat.ne_of_lt (Nat.lt_of_lt_of_le f1685.lt p1718)
      have ne1741 : b838 ≠ b1715 := Nat.ne_of_lt (Nat.lt_of_lt_of_le f1689.lt p1718)
      have ne1742 : b1350 ≠ b1715 := Nat.ne_of_lt (Nat.lt_of_lt_of_le f1692.lt p1718)
      have ne1743 : b1451 ≠ b1715 := Nat.ne_of_lt (Nat.lt_of_lt_of_le f1703.lt p1718)
      have ne1744 : b1490 ≠ b1715 := Nat.ne_of_lt (Nat.lt_of_lt_of_le f1705.lt p1718)
      have ne1745 : b1531 ≠ b1715 := Nat.ne_of_lt (Nat.lt_of_lt_of_le f1707.lt p1718)
      have ne1746 : b1574 ≠ b1715 := Nat.ne_of_lt (Nat.lt_of_lt_of_le f1710.lt p1718)
      have ne1747 : b1660 ≠ b1715 := Nat.ne_of_lt (Nat.lt_of_lt_of_le p1664.lt p1718)
      have g_b1715 : n0 ≤ b1715 := Nat.le_trans Z1713 p1718
      have f1748 : Sta Z T1714.heap "java/util/ArrayList" "DEFAULTCAPACITY_EMPTY_ELEMENTDATA" "[Ljava/lang/Object;" (.ref w_s_DEFAULTCAPACITY_EMPTY_ELEMENTDATA) := own_sta_keep f1678 K1717 (allS (own_plain f1707) (allS (own_plain f1680) all0))
      have f1749 : Sta Z T1714.heap "com/example/dropwire/dropwire/dnd/Actions" "NONE" "Lcom/example/dropwire/dropwire/dnd/Actions;" (.ref w_s_NONE) := own_sta_keep f1679 K1717 (allS (own_plain f1707) (allS (own_plain f1680) all0))
      have f1750 : Exa Z T1714.heap b823 "com/example/dropwire/dropwire/inprocess/InProcessPeer" := f1680.keep K1717
      have f1751 : Exa Z T1714.heap b836 "java/util/ArrayList" := f1681.keep K1717
      have f1752 : Fld Z T1714.heap b836 "java/util/ArrayList" "size" "I" (.int (0 : Int32)) := f1682.keep K1717 (ninS ne1533 (ninS (Ne.symm ne868) nin0))
      have f1753 : Fld Z T1714.heap b836 "java/util/AbstractList" "modCount" "I" (.int (0 : Int32)) := f1683.keep K1717 (ninS ne1533 (ninS (Ne.symm ne868) nin0))
      have f1754 : Fld Z T1714.heap b836 "java/util/ArrayList" "elementData" "[Ljava/lang/Object;" (.ref w_s_DEFAULTCAPACITY_EMPTY_ELEMENTDATA) := f1684.keep K1717 (ninS ne1533 (ninS (Ne.symm ne868) nin0))
      have f1755 : Exa Z T1714.heap b837 "java/util/ArrayList" := f1685.keep K1717
      have f1756 : Fld Z T1714.heap b837 "java/util/ArrayList" "size" "I" (.int (0 : Int32)) := f1686.keep K1717 (ninS ne1534 (ninS (Ne.symm ne869) nin0))
      have f1757 : Fld Z T1714.heap b837 "java/util/AbstractList" "modCount" "I" (.int (0 : Int32)) := f1687.keep K1717 (ninS ne1534 (ninS (Ne.symm ne869) nin0))
      have f1758 : Fld Z T1714.heap b837 "java/util/ArrayList" "elementData" "[Ljava/lang/Object;" (.ref w_s_DEFAULTCAPACITY_EMPTY_ELEMENTDATA) := f1688.keep K1717 (ninS ne1534 (ninS (Ne.symm ne869) nin0))
      have f1759 : Exa Z T1714.heap b838 "com/example/dropwire/dropwire/dnd/Point" := f1689.keep K1717
      have f1760 : Fld Z T1714.heap b838 "com/example/dropwire/dropwire/dnd/Point" "x" "I" (.int (0 : Int32)) := f1690.keep K1717 (ninS ne1535 (ninS (Ne.symm ne870) nin0))
      have f1761 : Fld Z T1714.heap b838 "com/example/dropwire/dropwire/dnd/Point" "y" "I" (.int (0 : Int32)) := f1691.keep K1717 (ninS ne1535 (ninS (Ne.symm ne870) nin0))
      have f1762 : Exa Z T1714.heap b1350 "com/example/dropwire/dropwire/dnd/Point" := f1692.keep K1717
      have f1763 : Fld Z T1714.heap b1350 "com/example/dropwire/dropwire/dnd/Point" "x" "I" (.int p2) := f1693.keep K1717 (ninS ne1536 (ninS (Ne.symm ne1351) nin0))
      have f1764 : Fld Z T1714.heap b1350 "com/example/dropwire/dropwire/dnd/Point" "y" "I" (.int p3) := f1694.keep K1717 (ninS ne1536 (ninS (Ne.symm ne1351) nin0))
      have f1765 : Exa Z T1714.heap b1451 "com/example/dropwire/dropwire/dnd/Actions" := f1703.keep K1717
      have f1766 : Fld Z T1714.heap b1451 "com/example/dropwire/dropwire/dnd/Actions" "bits" "I" (.int ((1 : Int32) <<< (((p4 &&& (2147483647 : Int32)) % (3 : Int32)) &&& 31))) := f1704.keep K1717 (ninS ne1537 (ninS (Ne.symm ne1458) nin0))
      have f1767 : Exa Z T1714.heap b1490 "com/example/dropwire/dropwire/dnd/Actions" := f1705.keep K1717
      have f1768 : Fld Z T1714.heap b1490 "com/example/dropwire/dropwire/dnd/Actions" "bits" "I" (.int ((Jvm.Free.XT.ushr p4 (8 : Int32)) &&& (7 : Int32))) := f1706.keep K1717 (ninS ne1538 (ninS (Ne.symm ne1497) nin0))
      have f1769 : Exa Z T1714.heap b1531 "com/example/dropwire/dropwire/dnd/DragSource" := f1707.keep K1717
      have f1770 : Exa Z T1714.heap b1574 "com/example/dropwire/dropwire/dnd/Point" := f1710.keep K1717
      have f1771 : Fld Z T1714.heap b1574 "com/example/dropwire/dropwire/dnd/Point" "x" "I" (.int p0) := f1711.keep K1717 (ninS (Ne.symm ne1582) (ninS (Ne.symm ne1575) nin0))
      have f1772 : Fld Z T1714.heap b1574 "com/example/dropwire/dropwire/dnd/Point" "y" "I" (.int p1) := f1712.keep K1717 (ninS (Ne.symm ne1582) (ninS (Ne.symm ne1575) nin0))
      have f1773 : Exa Z T1714.heap b1660 "com/example/dropwire/dropwire/dnd/DragGesture" := p1664.keep K1717
      have f1774 : Fld Z T1714.heap b1660 "com/example/dropwire/dropwire/dnd/DragGesture" "peer" "Lcom/example/dropwire/dropwire/dnd/DragSourcePeer;" (.ref b823) := p1665.keep K1717 (ninS (Ne.symm ne1676) (ninS (Ne.symm ne1669) nin0))
      have f1775 : Fld Z T1714.heap b1660 "com/example/dropwire/dropwire/dnd/DragGesture" "origin" "Lcom/example/dropwire/dropwire/dnd/Point;" (.ref b1574) := p1666.keep K1717 (ninS (Ne.symm ne1676) (ninS (Ne.symm ne1669) nin0))
      have f1776 : Fld Z T1714.heap b1660 "com/example/dropwire/dropwire/dnd/DragGesture" "userAction" "Lcom/example/dropwire/dropwire/dnd/Actions;" (.ref b1451) := p1667.keep K1717 (ninS (Ne.symm ne1676) (ninS (Ne.symm ne1669) nin0))
      have Z1777 : n0 ≤ T1714.heap.size := Nat.le_trans Z1713 K1717.1
      refine own_goT st1714 ?_
      refine own_go (S' := T1714.setTop (mkF m 131 #[.val (.int p0), .val (.int p1), .val (.int p2), .val (.int p3), .val (.int p4), .val (.int p5), .val (.ref b823), .val (.ref b1451), .val (.ref b1490), .unset] [(.ref b823)])) (fun t k => ?_) ?_
      · show Steps p.tables e below (T1714.setTop (mkF m 128 #[.val (.int p0), .val (.int p1), .val (.int p2), .val (.int p3), .val (.int p4), .val (.int p5), .val (.ref b823), .val (.ref b1451), .val (.ref b1490), .unset] [(.ref b1715)])) t
        refine XS.pop X1714.here hx rfl (hb hby at_128) rfl rfl ?_
        show Steps p.tables e below (T1714.setTop (mkF m 129 #[.val (.int p0), .val (.int p1), .val (.int p2), .val (.int p3), .val (.int p4), .val (.int p5), .val (.ref b823), .val (.ref b1451), .val (.ref b1490), .unset] [])) t
        refine XS.aload X1714.here hx rfl (hb hby at_129) rfl rfl ?_
        exact k
      obtain ⟨cq1778, kq1778, qa1778, qb1778, qc1778⟩ := isOf hZ rfl p1721
      obtain ⟨_, _, ⟨T1778, L1778, kk1778, nn1778⟩, -, X1778, ⟨Lc1778, hQ1778, l1778, y1778, z1778⟩, st1778⟩ := X1714.virtualBack hx (y := (⟨"com/example/dropwire/dropwire/inprocess/InProcessPeer", "isDragging", "()Z"⟩ : MethodName)) (z := (⟨"com/example/dropwire/dropwire/inprocess/InProcessPeer", "isDragging", "()Z"⟩ : MethodName)) hown (mvT hZ (hw _ (List.mem_of_getElem? (i := 55) rfl))) (mvT hZ (hw _ (List.mem_of_getElem? (i := 56) rfl))) (notFace_of_selects (args := #[]) (mvT hZ (hw _ (List.mem_of_getElem? (i := 58) rfl)))) (mvT hZ (hw _ (List.mem_of_getElem? (i := 58) rfl))) (mvT hZ (hw _ (List.mem_of_getElem? (i := 57) rfl))) (by decide) (backOf (W := 0) (isDrag1 l Z a0 hw [] b823 b1715 T1714.heap n0 Z1777 p1727) hZ (hw _ (List.mem_of_getElem? (i := 59) rfl)) (hw _ (List.mem_of_getElem? (i := 2) rfl)) (by decide) (by decide)) qa1778 qc1778 (g := (mkF m 131 #[.val (.int p0), .val (.int p1), .val (.int p2), .val (.int p3), .val (.int p4), .val (.int p5), .val (.ref b823), .val (.ref b1451), .val (.ref b1490), .unset] [(.ref b823)])) rfl (by rw [hml]; rfl) (Steps.refl _) (argsL := []) (rest := []) (lenOf pd_280 rfl) rfl (by show 2 * 0 + _ ≤ _; exact Nat.le_of_eq rfl) (hb hby at_131) (fun _ _ => ⟨rfl, rfl, (by decide : 12 + 0 ≤ _), (by decide : 39 + 0 ≤ _)⟩)
      dsimp only [Pt.U, Pt.locs, Pt.cells, Pt.slots] at X1778 l1778 y1778 z1778 st1778 hQ1778
      subst l1778 y1778 z1778
      obtain ⟨rfl, N1779, e1778⟩ := hQ1778
      have N1781 := Fr.app N1737 N1779
      refine own_goT st1778 ?_
      refine own_go (S' := T1778.setTop (mkF m 140 #[.val (.int p0), .val (.int p1), .val (.int p2), .val (.int p3), .val (.int p4), .val (.int p5), .val (.ref b823), .val (.ref b1451), .val (.ref b1490), .val (.int (1 : Int32))] [(.int (p5 &&& (4 : Int32)))])) (fun t k => ?_) ?_
      · show Steps p.tables e below (T1778.setTop (mkF m 134 #[.val (.int p0), .val (.int p1), .val (.int p2), .val (.int p3), .val (.int p4), .val (.int p5), .val (.ref b823), .val (.ref b1451), .val (.ref b1490), .unset] [(.int (1 : Int32))])) t
        refine XS.istore X1778.here hx rfl (hb hby at_134) rfl (l' := #[.val (.int p0), .val (.int p1), .val (.int p2), .val (.int p3), .val (.int p4), .val (.int p5), .val (.ref b823), .val (.ref b1451), .val (.ref b1490), .val (.int (1 : Int32))]) rfl ?_
        show Steps p.tables e below (T1778.setTop (mkF m 136 #[.val (.int p0), .val (.int p1), .val (.int p2), .val (.int p3), .val (.int p4), .val (.int p5), .val (.ref b823), .val (.ref b1451), .val (.ref b1490), .val (.int (1 : Int32))] [])) t
        refine XS.iload X1778.here hx rfl (hb hby at_136) rfl ?_
        show Steps p.tables e below (T1778.setTop (mkF m 138 #[.val (.int p0), .val (.int p1), .val (.int p2), .val (.int p3), .val (.int p4), .val (.int p5), .val (.ref b823), .val (.ref b1451), .val (.ref b1490), .val (.int (1 : Int32))] [(.int p5)])) t
        refine XS.iconst X1778.here hx rfl (hb hby at_138) ?_
        show Steps p.tables e below (T1778.setTop (mkF m 139 #[.val (.int p0), .val (.int p1), .val (.int p2), .val (.int p3), .val (.int p4), .val (.int p5), .val (.ref b823), .val (.ref b1451), .val (.ref b1490), .val (.int (1 : Int32))] [(.int (4 : Int32)), (.int p5)])) t
        refine XS.iand X1778.here hx rfl (hb hby at_139) rfl ?_
        exact k
      by_cases hc140 : (p5 &&& (4 : Int32)) = (0 : Int32)
      · skip
        refine own_go (S' := T1778.setTop (mkF m 179 #[.val (.int p0), .val (.int p1), .val (.int p2), .val (.int p3), .val (.int p4), .val (.int p5), .val (.ref b823), .val (.ref b1451), .val (.ref b1490), .val (.int (1 : Int32))] [(.int (1 : Int32))])) (fun t k => ?_) ?_
        · show Steps p.tables e below (T1778.setTop (mkF m 140 #[.val (.int p0), .val (.int p1), .val (.int p2), .val (.int p3), .val (.int p4), .val (.int p5), .val (.ref b823), .val (.ref b1451), .val (.ref b1490), .val (.int (1 : Int32))] [(.int (p5 &&& (4 : Int32)))])) t
          refine XS.ifYes X1778.here hx rfl (pc0 := 140) (pc' := 177) rfl (hb hby at_140) rfl ((if0 _ _).trans (teq hc140).1) (by decide) (by decide) ?_
          show Steps p.tables e below (T1778.setTop (mkF m 177 #[.val (.int p0), .val (.int p1), .val (.int p2), .val (.int p3), .val (.int p4), .val (.int p5), .val (.ref b823), .val (.ref b1451), .val (.ref b1490), .val (.int (1 : Int32))] [])) t
          refine XS.iload X1778.here hx rfl (hb hby at_177) rfl ?_
          exact k
        obtain ⟨fs, hr, hrun, hended, hW, hsame⟩ := X1778.leave (v := some (.int (1 : Int32))) (fun h => by rw [Bd.returns] at h; cases h)
        refine own_end (v := some (.int (1 : Int32))) ?_ hrun hended ?_ hW (hsame.mono (by decide) (by decide))
        · show Steps p.tables e below (T1778.setTop (mkF m 179 #[.val (.int p0), .val (.int p1), .val (.int p2), .val (.int p3), .val (.int p4), .val (.int p5), .val (.ref b823), .val (.ref b1451), .val (.ref b1490), .val (.int (1 : Int32))] [(.int (1 : Int32))])) _
          exact retN X1778 hx (t := .boolean) Bd.returns (by simp) (hb hby at_179) hr
        · show Qrm0 Z p0 p1 p2 p3 p4 p5 w_s_DEFAULTCAPACITY_EMPTY_ELEMENTDATA w_s_NONE h0 n0 _ T1778.heap _
          rw [e1778]
          exact ⟨rfl, N1781⟩
      · skip
        refine own_go (S' := T1778.setTop (mkF m 145 #[.val (.int p0), .val (.int p1), .val (.int p2), .val (.int p3), .val (.int p4), .val (.int p5), .val (.ref b823), .val (.ref b1451), .val (.ref b1490), .val (.int (1 : Int32))] [(.ref b823)])) (fun t k => ?_) ?_
        · show Steps p.tables e below (T1778.setTop (mkF m 140 #[.val (.int p0), .val (.int p1), .val (.int p2), .val (.int p3), .val (.int p4), .val (.int p5), .val (.ref b823), .val (.ref b1451), .val (.ref b1490), .val (.int (1 : Int32))] [(.int (p5 &&& (4 : Int32)))])) t
          refine XS.ifNo X1778.here hx rfl (hb hby at_140) rfl ((if0 _ _).trans (feq hc140).1) ?_
          show Steps p.tables e below (T1778.setTop (mkF m 143 #[.val (.int p0), .val (.int p1), .val (.int p2), .val (.int p3), .val (.int p4), .val (.int p5), .val (.ref b823), .val (.ref b1451), .val (.ref b1490), .val (.int (1 : Int32))] [])) t
          refine XS.aload X1778.here hx rfl (hb hby at_143) rfl rfl ?_
          exact k
        obtain ⟨T1782, h1782, X1782, e1782, E1782, A1782, D1782, -, st1782⟩ := newO X1778 hx hZ hown (hw _ (List.mem_of_getElem? (i := 62) rfl)) (hw _ (List.mem_of_getElem? (i := 38) rfl)) (hw _ (List.mem_of_getElem? (i := 39) rfl)) e1778 (g := (mkF m 145 #[.val (.int p0), .val (.int p1), .val (.int p2), .val (.int p3), .val (.int p4), .val (.int p5), .val (.ref b823), .val (.ref b1451), .val (.ref b1490), .val (.int (1 : Int32))] [(.ref b823)])) rfl (hb hby at_145) (by decide) (by decide)
        obtain ⟨b1782, g1782⟩ : ∃ z, z = T1714.heap.size := ⟨_, rfl⟩
        rw [← g1782] at A1782 D1782 st1782
        have ne1783 : b823 ≠ b1782 := Nat.ne_of_lt (Nat.lt_of_lt_of_le p1721.lt (Nat.le_of_eq g1782.symm))
        have ne1784 : b836 ≠ b1782 := Nat.ne_of_lt (Nat.lt_of_lt_of_le f1751.lt (Nat.le_of_eq g1782.symm))
        have ne1785 : b837 ≠ b1782 := Nat.ne_of_lt (Nat.lt_of_lt_of_le f1755.lt (Nat.le_of_eq g1782.symm))
        have ne1786 : b838 ≠ b1782 := Nat.ne_of_lt (Nat.lt_of_lt_of_le f1759.lt (Nat.le_of_eq g1782.symm))
        have ne1787 : b1350 ≠ b1782 := Nat.ne_of_lt (Nat.lt_of_lt_of_le f1762.lt (Nat.le_of_eq g1782.symm))
        have ne1788 : b1451 ≠ b1782 := Nat.ne_of_lt (Nat.lt_of_lt_of_le f1765.lt (Nat.le_of_eq g1782.symm))
        have ne1789 : b1490 ≠ b1782 := Nat.ne_of_lt (Nat.lt_of_lt_of_le f1767.lt (Nat.le_of_eq g1782.symm))
        have ne1790 : b1531 ≠ b1782 := Nat.ne_of_lt (Nat.lt_of_lt_of_le p1719.lt (Nat.le_of_eq g1782.symm))
        have ne1791 : b1574 ≠ b1782 := Nat.ne_of_lt (Nat.lt_of_lt_of_le f1770.lt (Nat.le_of_eq g1782.symm))
        have ne1792 : b1660 ≠ b1782 := Nat.ne_of_lt (Nat.lt_of_lt_of_le f1773.lt (Nat.le_of_eq g1782.symm))
        have ne1793 : b1715 ≠ b1782 := Nat.ne_of_lt (Nat.lt_of_lt_of_le p1730.lt (Nat.le_of_eq g1782.symm))
        have g_b1782 : n0 ≤ b1782 := Nat.le_trans Z1777 (Nat.le_of_eq g1782.symm)
        have Z1794 : n0 ≤ h1782.size := Nat.le_trans Z1777 E1782.1
        have f1795 : Sta Z h1782 "java/util/ArrayList" "DEFAULTCAPACITY_EMPTY_ELEMENTDATA" "[Ljava/lang/Object;" (.ref w_s_DEFAULTCAPACITY_EMPTY_ELEMENTDATA) := Sta.ext E1782 f1748
        have f1796 : Sta Z h1782 "com/example/dropwire/dropwire/dnd/Actions" "NONE" "Lcom/example/dropwire/dropwire/dnd/Actions;" (.ref w_s_NONE) := Sta.ext E1782 f1749
        have f1797 : Exa Z h1782 b823 "com/example/dropwire/dropwire/inprocess/InProcessPeer" := Exa.ext E1782 p1721
        have f1798 : Exa Z h1782 b836 "java/util/ArrayList" := Exa.ext E1782 f1751
        have f1799 : Fld Z h1782 b836 "java/util/ArrayList" "size" "I" (.int (0 : Int32)) := Fld.ext E1782 f1752
        have f1800 : Fld Z h1782 b836 "java/util/AbstractList" "modCount" "I" (.int (0 : Int32)) := Fld.ext E1782 f1753
        have f1801 : Fld Z h1782 b836 "java/util/ArrayList" "elementData" "[Ljava/lang/Object;" (.ref w_s_DEFAULTCAPACITY_EMPTY_ELEMENTDATA) := Fld.ext E1782 f1754
        have f1802 : Exa Z h1782 b837 "java/util/ArrayList" := Exa.ext E1782 f1755
        have f1803 : Fld Z h1782 b837 "java/util/ArrayList" "size" "I" (.int (0 : Int32)) := Fld.ext E1782 f1756
        have f1804 : Fld Z h1782 b837 "java/util/AbstractList" "modCount" "I" (.int (0 : Int32)) := Fld.ext E1782 f1757
        have f1805 : Fld Z h1782 b837 "java/util/ArrayList" "elementData" "[Ljava/lang/Object;" (.ref w_s_DEFAULTCAPACITY_EMPTY_ELEMENTDATA) := Fld.ext E1782 f1758
        have f1806 : Exa Z h1782 b838 "com/example/dropwire/dropwire/dnd/Point" := Exa.ext E1782 f1759
        have f1807 : Fld Z h1782 b838 "com/example/dropwire/dropwire/dnd/Point" "x" "I" (.int (0 : Int32)) := Fld.ext E1782 f1760
        have f1808 : Fld Z h1782 b838 "com/example/dropwire/dropwire/dnd/Point" "y" "I" (.int (0 : Int32)) := Fld.ext E1782 f1761
        have f1809 : Exa Z h1782 b1350 "com/example/dropwire/dropwire/dnd/Point" := Exa.ext E1782 f1762
        have f1810 : Fld Z h1782 b1350 "com/example/dropwire/dropwire/dnd/Point" "x" "I" (.int p2) := Fld.ext E1782 f1763
        have f1811 : Fld Z h1782 b1350 "com/example/dropwire/dropwire/dnd/Point" "y" "I" (.int p3) := Fld.ext E1782 f1764
        have f1812 : Exa Z h1782 b1451 "com/example/dropwire/dropwire/dnd/Actions" := Exa.ext E1782 f1765
        have f1813 : Fld Z h1782 b1451 "com/example/dropwire/dropwire/dnd/Actions" "bits" "I" (.int ((1 : Int32) <<< (((p4 &&& (2147483647 : Int32)) % (3 : Int32)) &&& 31))) := Fld.ext E1782 f1766
        have f1814 : Exa Z h1782 b1490 "com/example/dropwire/dropwire/dnd/Actions" := Exa.ext E1782 f1767
        have f1815 : Fld Z h1782 b1490 "com/example/dropwire/dropwire/dnd/Actions" "bits" "I" (.int ((Jvm.Free.XT.ushr p4 (8 : Int32)) &&& (7 : Int32))) := Fld.ext E1782 f1768
        have f1816 : Exa Z h1782 b1531 "com/example/dropwire/dropwire/dnd/DragSource" := Exa.ext E1782 p1719
        have f1817 : Exa Z h1782 b1574 "com/example/dropwire/dropwire/dnd/Point" := Exa.ext E1782 f1770
        have f1818 : Fld Z h1782 b1574 "com/example/dropwire/dropwire/dnd/Point" "x" "I" (.int p0) := Fld.ext E1782 f1771
        have f1819 : Fld Z h1782 b1574 "com/example/dropwire/dropwire/dnd/Point" "y" "I" (.int p1) := Fld.ext E1782 f1772
        have f1820 : Exa Z h1782 b1660 "com/example/dropwire/dropwire/dnd/DragGesture" := Exa.ext E1782 f1773
        have f1821 : Fld Z h1782 b1660 "com/example/dropwire/dropwire/dnd/DragGesture" "peer" "Lcom/example/dropwire/dropwire/dnd/DragSourcePeer;" (.ref b823) := Fld.ext E1782 f1774
        have f1822 : Fld Z h1782 b1660 "com/example/dropwire/dropwire/dnd/DragGesture" "origin" "Lcom/example/dropwire/dropwire/dnd/Point;" (.ref b1574) := Fld.ext E1782 f1775
        have f1823 : Fld Z h1782 b1660 "com/example/dropwire/dropwire/dnd/DragGesture" "userAction" "Lcom/example/dropwire/dropwire/dnd/Actions;" (.ref b1451) := Fld.ext E1782 f1776
        have f1824 : Fld Z h1782 b1531 "com/example/dropwire/dropwire/dnd/DragSource" "current" "Lcom/example/dropwire/dropwire/dnd/DragSourceContext;" (.ref b1715) := Fld.ext E1782 p1720
        have f1825 : Fld Z h1782 b823 "com/example/dropwire/dropwire/inprocess/InProcessPeer" "components" "Ljava/util/List;" (.ref b836) := Fld.ext E1782 p1722
        have f1826 : Fld Z h1782 b823 "com/example/dropwire/dropwire/inprocess/InProcessPeer" "recognizers" "Ljava/util/List;" (.ref b837) := Fld.ext E1782 p1723
        have f1827 : Fld Z h1782 b823 "com/example/dropwire/dropwire/inprocess/InProcessPeer" "recognizing" "Lcom/example/dropwire/dropwire/inprocess/InProcessPeer$Recognizer;" .null := Fld.ext E1782 p1724
        have f1828 : Fld Z h1782 b823 "com/example/dropwire/dropwire/inprocess/InProcessPeer" "under" "Lcom/example/dropwire/dropwire/inprocess/InProcessPeer$Component;" .null := Fld.ext E1782 p1725
        have f1829 : Fld Z h1782 b823 "com/example/dropwire/dropwire/inprocess/InProcessPeer" "visit" "Lcom/example/dropwire/dropwire/dnd/DropTargetVisit;" .null := Fld.ext E1782 p1726
        have f1830 : Fld Z h1782 b823 "com/example/dropwire/dropwire/inprocess/InProcessPeer" "drag" "Lcom/example/dropwire/dropwire/dnd/DragSourceContext;" (.ref b1715) := Fld.ext E1782 p1727
        have f1831 : Fld Z h1782 b823 "com/example/dropwire/dropwire/inprocess/InProcessPeer" "hotspot" "Lcom/example/dropwire/dropwire/dnd/Point;" (.ref b1574) := Fld.ext E1782 p1728
        have f1832 : Fld Z h1782 b823 "com/example/dropwire/dropwire/inprocess/InProcessPeer" "plain" "Lcom/example/dropwire/dropwire/dnd/Actions;" (.ref b1451) := Fld.ext E1782 p1729
        have f1833 : Exa Z h1782 b1715 "com/example/dropwire/dropwire/dnd/DragSourceContext" := Exa.ext E1782 p1730
        have f1834 : Fld Z h1782 b1715 "com/example/dropwire/dropwire/dnd/DragSourceContext" "acceptedAction" "Lcom/example/dropwire/dropwire/dnd/Actions;" (.ref w_s_NONE) := Fld.ext E1782 p1731
        have f1835 : Fld Z h1782 b1715 "com/example/dropwire/dropwire/dnd/DragSourceContext" "dragSource" "Lcom/example/dropwire/dropwire/dnd/DragSource;" (.ref b1531) := Fld.ext E1782 p1732
        have f1836 : Fld Z h1782 b1715 "com/example/dropwire/dropwire/dnd/DragSourceContext" "transferable" "Lcom/example/dropwire/dropwire/transfer/Transferable;" .null := Fld.ext E1782 p1733
        have f1837 : Fld Z h1782 b1715 "com/example/dropwire/dropwire/dnd/DragSourceContext" "sourceActions" "Lcom/example/dropwire/dropwire/dnd/Actions;" (.ref b1490) := Fld.ext E1782 p1734
        have f1838 : Fld Z h1782 b1715 "com/example/dropwire/dropwire/dnd/DragSourceContext" "userAction" "Lcom/example/dropwire/dropwire/dnd/Actions;" (.ref b1451) := Fld.ext E1782 p1735
        have f1839 : Fld Z h1782 b1715 "com/example/dropwire/dropwire/dnd/DragSourceContext" "listener" "Lcom/example/dropwire/dropwire/dnd/DragSourceListener;" .null := Fld.ext E1782 p1736
        have f1840 : Fld Z h1782 b1782 "com/example/dropwire/dropwire/dnd/Point" "x" "I" (.int (0 : Int32)) := D1782 (Or.inr (hw _ (List.mem_of_getElem? (i := 50) rfl))) (ty := .int) (by decide)
        have f1841 : Fld Z h1782 b1782 "com/example/dropwire/dropwire/dnd/Point" "y" "I" (.int (0 : Int32)) := D1782 (Or.inr (hw _ (List.mem_of_getElem? (i := 52) rfl))) (ty := .int) (by decide)
        refine own_go st1782 ?_
        refine own_go (S' := T1782.setTop (mkF m 151 #[.val (.int p0), .val (.int p1), .val (.int p2), .val (.int p3), .val (.int p4), .val (.int p5), .val (.ref b823), .val (.ref b1451), .val (.ref b1490), .val (.int (1 : Int32))] [(.int p3), (.int p2), (.ref b1782), (.ref b1782), (.ref b823)])) (fun t k => ?_) ?_
        · show Steps p.tables e below (T1782.setTop (mkF m 148 #[.val (.int p0), .val (.int p1), .val (.int p2), .val (.int p3), .val (.int p4), .val (.int p5), .val (.ref b823), .val (.ref b1451), .val (.ref b1490), .val (.int (1 : Int32))] [(.ref b1782), (.ref b823)])) t
          refine XS.dup X1782.here hx rfl (hb hby at_148) rfl rfl ?_
          show Steps p.tables e below (T1782.setTop (mkF m 149 #[.val (.int p0), .val (.int p1), .val (.int p2), .val (.int p3), .val (.int p4), .val (.int p5), .val (.ref b823), .val (.ref b1451), .val (.ref b1490), .val (.int (1 : Int32))] [(.ref b1782), (.ref b1782), (.ref b823)])) t
          refine XS.iloadN X1782.here hx rfl (hb hby at_149) rfl ?_
          show Steps p.tables e below (T1782.setTop (mkF m 150 #[.val (.int p0), .val (.int p1), .val (.int p2), .val (.int p3), .val (.int p4), .val (.int p5), .val (.ref b823), .val (.ref b1451), .val (.ref b1490), .val (.int (1 : Int32))] [(.int p2), (.ref b1782), (.ref b1782), (.ref b823)])) t
          refine XS.iloadN X1782.here hx rfl (hb hby at_150) rfl ?_
          exact k
        obtain ⟨_, _, ⟨T1842, L1842, kk1842, nn1842⟩, -, X1842, ⟨Lc1842, hQ1842, l1842, y1842, z1842⟩, st1842⟩ := X1782.specialBack hx (y := (⟨"com/example/dropwire/dropwire/dnd/Point", "<init>", "(II)V"⟩ : MethodName)) rfl hown (mvT hZ (hw _ (List.mem_of_getElem? (i := 63) rfl))) (mvT hZ (hw _ (List.mem_of_getElem? (i := 41) rfl))) (mvT hZ (hw _ (List.mem_of_getElem? (i := 42) rfl))) (by decide) (backOf (W := 2) (ptInit l Z a0 hw [] b1782 p2 p3 (0 : Int32) (0 : Int32) h1782 n0 Z1794 A1782 f1840 f1841 g_b1782) hZ (hw _ (List.mem_of_getElem? (i := 42) rfl)) (hw _ (List.mem_of_getElem? (i := 39) rfl)) (by decide) (by decide)) (g := (mkF m 151 #[.val (.int p0), .val (.int p1), .val (.int p2), .val (.int p3), .val (.int p4), .val (.int p5), .val (.ref b823), .val (.ref b1451), .val (.ref b1490), .val (.int (1 : Int32))] [(.int p3), (.int p2), (.ref b1782), (.ref b1782), (.ref b823)])) rfl (by rw [hml]; rfl) (Steps.refl _) (a := b1782) (argsL := [(.int p2), (.int p3)]) (rest := [(.ref b1782), (.ref b823)]) (lenOf pd_51 rfl) rfl (by show 2 * 0 + _ ≤ _; exact Nat.le_of_eq rfl) (hb hby at_151) (fun _ _ => ⟨rfl, e1782, (by decide : 13 + 0 ≤ _), (by decide : 41 + 0 ≤ _)⟩)
        dsimp only [Pt.U, Pt.locs, Pt.cells, Pt.slots] at X1842 l1842 y1842 z1842 st1842 hQ1842
        subst l1842 y1842 z1842
        obtain ⟨rfl, N1843, K1844, p1845, p1846, p1847⟩ := hQ1842
        have N1848 := Fr.app N1781 N1843
        have f1849 : Sta Z T1842.heap "java/util/ArrayList" "DEFAULTCAPACITY_EMPTY_ELEMENTDATA" "[Ljava/lang/Object;" (.ref w_s_DEFAULTCAPACITY_EMPTY_ELEMENTDATA) := own_sta_keep f1795 K1844 (allS (own_plain A1782) all0)
        have f1850 : Sta Z T1842.heap "com/example/dropwire/dropwire/dnd/Actions" "NONE" "Lcom/example/dropwire/dropwire/dnd/Actions;" (.ref w_s_NONE) := own_sta_keep f1796 K1844 (allS (own_plain A1782) all0)
        have f1851 : Exa Z T1842.heap b823 "com/example/dropwire/dropwire/inprocess/InProcessPeer" := f1797.keep K1844
        have f1852 : Exa Z T1842.heap b836 "java/util/ArrayList" := f1798.keep K1844
        have f1853 : Fld Z T1842.heap b836 "java/util/ArrayList" "size" "I" (.int (0 : Int32)) := f1799.keep K1844 (ninS ne1784 nin0)
        have f1854 : Fld Z T1842.heap b836 "java/util/AbstractList" "modCount" "I" (.int (0 : Int32)) := f1800.keep K1844 (ninS ne1784 nin0)
        have f1855 : Fld Z T1842.heap b836 "java/util/ArrayList" "elementData" "[Ljava/lang/Object;" (.ref w_s_DEFAULTCAPACITY_EMPTY_ELEMENTDATA) := f1801.keep K1844 (ninS ne1784 nin0)
        have f1856 : Exa Z T1842.heap b837 "java/util/ArrayList" := f1802.keep K1844
        have f1857 : Fld Z T1842.heap b837 "java/util/ArrayList" "size" "I" (.int (0 : Int32)) := f1803.keep K1844 (ninS ne1785 nin0)
        have f1858 : Fld Z T1842.heap b837 "java/util/AbstractList" "modCount" "I" (.int (0 : Int32)) := f1804.keep K1844 (ninS ne1785 nin0)
        have f1859 : Fld Z T1842.heap b837 "java/util/ArrayList" "elementData" "[Ljava/lang/Object;" (.ref w_s_DEFAULTCAPACITY_EMPTY_ELEMENTDATA) := f1805.keep K1844 (ninS ne1785 nin0)
        have f1860 : Exa Z T1842.heap b838 "com/example/dropwire/dropwire/dnd/Point" := f1806.keep K1844
        have f1861 : Fld Z T1842.heap b838 "com/example/dropwire/dropwire/dnd/Point" "x" "I" (.int (0 : Int32)) := f1807.keep K1844 (ninS ne1786 nin0)
        have f1862 : Fld Z T1842.heap b838 "com/example/dropwire/dropwire/dnd/Point" "y" "I" (.int (0 : Int32)) := f1808.keep K1844 (ninS ne1786 nin0)
        have f1863 : Exa Z T1842.heap b1350 "com/example/dropwire/dropwire/dnd/Point" := f1809.keep K1844
        have f1864 : Fld Z T1842.heap b1350 "com/example/dropwire/dropwire/dnd/Point" "x" "I" (.int p2) := f1810.keep K1844 (ninS ne1787 nin0)
        have f1865 : Fld Z T1842.heap b1350 "com/example/dropwire/dropwire/dnd/Point" "y" "I" (.int p3) := f1811.keep K1844 (ninS ne1787 nin0)
        have f1866 : Exa Z T1842.heap b1451 "com/example/dropwire/dropwire/dnd/Actions" := f1812.keep K1844
        have f1867 : Fld Z T1842.heap b1451 "com/example/dropwire/dropwire/dnd/Actions" "bits" "I" (.int ((1 : Int32) <<< (((p4 &&& (2147483647 : Int32)) % (3 : Int32)) &&& 31))) := f1813.keep K1844 (ninS ne1788 nin0)
        have f1868 : Exa Z T1842.heap b1490 "com/example/dropwire/dropwire/dnd/Actions" := f1814.keep K1844
        have f1869 : Fld Z T1842.heap b1490 "com/example/dropwire/dropwire/dnd/Actions" "bits" "I" (.int ((Jvm.Free.XT.ushr p4 (8 : Int32)) &&& (7 : Int32))) := f1815.keep K1844 (ninS ne1789 nin0)
        have f1870 : Exa Z T1842.heap b1531 "com/example/dropwire/dropwire/dnd/DragSource" := f1816.keep K1844
        have f1871 : Exa Z T1842.heap b1574 "com/example/dropwire/dropwire/dnd/Point" := f1817.keep K1844
        have f1872 : Fld Z T1842.heap b1574 "com/example/dropwire/dropwire/dnd/Point" "x" "I" (.int p0) := f1818.keep K1844 (ninS ne1791 nin0)
        have f1873 : Fld Z T1842.heap b1574 "com/example/dropwire/dropwire/dnd/Point" "y" "I" (.int p1) := f1819.keep K1844 (ninS ne1791 nin0)
        have f1874 : Exa Z T1842.heap b1660 "com/example/dropwire/dropwire/dnd/DragGesture" := f1820.keep K1844
        have f1875 : Fld Z T1842.heap b1660 "com/example/dropwire/dropwire/dnd/DragGesture" "peer" "Lcom/example/dropwire/dropwire/dnd/DragSourcePeer;" (.ref b823) := f1821.keep K1844 (ninS ne1792 nin0)
        have f1876 : Fld Z T1842.heap b1660 "com/example/dropwire/dropwire/dnd/DragGesture" "origin" "Lcom/example/dropwire/dropwire/dnd/Point;" (.ref b1574) := f1822.keep K1844 (ninS ne1792 nin0)
        have f1877 : Fld Z T1842.heap b1660 "com/example/dropwire/dropwire/dnd/DragGesture" "userAction" "Lcom/example/dropwire/dropwire/dnd/Actions;" (.ref b1451) := f1823.keep K1844 (ninS ne1792 nin0)
        have f1878 : Fld Z T1842.heap b1531 "com/example/dropwire/dropwire/dnd/DragSource" "current" "Lcom/example/dropwire/dropwire/dnd/DragSourceContext;" (.ref b1715) := f1824.keep K1844 (ninS ne1790 nin0)
        have f1879 : Fld Z T1842.heap b823 "com/example/dropwire/dropwire/inprocess/InProcessPeer" "components" "Ljava/util/List;" (.ref b836) := f1825.keep K1844 (ninS ne1783 nin0)
        have f1880 : Fld Z T1842.heap b823 "com/example/dropwire/dropwire/inprocess/InProcessPeer" "recognizers" "Ljava/util/List;" (.ref b837) := f1826.keep K1844 (ninS ne1783 nin0)
        have f1881 : Fld Z T1842.heap b823 "com/example/dropwire/dropwire/inprocess/InProcessPeer" "recognizing" "Lcom/example/dropwire/dropwire/inprocess/InProcessPeer$Recognizer;" .null := f1827.keep K1844 (ninS ne1783 nin0)
        have f1882 : Fld Z T1842.heap b823 "com/example/dropwire/dropwire/inprocess/InProcessPeer" "under" "Lcom/example/dropwire/dropwire/inprocess/InProcessPeer$Component;" .null := f1828.keep K1844 (ninS ne1783 nin0)
        have f1883 : Fld Z T1842.heap b823 "com/example/dropwire/dropwire/inprocess/InProcessPeer" "visit" "Lcom/example/dropwire/dropwire/dnd/DropTargetVisit;" .null := f1829.keep K1844 (ninS ne1783 nin0)
        have f1884 : Fld Z T1842.heap b823 "com/example/dropwire/dropwire/inprocess/InProcessPeer" "drag" "Lcom/example/dropwire/dropwire/dnd/DragSourceContext;" (.ref b1715) := f1830.keep K1844 (ninS ne1783 nin0)
        have f1885 : Fld Z T1842.heap b823 "com/example/dropwire/dropwire/inprocess/InProcessPeer" "hotspot" "Lcom/example/dropwire/dropwire/dnd/Point;" (.ref b1574) := f1831.keep K1844 (ninS ne1783 nin0)
        have f1886 : Fld Z T1842.heap b823 "com/example/dropwire/dropwire/inprocess/InProcessPeer" "plain" "Lcom/example/dropwire/dropwire/dnd/Actions;" (.ref b1451) := f1832.keep K1844 (ninS ne1783 nin0)
        have f1887 : Exa Z T1842.heap b1715 "com/example/dropwire/dropwire/dnd/DragSourceContext" := f1833.keep K1844
        have f1888 : Fld Z T1842.heap b1715 "com/example/dropwire/dropwire/dnd/DragSourceContext" "acceptedAction" "Lcom/example/dropwire/dropwire/dnd/Actions;" (.ref w_s_NONE) := f1834.keep K1844 (ninS ne1793 nin0)
        have f1889 : Fld Z T1842.heap b1715 "com/example/dropwire/dropwire/dnd/DragSourceContext" "dragSource" "Lcom/example/dropwire/dropwire/dnd/DragSource;" (.ref b1531) := f1835.keep K1844 (ninS ne1793 nin0)
        have f1890 : Fld Z T1842.heap b1715 "com/example/dropwire/dropwire/dnd/DragSourceContext" "transferable" "Lcom/example/dropwire/dropwire/transfer/Transferable;" .null := f1836.keep K1844 (ninS ne1793 nin0)
        have f1891 : Fld Z T1842.heap b1715 "com/example/dropwire/dropwire/dnd/DragSourceContext" "sourceActions" "Lcom/example/dropwire/dropwire/dnd/Actions;" (.ref b1490) := f1837.keep K1844 (ninS ne1793 nin0)
        have f1892 : Fld Z T1842.heap b1715 "com/example/dropwire/dropwire/dnd/DragSourceContext" "userAction" "Lcom/example/dropwire/dropwire/dnd/Actions;" (.ref b1451) := f1838.keep K1844 (ninS ne1793 nin0)
        have f1893 : Fld Z T1842.heap b1715 "com/example/dropwire/dropwire/dnd/DragSourceContext" "listener" "Lcom/example/dropwire/dropwire/dnd/DragSourceListener;" .null := f1839.keep K1844 (ninS ne1793 nin0)
        have f1894 : Exa Z T1842.heap b1782 "com/example/dropwire/dropwire/dnd/Point" := A1782.keep K1844
        have Z1895 : n0 ≤ T1842.heap.size := Nat.le_trans Z1794 K1844.1
        refine own_goT st1842 ?_
        obtain ⟨cq1896, kq1896, qa1896, qb1896, qc1896⟩ := isOf hZ rfl f1851
        obtain ⟨_, _, ⟨T1896, L1896, kk1896, nn1896⟩, -, X1896, ⟨Lc1896, hQ1896, l1896, y1896, z1896⟩, st1896⟩ := X1842.virtualBack hx (y := (⟨"com/example/dropwire/dropwire/inprocess/InProcessPeer", "moveTo", "(Lcom/example/dropwire/dropwire/dnd/Point;)V"⟩ : MethodName)) (z := (⟨"com/example/dropwire/dropwire/inprocess/InProcessPeer", "moveTo", "(Lcom/example/dropwire/dropwire/dnd/Point;)V"⟩ : MethodName)) hown (mvT hZ (hw _ (List.mem_of_getElem? (i := 64) rfl))) (mvT hZ (hw _ (List.mem_of_getElem? (i := 65) rfl))) (notFace_of_selects (args := #[]) (mvT hZ (hw _ (List.mem_of_getElem? (i := 67) rfl)))) (mvT hZ (hw _ (List.mem_of_getElem? (i := 67) rfl))) (mvT hZ (hw _ (List.mem_of_getElem? (i := 66) rfl))) (by decide) (backOf (W := 0) (moveTo1 l Z a0 hw [] b823 b1782 b836 (.ref b837) (.ref b1574) b1715 (.null) (.ref b1451) (.null) T1842.heap n0 Z1895 f1851 f1879 f1880 f1885 f1884 f1881 f1886 f1882 f1883 g_b823 f1853 (Ne.symm ne868) f1852) hZ (hw _ (List.mem_of_getElem? (i := 68) rfl)) (hw _ (List.mem_of_getElem? (i := 2) rfl)) (by decide) (by decide)) qa1896 qc1896 (g := (mkF m 154 #[.val (.int p0), .val (.int p1), .val (.int p2), .val (.int p3), .val (.int p4), .val (.int p5), .val (.ref b823), .val (.ref b1451), .val (.ref b1490), .val (.int (1 : Int32))] [(.ref b1782), (.ref b823)])) rfl (by rw [hml]; rfl) (Steps.refl _) (argsL := [(.ref b1782)]) (rest := []) (lenOf pd_322 rfl) rfl (by show 2 * 0 + _ ≤ _; exact Nat.le_of_eq rfl) (hb hby at_154) (fun _ _ => ⟨rfl, rfl, (by decide : 13 + 0 ≤ _), (by decide : 41 + 0 ≤ _)⟩)
        dsimp only [Pt.U, Pt.locs, Pt.cells, Pt.slots] at X1896 l1896 y1896 z1896 st1896 hQ1896
        subst l1896 y1896 z1896
        obtain ⟨rfl, N1897, K1898, p1899, p1900, p1901, p1902, p1903, p1904, p1905, p1906, p1907⟩ := hQ1896
        have N1908 := Fr.app N1848 N1897
        have f1909 : Sta Z T1896.heap "java/util/ArrayList" "DEFAULTCAPACITY_EMPTY_ELEMENTDATA" "[Ljava/lang/Object;" (.ref w_s_DEFAULTCAPACITY_EMPTY_ELEMENTDATA) := own_sta_keep f1849 K1898 (allS (own_plain f1851) all0)
        have f1910 : Sta Z T1896.heap "com/example/dropwire/dropwire/dnd/Actions" "NONE" "Lcom/example/dropwire/dropwire/dnd/Actions;" (.ref w_s_NONE) := own_sta_keep f1850 K1898 (allS (own_plain f1851) all0)
        have f1911 : Exa Z T1896.heap b823 "com/example/dropwire/dropwire/inprocess/InProcessPeer" := f1851.keep K1898
        have f1912 : Exa Z T1896.heap b836 "java/util/ArrayList" := f1852.keep K1898
        have f1913 : Fld Z T1896.heap b836 "java/util/ArrayList" "size" "I" (.int (0 : Int32)) := f1853.keep K1898 (ninS (Ne.symm ne868) nin0)
        have f1914 : Fld Z T1896.heap b836 "java/util/AbstractList" "modCount" "I" (.int (0 : Int32)) := f1854.keep K1898 (ninS (Ne.symm ne868) nin0)
        have f1915 : Fld Z T1896.heap b836 "java/util/ArrayList" "elementData" "[Ljava/lang/Object;" (.ref w_s_DEFAULTCAPACITY_EMPTY_ELEMENTDATA) := f1855.keep K1898 (ninS (Ne.symm ne868) nin0)
        have f1916 : Exa Z T1896.heap b837 "java/util/ArrayList" := f1856.keep K1898
        have f1917 : Fld Z T1896.heap b837 "java/util/ArrayList" "size" "I" (.int (0 : Int32)) := f1857.keep K1898 (ninS (Ne.symm ne869) nin0)
        have f1918 : Fld Z T1896.heap b837 "java/util/AbstractList" "modCount" "I" (.int (0 : Int32)) := f1858.keep K1898 (ninS (Ne.symm ne869) nin0)
        have f1919 : Fld Z T1896.heap b837 "java/util/ArrayList" "elementData" "[Ljava/lang/Object;" (.ref w_s_DEFAULTCAPACITY_EMPTY_ELEMENTDATA) := f1859.keep K1898 (ninS (Ne.symm ne869) nin0)
        have f1920 : Exa Z T1896.heap b838 "com/example/dropwire/dropwire/dnd/Point" := f1860.keep K1898
        have f1921 : Fld Z T1896.heap b838 "com/example/dropwire/dropwire/dnd/Point" "x" "I" (.int (0 : Int32)) := f1861.keep K1898 (ninS (Ne.symm ne870) nin0)
        have f1922 : Fld Z T1896.heap b838 "com/example/dropwire/dropwire/dnd/Point" "y" "I" (.int (0 : Int32)) := f1862.keep K1898 (ninS (Ne.symm ne870) nin0)
        have f1923 : Exa Z T1896.heap b1350 "com/example/dropwire/dropwire/dnd/Point" := f1863.keep K1898
        have f1924 : Fld Z T1896.heap b1350 "com/example/dropwire/dropwire/dnd/Point" "x" "I" (.int p2) := f1864.keep K1898 (ninS (Ne.symm ne1351) nin0)
        have f1925 : Fld Z T1896.heap b1350 "com/example/dropwire/dropwire/dnd/Point" "y" "I" (.int p3) := f1865.keep K1898 (ninS (Ne.symm ne1351) nin0)
        have f1926 : Exa Z T1896.heap b1451 "com/example/dropwire/dropwire/dnd/Actions" := f1866.keep K1898
        have f1927 : Fld Z T1896.heap b1451 "com/example/dropwire/dropwire/dnd/Actions" "bits" "I" (.int ((1 : Int32) <<< (((p4 &&& (2147483647 : Int32)) % (3 : Int32)) &&& 31))) := f1867.keep K1898 (ninS (Ne.symm ne1458) nin0)
        have f1928 : Exa Z T1896.heap b1490 "com/example/dropwire/dropwire/dnd/Actions" := f1868.keep K1898
        have f1929 : Fld Z T1896.heap b1490 "com/example/dropwire/dropwire/dnd/Actions" "bits" "I" (.int ((Jvm.Free.XT.ushr p4 (8 : Int32)) &&& (7 : Int32))) := f1869.keep K1898 (ninS (Ne.symm ne1497) nin0)
        have f1930 : Exa Z T1896.heap b1531 "com/example/dropwire/dropwire/dnd/DragSource" := f1870.keep K1898
        have f1931 : Exa Z T1896.heap b1574 "com/example/dropwire/dropwire/dnd/Point" := f1871.keep K1898
        have f1932 : Fld Z T1896.heap b1574 "com/example/dropwire/dropwire/dnd/Point" "x" "I" (.int p0) := f1872.keep K1898 (ninS (Ne.symm ne1575) nin0)
        have f1933 : Fld Z T1896.heap b1574 "com/example/dropwire/dropwire/dnd/Point" "y" "I" (.int p1) := f1873.keep K1898 (ninS (Ne.symm ne1575) nin0)
        have f1934 : Exa Z T1896.heap b1660 "com/example/dropwire/dropwire/dnd/DragGesture" := f1874.keep K1898
        have f1935 : Fld Z T1896.heap b1660 "com/example/dropwire/dropwire/dnd/DragGesture" "peer" "Lcom/example/dropwire/dropwire/dnd/DragSourcePeer;" (.ref b823) := f1875.keep K1898 (ninS (Ne.symm ne1669) nin0)
        have f1936 : Fld Z T1896.heap b1660 "com/example/dropwire/dropwire/dnd/DragGesture" "origin" "Lcom/example/dropwire/dropwire/dnd/Point;" (.ref b1574) := f1876.keep K1898 (ninS (Ne.symm ne1669) nin0)
        have f1937 : Fld Z T1896.heap b1660 "com/example/dropwire/dropwire/dnd/DragGesture" "userAction" "Lcom/example/dropwire/dropwire/dnd/Actions;" (.ref b1451) := f1877.keep K1898 (ninS (Ne.symm ne1669) nin0)
        have f1938 : Fld Z T1896.heap b1531 "com/example/dropwire/dropwire/dnd/DragSource" "current" "Lcom/example/dropwire/dropwire/dnd/DragSourceContext;" (.ref b1715) := f1878.keep K1898 (ninS (Ne.symm ne1532) nin0)
        have f1939 : Exa Z T1896.heap b1715 "com/example/dropwire/dropwire/dnd/DragSourceContext" := f1887.keep K1898
        have f1940 : Fld Z T1896.heap b1715 "com/example/dropwire/dropwire/dnd/DragSourceContext" "acceptedAction" "Lcom/example/dropwire/dropwire/dnd/Actions;" (.ref w_s_NONE) := f1888.keep K1898 (ninS (Ne.symm ne1738) nin0)
        have f1941 : Fld Z T1896.heap b1715 "com/example/dropwire/dropwire/dnd/DragSourceContext" "dragSource" "Lcom/example/dropwire/dropwire/dnd/DragSource;" (.ref b1531) := f1889.keep K1898 (ninS (Ne.symm ne1738) nin0)
        have f1942 : Fld Z T1896.heap b1715 "com/example/dropwire/dropwire/dnd/DragSourceContext" "transferable" "Lcom/example/dropwire/dropwire/transfer/Transferable;" .null := f1890.keep K1898 (ninS (Ne.symm ne1738) nin0)
        have f1943 : Fld Z T1896.heap b1715 "com/example/dropwire/dropwire/dnd/DragSourceContext" "sourceActions" "Lcom/example/dropwire/dropwire/dnd/Actions;" (.ref b1490) := f1891.keep K1898 (ninS (Ne.symm ne1738) nin0)
        have f1944 : Fld Z T1896.heap b1715 "com/example/dropwire/dropwire/dnd/DragSourceContext" "userAction" "Lcom/example/dropwire/dropwire/dnd/Actions;" (.ref b1451) := f1892.keep K1898 (ninS (Ne.symm ne1738) nin0)
        have f1945 : Fld Z T1896.heap b1715 "com/example/dropwire/dropwire/dnd/DragSourceContext" "listener" "Lcom/example/dropwire/dropwire/dnd/DragSourceListener;" .null := f1893.keep K1898 (ninS (Ne.symm ne1738) nin0)
        have f1946 : Exa Z T1896.heap b1782 "com/example/dropwire/dropwire/dnd/Point" := p1845.keep K1898
        have f1947 : Fld Z T1896.heap b1782 "com/example/dropwire/dropwire/dnd/Point" "x" "I" (.int p2) := p1846.keep K1898 (ninS (Ne.symm ne1783) nin0)
        have f1948 : Fld Z T1896.heap b1782 "com/example/dropwire/dropwire/dnd/Point" "y" "I" (.int p3) := p1847.keep K1898 (ninS (Ne.symm ne1783) nin0)
        have Z1949 : n0 ≤ T1896.heap.size := Nat.le_trans Z1895 K1898.1
        refine own_goT st1896 ?_
        refine own_go (S' := T1896.setTop (mkF m 164 #[.val (.int p0), .val (.int p1), .val (.int p2), .val (.int p3), .val (.int p4), .val (.int p5), .val (.ref b823), .val (.ref b1451), .val (.ref b1490), .val (.int (1 : Int32))] [(.ref b823)])) (fun t k => ?_) ?_
        · show Steps p.tables e below (T1896.setTop (mkF m 157 #[.val (.int p0), .val (.int p1), .val (.int p2), .val (.int p3), .val (.int p4), .val (.int p5), .val (.ref b823), .val (.ref b1451), .val (.ref b1490), .val (.int (1 : Int32))] [])) t
          refine XS.iload X1896.here hx rfl (hb hby at_157) rfl ?_
          show Steps p.tables e below (T1896.setTop (mkF m 159 #[.val (.int p0), .val (.int p1), .val (.int p2), .val (.int p3), .val (.int p4), .val (.int p5), .val (.ref b823), .val (.ref b1451), .val (.ref b1490), .val (.int (1 : Int32))] [(.int (1 : Int32))])) t
          refine XS.ifNo X1896.here hx rfl (hb hby at_159) rfl ((if0 _ _).trans (feq (by decide)).1) ?_
          show Steps p.tables e below (T1896.setTop (mkF m 162 #[.val (.int p0), .val (.int p1), .val (.int p2), .val (.int p3), .val (.int p4), .val (.int p5), .val (.ref b823), .val (.ref b1451), .val (.ref b1490), .val (.int (1 : Int32))] [])) t
          refine XS.aload X1896.here hx rfl (hb hby at_162) rfl rfl ?_
          exact k
        obtain ⟨cq1950, kq1950, qa1950, qb1950, qc1950⟩ := isOf hZ rfl p1899
        obtain ⟨_, _, ⟨T1950, L1950, kk1950, nn1950⟩, -, X1950, ⟨Lc1950, hQ1950, l1950, y1950, z1950⟩, st1950⟩ := X1896.virtualBack hx (y := (⟨"com/example/dropwire/dropwire/inprocess/InProcessPeer", "isDragging", "()Z"⟩ : MethodName)) (z := (⟨"com/example/dropwire/dropwire/inprocess/InProcessPeer", "isDragging", "()Z"⟩ : MethodName)) hown (mvT hZ (hw _ (List.mem_of_getElem? (i := 55) rfl))) (mvT hZ (hw _ (List.mem_of_getElem? (i := 56) rfl))) (notFace_of_selects (args := #[]) (mvT hZ (hw _ (List.mem_of_getElem? (i := 58) rfl)))) (mvT hZ (hw _ (List.mem_of_getElem? (i := 58) rfl))) (mvT hZ (hw _ (List.mem_of_getElem? (i := 57) rfl))) (by decide) (backOf (W := 0) (isDrag1 l Z a0 hw [] b823 b1715 T1896.heap n0 Z1949 p1902) hZ (hw _ (List.mem_of_getElem? (i := 59) rfl)) (hw _ (List.mem_of_getElem? (i := 2) rfl)) (by decide) (by decide)) qa1950 qc1950 (g := (mkF m 164 #[.val (.int p0), .val (.int p1), .val (.int p2), .val (.int p3), .val (.int p4), .val (.int p5), .val (.ref b823), .val (.ref b1451), .val (.ref b1490), .val (.int (1 : Int32))] [(.ref b823)])) rfl (by rw [hml]; rfl) (Steps.refl _) (argsL := []) (rest := []) (lenOf pd_280 rfl) rfl (by show 2 * 0 + _ ≤ _; exact Nat.le_of_eq rfl) (hb hby at_164) (fun _ _ => ⟨rfl, rfl, (by decide : 13 + 0 ≤ _), (by decide : 41 + 0 ≤ _)⟩)
        dsimp only [Pt.U, Pt.locs, Pt.cells, Pt.slots] at X1950 l1950 y1950 z1950 st1950 hQ1950
        subst l1950 y1950 z1950
        obtain ⟨rfl, N1951, e1950⟩ := hQ1950
        have N1953 := Fr.app N1908 N1951
        refine own_goT st1950 ?_
        refine own_go (S' := T1950.setTop (mkF m 179 #[.val (.int p0), .val (.int p1), .val (.int p2), .val (.int p3), .val (.int p4), .val (.int p5), .val (.ref b823), .val (.ref b1451), .val (.ref b1490), .val (.int (1 : Int32))] [(.int (1 : Int32))])) (fun t k => ?_) ?_
        · show Steps p.tables e below (T1950.setTop (mkF m 167 #[.val (.int p0), .val (.int p1), .val (.int p2), .val (.int p3), .val (.int p4), .val (.int p5), .val (.ref b823), .val (.ref b1451), .val (.ref b1490), .val (.int (1 : Int32))] [(.int (1 : Int32))])) t
          refine XS.ifNo X1950.here hx rfl (hb hby at_167) rfl ((if0 _ _).trans (feq (by decide)).1) ?_
          show Steps p.tables e below (T1950.setTop (mkF m 170 #[.val (.int p0), .val (.int p1), .val (.int p2), .val (.int p3), .val (.int p4), .val (.int p5), .val (.ref b823), .val (.ref b1451), .val (.ref b1490), .val (.int (1 : Int32))] [])) t
          refine XS.iconst X1950.here hx rfl (hb hby at_170) ?_
          show Steps p.tables e below (T1950.setTop (mkF m 171 #[.val (.int p0), .val (.int p1), .val (.int p2), .val (.int p3), .val (.int p4), .val (.int p5), .val (.ref b823), .val (.ref b1451), .val (.ref b1490), .val (.int (1 : Int32))] [(.int (1 : Int32))])) t
          refine XS.goto X1950.here hx rfl (pc0 := 171) (pc' := 175) rfl (hb hby at_171) (by decide) (by decide) ?_
          show Steps p.tables e below (T1950.setTop (mkF m 175 #[.val (.int p0), .val (.int p1), .val (.int p2), .val (.int p3), .val (.int p4), .val (.int p5), .val (.ref b823), .val (.ref b1451), .val (.ref b1490), .val (.int (1 : Int32))] [(.int (1 : Int32))])) t
          refine XS.istore X1950.here hx rfl (hb hby at_175) rfl (l' := #[.val (.int p0), .val (.int p1), .val (.int p2), .val (.int p3), .val (.int p4), .val (.int p5), .val (.ref b823), .val (.ref b1451), .val (.ref b1490), .val (.int (1 : Int32))]) rfl ?_
          show Steps p.tables e below (T1950.setTop (mkF m 177 #[.val (.int p0), .val (.int p1), .val (.int p2), .val (.int p3), .val (.int p4), .val (.int p5), .val (.ref b823), .val (.ref b1451), .val (.ref b1490), .val (.int (1 : Int32))] [])) t
          refine XS.iload X1950.here hx rfl (hb hby at_177) rfl ?_
          exact k
        obtain ⟨fs, hr, hrun, hended, hW, hsame⟩ := X1950.leave (v := some (.int (1 : Int32))) (fun h => by rw [Bd.returns] at h; cases h)
        refine own_end (v := some (.int (1 : Int32))) ?_ hrun hended ?_ hW (hsame.mono (by decide) (by decide))
        · show Steps p.tables e below (T1950.setTop (mkF m 179 #[.val (.int p0), .val (.int p1), .val (.int p2), .val (.int p3), .val (.int p4), .val (.int p5), .val (.ref b823), .val (.ref b1451), .val (.ref b1490), .val (.int (1 : Int32))] [(.int (1 : Int32))])) _
          exact retN X1950 hx (t := .boolean) Bd.returns (by simp) (hb hby at_179) hr
        · show Qrm0 Z p0 p1 p2 p3 p4 p5 w_s_DEFAULTCAPACITY_EMPTY_ELEMENTDATA w_s_NONE h0 n0 _ T1950.heap _
          rw [e1950]
          exact ⟨rfl, N1953⟩
set_option maxRecDepth 65536 in
set_option maxHeartbeats 40000000 in
theorem comes_1 {Post : Tables → Env → Array Value → State → Outcome → State → Prop} (hpost : ∀ tb e args s v u, (limb_1_1.after args s (.returned v) u = true ∧ limb_1_2.after args s (.returned v) u = true ∧ True) → FrameEnd s (.returned v) u (Jvm.fieldLocs frame_1_writes args s ++ Jvm.arrayLocs frame_1_arrays args s ++ Jvm.staticLocs frame_1_statics s) 40 192 → Post tb e args s (.returned v) u) :
    ArmFor flags0 classFile x code maxLocals ret World_1 tables_1 room_1 Calls_1 rest_1 Pre_1 Post := by
  intro l hfl _ _ p e ha hc hk s m args below hf hA hF happ hP
  obtain ⟨hcalls, hrest, hpre⟩ := hP
  obtain ⟨-, -, -, hnamed, -, -, -, hat⟩ := (Spec.applies_iff hf).mp happ
  obtain ⟨hg, hn⟩ := and_e (Cond.before_iff.mp (show (Jvm.Cond.and given_1 narrow_1).before args s = true from hpre))
  obtain ⟨g1954, g1955⟩ := and_e hg
  obtain ⟨g1956, g1957⟩ := and_e g1955
  obtain ⟨g1958, g1959⟩ := and_e g1957
  obtain ⟨g1960, g1961⟩ := and_e g1959
  obtain ⟨g1962, g1963⟩ := and_e g1961
  obtain ⟨g1964, g1965⟩ := and_e g1963
  obtain ⟨w0, w1, w2, w3, w4, w5, rfl⟩ : ∃ w0 w1 w2 w3 w4 w5 : Value, args = #[w0, w1, w2, w3, w4, w5] := by
    have hs : args.size = 6 := by simpa [Cond.value, given_1] using g1954
    obtain ⟨L⟩ := args
    match L, hs with
    | [w0, w1, w2, w3, w4, w5], _ => exact ⟨w0, w1, w2, w3, w4, w5, rfl⟩
  have hw := fun d (hd : d ∈ tables_1) => atoms_spec (ws := Jvm.Cond.code x code maxLocals ret :: tables_1) hat d (List.mem_cons_of_mem _ hd)
  have hfit : Fit s := fun {y c} hc i hi => by
    obtain ⟨ha, rfl⟩ := Array.getElem?_eq_some_iff.mp hc
    have q := List.all_eq_true.mp ((Array.all_eq_true_iff_forall_mem.mp hF) _ (Array.getElem_mem ha)) i (List.mem_range.mpr hi)
    simpa [Array.getElem?_eq_getElem hi] using q
  obtain ⟨hsets, hown0⟩ := atoms_of _ (rest_1_c_eq ▸ (show rest_1_c.before _ s = true from hrest))
  have hr0 := Cond.before_iff.mp hown0
  obtain ⟨i0, ei0⟩ := is_v g1956
  obtain rfl : w0 = (.int i0) := Option.some.inj ei0
  obtain ⟨i1, ei1⟩ := is_v g1958
  obtain rfl : w1 = (.int i1) := Option.some.inj ei1
  obtain ⟨i2, ei2⟩ := is_v g1960
  obtain rfl : w2 = (.int i2) := Option.some.inj ei2
  obtain ⟨i3, ei3⟩ := is_v g1962
  obtain rfl : w3 = (.int i3) := Option.some.inj ei3
  obtain ⟨i4, ei4⟩ := is_v g1964
  obtain rfl : w4 = (.int i4) := Option.some.inj ei4
  obtain ⟨i5, ei5⟩ := is_v g1965
  obtain rfl : w5 = (.int i5) := Option.some.inj ei5
  obtain ⟨a_N, ev_N⟩ := exa_v hn
  have S_N : Sta s s.heap "com/example/dropwire/dropwire/dnd/Actions" "NONE" "Lcom/example/dropwire/dropwire/dnd/Actions;" (.ref a_N) := Sta.start ev_N (Or.inr ⟨(hw _ (List.mem_of_getElem? (i := 72) rfl)), (hw _ (List.mem_of_getElem? (i := 137) rfl))⟩)
  obtain ⟨a_D, ev_D⟩ := exa_v (Cond.before_iff.mp (hsets _ (List.mem_of_getElem? (i := 7) rfl)))
  have S_D : Sta s s.heap "java/util/ArrayList" "DEFAULTCAPACITY_EMPTY_ELEMENTDATA" "[Ljava/lang/Object;" (.ref a_D) := Sta.start ev_D (Or.inr ⟨(hw _ (List.mem_of_getElem? (i := 11) rfl)), (hsets _ (List.mem_of_getElem? (i := 2) rfl))⟩)
  obtain ⟨n, o, h1, h2, h3, _, L, rfl, ⟨rfl, N⟩, hq⟩ := rm0 l s _ hw tables_1 i0 i1 i2 i3 i4 i5 a_D a_N s.heap s.heap.size (Nat.le_refl _) S_D S_N p e ha hc hk s m _ below hf ((Spec.applies_iff_loose hf).mp happ).1 ⟨rfl, State.Warmed39.refl s, rfl⟩ trivial
  refine ⟨n, _, h1, h2, h3, hpost _ _ _ _ _ _ ⟨Cond.after_iff.mpr rfl, Cond.after_iff.mpr (eq_i res_at (Term.int_eval (1)) rfl), trivial⟩ ⟨hq.1, hq.2.1, (hq.2.2.sift fun y hy => Or.inr (N y hy)).mono (by decide) (by decide)⟩⟩
theorem main_1_1 : Claimed_1_1 := comes_1 fun _ _ _ _ _ _ h hF => ⟨h.1, hF⟩
theorem main_1_2 : Claimed_1_2 := comes_1 fun _ _ _ _ _ _ h hF => ⟨h.2.1, hF⟩
end Jvm.Pilot.@@N@@
namespace Jvm.Pilot.@@N@@
open Jvm Jvm.ClassFile Sem Op Lib Jvm.Free Jvm.Stand Jvm.Pilot.@@N@@.Jvm.D
/-! MADE BY PROGRAM (witnessworld.py) out of the Statement's table words and the real class files: 32 classes; the members and pool entries that the words name. The judged class is class 1, her method 1. -/
namespace start1
open Jvm.ClassFile
def u (s : String) : CpInfo := .utf8 (stringToUtf16 s)
/-- a pool by its gaps: so many unusable entries, then the entry; so many at the end -/
def gap : Nat → List CpInfo → List CpInfo
  | 0, r => r
  | n + 1, r => .unusable :: gap n r
def poolList (es : List (Nat × CpInfo)) (last : Nat) : List CpInfo := es.foldr (fun e r => gap e.1 (e.2 :: r)) (gap last [])
def pool (es : List (Nat × CpInfo)) (last : Nat) : Array CpInfo := ⟨poolList es last⟩
def fileOf (pool : Array CpInfo) (this : Nat) (attrs : Array Attribute := #[]) (ms : Array MethodInfo := #[]) (fl : Nat := 33) (sup : Nat := 0) (ifs : Array Nat := #[]) (fds : Array FieldInfo := #[]) : ClassFile where
  minorVersion := 0
  majorVersion := 65
  constantPool := pool
  accessFlags := fl
  thisClass := this
  superClass := sup
  interfaces := ifs
  fields := fds
  methods := ms
  attributes := attrs
def plain (name : String) (sup : Option ClassId) : Class where
  name := name
  kind := .ordinary
  loader := none
  accessFlags := 33
  super := sup
  interfaces := #[]
  cf := none
  fields := #[]
  methods := #[]
  instanceTypes := #[]
  staticTypes := #[]
  resolved := #[]
  callSites := []
  init := .initialized
  statics := none
  mirror := none

def pool0 : Array CpInfo := pool [(5, u "<init>"), (0, u "()V"), (1, .class_ 10), (1, u "java/lang/Object")] 113

def k0c0 : Code := { maxStack := 0, maxLocals := 1, code := object_method_1_code, exceptionTable := #[], attributes := #[] }
def k0m0 : Method := { name := "<init>", desc := "()V", sig := { parameters := [], returnType := none }, accessFlags := 1, code := some k0c0 }
/-- java/lang/Object -/
def k0 : Class := { plain "java/lang/Object" none with
  accessFlags := 33
  interfaces := #[]
  cf := some (fileOf pool0 8 #[] #[{ accessFlags := 1, nameIndex := 5, descriptorIndex := 6, attributes := #[] }] 33 0 #[] #[])
  fields := #[]
  methods := #[k0m0]
  instanceTypes := #[]
  staticTypes := #[]
  resolved := Array.replicate 124 none
  statics := none }

def pool1 : Array CpInfo := pool [(2, .class_ 4), (0, .nameAndType 5 6), (0, u "java/lang/Object"), (0, u "<init>"), (0, u "()V"), (0, .class_ 8), (0, u "com/example/dropwire/dropwire/inprocess/InProcessPeer"), (0, .methodref 7 3), (0, .methodref 7 11), (0, .nameAndType 12 13), (0, u "isDragging"), (0, u "()Z"), (0, .class_ 15), (0, u "com/example/dropwire/dropwire/dnd/Point"), (0, .methodref 14 17), (0, .nameAndType 5 18), (0, u "(II)V"), (0, .methodref 7 20), (0, .nameAndType 21 22), (0, u "moveTo"), (0, u "(Lcom/example/dropwire/dropwire/dnd/Point;)V"), (0, .integer 2147483647), (0, .methodref 25 26), (0, .class_ 27), (0, .nameAndType 28 29), (0, u "com/example/dropwire/dropwire/dnd/Actions"), (0, u "fromBits"), (0, u "(I)Lcom/example/dropwire/dropwire/dnd/Actions;"), (0, .class_ 31), (0, u "com/example/dropwire/dropwire/dnd/DragSource"), (0, .methodref 30 3), (0, .methodref 7 34), (0, .nameAndType 35 36), (0, u "gesture"), (0, u "(Lcom/example/dropwire/dropwire/dnd/Point;Lcom/example/dropwire/dropwire/dnd/Actions;)Lcom/example/dropwire/dropwire/dnd/DragGesture;"), (0, .methodref 30 38), (0, .nameAndType 39 40), (0, u "startDrag"), (0, u "(Lcom/example/dropwire/dropwire/dnd/DragGesture;Lcom/example/dropwire/dropwire/transfer/Transferable;Lcom/example/dropwire/dropwire/dnd/Actions;Lcom/example/dropwire/dropwire/dnd/DragSourceListener;)Lcom/example/dropwire/dropwire/dnd/DragSourceContext;"), (0, .class_ 42), (0, u "com/example/dropwire/dropwire/inprocess/InProcessPeerIsDraggingPinLaw"), (2, u "law"), (0, u "(IIIIII)Z")] 3

def k1m0 : Method := { name := "<init>", desc := "()V", sig := { parameters := [], returnType := none }, accessFlags := 1, code := none }
def k1c1 : Code := { maxStack := 6, maxLocals := 10, code := code, exceptionTable := #[], attributes := #[] }
def k1m1 : Method := { name := "law", desc := "(IIIIII)Z", sig := { parameters := [.int, .int, .int, .int, .int, .int], returnType := some .boolean }, accessFlags := 9, code := some k1c1 }
/-- com/example/dropwire/dropwire/inprocess/InProcessPeerIsDraggingPinLaw -/
def k1 : Class := { plain "com/example/dropwire/dropwire/inprocess/InProcessPeerIsDraggingPinLaw" (some 0) with
  accessFlags := 49
  interfaces := #[]
  cf := some (fileOf pool1 41 #[] #[{ accessFlags := 1, nameIndex := 5, descriptorIndex := 6, attributes := #[] }, { accessFlags := 9, nameIndex := 45, descriptorIndex := 46, attributes := #[] }] 49 2 #[] #[])
  fields := #[]
  methods := #[k1m0, k1m1]
  instanceTypes := #[]
  staticTypes := #[]
  resolved := Array.replicate 50 none
  statics := none }

def pool2 : Array CpInfo := pool [(1, .class_ 2), (0, u "com/example/dropwire/dropwire/dnd/DragSourcePeer"), (0, .class_ 4), (0, u "java/lang/Object"), (0, u "startDrag"), (0, u "(Lcom/example/dropwire/dropwire/dnd/DragSourceContext;Lcom/example/dropwire/dropwire/dnd/Point;)V")] 2

def k2m0 : Method := { name := "startDrag", desc := "(Lcom/example/dropwire/dropwire/dnd/DragSourceContext;Lcom/example/dropwire/dropwire/dnd/Point;)V", sig := { parameters := [(.object "com/example/dropwire/dropwire/dnd/DragSourceContext"), (.object "com/example/dropwire/dropwire/dnd/Point")], returnType := none }, accessFlags := 1025, code := none }
/-- com/example/dropwire/dropwire/dnd/DragSourcePeer -/
def k2 : Class := { plain "com/example/dropwire/dropwire/dnd/DragSourcePeer" (some 0) with
  accessFlags := 1537
  interfaces := #[]
  cf := some (fileOf pool2 1 #[] #[{ accessFlags := 1025, nameIndex := 5, descriptorIndex := 6, attributes := #[] }] 1537 3 #[] #[])
  fields := #[]
  methods := #[k2m0]
  instanceTypes := #[]
  staticTypes := #[]
  resolved := Array.replicate 9 none
  statics := none }

def pool3 : Array CpInfo := pool [(1, .methodref 2 3), (0, .class_ 4), (0, .nameAndType 5 6), (0, u "java/lang/Object"), (0, u "<init>"), (0, u "()V"), (0, .class_ 8), (0, u "java/util/ArrayList"), (0, .methodref 7 3), (0, .fieldref 11 12), (0, .class_ 13), (0, .nameAndType 14 15), (0, u "com/example/dropwire/dropwire/inprocess/InProcessPeer"), (0, u "components"), (0, u "Ljava/util/List;"), (0, .fieldref 11 17), (0, .nameAndType 18 15), (0, u "recognizers"), (0, .class_ 20), (0, u "com/example/dropwire/dropwire/dnd/Point"), (0, .methodref 19 22), (0, .nameAndType 5 23), (0, u "(II)V"), (0, .fieldref 11 25), (0, .nameAndType 26 27), (0, u "hotspot"), (0, u "Lcom/example/dropwire/dropwire/dnd/Point;"), (0, .class_ 29), (0, u "com/example/dropwire/dropwire/inprocess/InProcessPeer$Component"), (4, .class_ 36), (1, u "java/util/List"), (2, .class_ 40), (0, u "com/example/dropwire/dropwire/dnd/DragGesture"), (0, .methodref 39 42), (0, .nameAndType 5 43), (0, u "(Lcom/example/dropwire/dropwire/dnd/DragSourcePeer;Lcom/example/dropwire/dropwire/dnd/Point;Lcom/example/dropwire/dropwire/dnd/Actions;)V"), (0, .class_ 45), (0, u "com/example/dropwire/dropwire/inprocess/InProcessPeer$Recognizer"), (3, .interfaceMethodref 34 50), (0, .nameAndType 51 52), (0, u "size"), (0, u "()I"), (0, .fieldref 11 54), (0, .nameAndType 55 56), (0, u "drag"), (0, u "Lcom/example/dropwire/dropwire/dnd/DragSourceContext;"), (24, .fieldref 11 82), (0, .nameAndType 83 84), (0, u "plain"), (0, u "Lcom/example/dropwire/dropwire/dnd/Actions;"), (16, u "moveTo"), (0, u "(Lcom/example/dropwire/dropwire/dnd/Point;)V"), (19, .fieldref 11 123), (0, .nameAndType 124 125), (0, u "recognizing"), (0, u "Lcom/example/dropwire/dropwire/inprocess/InProcessPeer$Recognizer;"), (0, .methodref 127 128), (0, .class_ 129), (0, .nameAndType 130 131), (0, u "com/example/dropwire/dropwire/dnd/DragSourceContext"), (0, u "getUserAction"), (0, u "()Lcom/example/dropwire/dropwire/dnd/Actions;"), (3, .interfaceMethodref 34 136), (0, .nameAndType 137 138), (0, u "iterator"), (0, u "()Ljava/util/Iterator;"), (0, .interfaceMethodref 140 141), (0, .class_ 142), (0, .nameAndType 143 144), (0, u "java/util/Iterator"), (0, u "hasNext"), (0, u "()Z"), (7, .methodref 11 153), (0, .nameAndType 154 155), (0, u "activeComponentAt"), (0, u "(Lcom/example/dropwire/dropwire/dnd/Point;)Lcom/example/dropwire/dropwire/inprocess/InProcessPeer$Component;"), (0, .fieldref 11 157), (0, .nameAndType 158 159), (0, u "under"), (0, u "Lcom/example/dropwire/dropwire/inprocess/InProcessPeer$Component;"), (7, .fieldref 11 168), (0, .nameAndType 169 170), (0, u "visit"), (0, u "Lcom/example/dropwire/dropwire/dnd/DropTargetVisit;"), (91, .class_ 263), (0, u "com/example/dropwire/dropwire/dnd/DragSourcePeer"), (6, u "gesture"), (0, u "(Lcom/example/dropwire/dropwire/dnd/Point;Lcom/example/dropwire/dropwire/dnd/Actions;)Lcom/example/dropwire/dropwire/dnd/DragGesture;"), (5, u "startDrag"), (0, u "(Lcom/example/dropwire/dropwire/dnd/DragSourceContext;Lcom/example/dropwire/dropwire/dnd/Point;)V"), (2, u "isDragging")] 10

def k3c0 : Code := { maxStack := 5, maxLocals := 1, code := prog_44_method_1_code, exceptionTable := #[], attributes := #[] }
def k3m0 : Method := { name := "<init>", desc := "()V", sig := { parameters := [], returnType := none }, accessFlags := 1, code := some k3c0 }
def k3c1 : Code := { maxStack := 5, maxLocals := 3, code := prog_44_method_3_code, exceptionTable := #[], attributes := #[] }
def k3m1 : Method := { name := "gesture", desc := "(Lcom/example/dropwire/dropwire/dnd/Point;Lcom/example/dropwire/dropwire/dnd/Actions;)Lcom/example/dropwire/dropwire/dnd/DragGesture;", sig := { parameters := [(.object "com/example/dropwire/dropwire/dnd/Point"), (.object "com/example/dropwire/dropwire/dnd/Actions")], returnType := some (.object "com/example/dropwire/dropwire/dnd/DragGesture") }, accessFlags := 1, code := some k3c1 }
def k3c2 : Code := { maxStack := 3, maxLocals := 5, code := prog_44_method_6_code, exceptionTable := #[], attributes := #[] }
def k3m2 : Method := { name := "startDrag", desc := "(Lcom/example/dropwire/dropwire/dnd/DragSourceContext;Lcom/example/dropwire/dropwire/dnd/Point;)V", sig := { parameters := [(.object "com/example/dropwire/dropwire/dnd/DragSourceContext"), (.object "com/example/dropwire/dropwire/dnd/Point")], returnType := none }, accessFlags := 1, code := some k3c2 }
def k3c3 : Code := { maxStack := 1, maxLocals := 1, code := prog_44_method_7_code, exceptionTable := #[], attributes := #[] }
def k3m3 : Method := { name := "isDragging", desc := "()Z", sig := { parameters := [], returnType := some .boolean }, accessFlags := 1, code := some k3c3 }
def k3c4 : Code := { maxStack := 4, maxLocals := 3, code := prog_44_method_8_code, exceptionTable := #[], attributes := #[] }
def k3m4 : Method := { name := "moveTo", desc := "(Lcom/example/dropwire/dropwire/dnd/Point;)V", sig := { parameters := [(.object "com/example/dropwire/dropwire/dnd/Point")], returnType := none }, accessFlags := 1, code := some k3c4 }
def k3c5 : Code := { maxStack := 2, maxLocals := 4, code := prog_44_method_13_code, exceptionTable := #[], attributes := #[] }
def k3m5 : Method := { name := "activeComponentAt", desc := "(Lcom/example/dropwire/dropwire/dnd/Point;)Lcom/example/dropwire/dropwire/inprocess/InProcessPeer$Component;", sig := { parameters := [(.object "com/example/dropwire/dropwire/dnd/Point")], returnType := some (.object "com/example/dropwire/dropwire/inprocess/InProcessPeer$Component") }, accessFlags := 2, code := some k3c5 }
/-- com/example/dropwire/dropwire/inprocess/InProcessPeer -/
def k3 : Class := { plain "com/example/dropwire/dropwire/inprocess/InProcessPeer" (some 0) with
  accessFlags := 49
  interfaces := #[2]
  cf := some (fileOf pool3 11 #[.nestMembers #[44, 28]] #[{ accessFlags := 1, nameIndex := 5, descriptorIndex := 6, attributes := #[] }, { accessFlags := 1, nameIndex := 270, descriptorIndex := 271, attributes := #[] }, { accessFlags := 1, nameIndex := 277, descriptorIndex := 278, attributes := #[] }, { accessFlags := 1, nameIndex := 281, descriptorIndex := 144, attributes := #[] }, { accessFlags := 1, nameIndex := 101, descriptorIndex := 102, attributes := #[] }, { accessFlags := 2, nameIndex := 154, descriptorIndex := 155, attributes := #[] }] 49 2 #[262] #[{ accessFlags := 18, nameIndex := 14, descriptorIndex := 15, attributes := #[] }, { accessFlags := 18, nameIndex := 18, descriptorIndex := 15, attributes := #[] }, { accessFlags := 2, nameIndex := 124, descriptorIndex := 125, attributes := #[] }, { accessFlags := 2, nameIndex := 26, descriptorIndex := 27, attributes := #[] }, { accessFlags := 2, nameIndex := 55, descriptorIndex := 56, attributes := #[] }, { accessFlags := 2, nameIndex := 83, descriptorIndex := 84, attributes := #[] }, { accessFlags := 2, nameIndex := 158, descriptorIndex := 159, attributes := #[] }, { accessFlags := 2, nameIndex := 169, descriptorIndex := 170, attributes := #[] }])
  fields := #[{ name := "components", type := (.object "java/util/List"), accessFlags := 18, slot := 0, constantValue := 0 }, { name := "recognizers", type := (.object "java/util/List"), accessFlags := 18, slot := 1, constantValue := 0 }, { name := "recognizing", type := (.object "com/example/dropwire/dropwire/inprocess/InProcessPeer$Recognizer"), accessFlags := 2, slot := 2, constantValue := 0 }, { name := "hotspot", type := (.object "com/example/dropwire/dropwire/dnd/Point"), accessFlags := 2, slot := 3, constantValue := 0 }, { name := "drag", type := (.object "com/example/dropwire/dropwire/dnd/DragSourceContext"), accessFlags := 2, slot := 4, constantValue := 0 }, { name := "plain", type := (.object "com/example/dropwire/dropwire/dnd/Actions"), accessFlags := 2, slot := 5, constantValue := 0 }, { name := "under", type := (.object "com/example/dropwire/dropwire/inprocess/InProcessPeer$Component"), accessFlags := 2, slot := 6, constantValue := 0 }, { name := "visit", type := (.object "com/example/dropwire/dropwire/dnd/DropTargetVisit"), accessFlags := 2, slot := 7, constantValue := 0 }]
  methods := #[k3m0, k3m1, k3m2, k3m3, k3m4, k3m5]
  instanceTypes := #[(.object "java/util/List"), (.object "java/util/List"), (.object "com/example/dropwire/dropwire/inprocess/InProcessPeer$Recognizer"), (.object "com/example/dropwire/dropwire/dnd/Point"), (.object "com/example/dropwire/dropwire/dnd/DragSourceContext"), (.object "com/example/dropwire/dropwire/dnd/Actions"), (.object "com/example/dropwire/dropwire/inprocess/InProcessPeer$Component"), (.object "com/example/dropwire/dropwire/dnd/DropTargetVisit")]
  staticTypes := #[]
  resolved := Array.replicate 292 none
  statics := none }

def pool4 : Array CpInfo := pool [(8, .class_ 10), (1, u "java/lang/Iterable"), (24, .class_ 36), (0, u "java/lang/Object")] 25

/-- java/lang/Iterable -/
def k4 : Class := { plain "java/lang/Iterable" (some 0) with
  accessFlags := 1537
  interfaces := #[]
  cf := some (fileOf pool4 8 #[] #[] 1537 35 #[] #[])
  fields := #[]
  methods := #[]
  instanceTypes := #[]
  staticTypes := #[]
  resolved := Array.replicate 62 none
  statics := none }

def pool5 : Array CpInfo := pool [(10, .class_ 12), (1, u "java/util/Collection"), (47, .class_ 61), (0, u "java/lang/Object"), (0, .class_ 63), (0, u "java/lang/Iterable")] 51

/-- java/util/Collection -/
def k5 : Class := { plain "java/util/Collection" (some 0) with
  accessFlags := 1537
  interfaces := #[4]
  cf := some (fileOf pool5 10 #[] #[] 1537 60 #[62] #[])
  fields := #[]
  methods := #[]
  instanceTypes := #[]
  staticTypes := #[]
  resolved := Array.replicate 115 none
  statics := none }

def pool6 : Array CpInfo := pool [(1, .methodref 2 3), (0, .class_ 4), (0, .nameAndType 5 6), (0, u "java/lang/Object"), (0, u "<init>"), (0, u "()V"), (1, .class_ 10), (1, u "java/util/AbstractCollection"), (66, .class_ 78), (0, u "java/util/Collection")] 81

def k6c0 : Code := { maxStack := 1, maxLocals := 1, code := jdk_22_method_1_code, exceptionTable := #[], attributes := #[] }
def k6m0 : Method := { name := "<init>", desc := "()V", sig := { parameters := [], returnType := none }, accessFlags := 4, code := some k6c0 }
/-- java/util/AbstractCollection -/
def k6 : Class := { plain "java/util/AbstractCollection" (some 0) with
  accessFlags := 1057
  interfaces := #[5]
  cf := some (fileOf pool6 8 #[] #[{ accessFlags := 4, nameIndex := 5, descriptorIndex := 6, attributes := #[] }] 1057 2 #[77] #[])
  fields := #[]
  methods := #[k6m0]
  instanceTypes := #[]
  staticTypes := #[]
  resolved := Array.replicate 160 none
  statics := none }

def pool7 : Array CpInfo := pool [(8, .class_ 10), (1, u "java/util/SequencedCollection"), (15, .class_ 27), (0, u "java/lang/Object"), (0, .class_ 29), (0, u "java/util/Collection")] 27

/-- java/util/SequencedCollection -/
def k7 : Class := { plain "java/util/SequencedCollection" (some 0) with
  accessFlags := 1537
  interfaces := #[5]
  cf := some (fileOf pool7 8 #[] #[] 1537 26 #[28] #[])
  fields := #[]
  methods := #[]
  instanceTypes := #[]
  staticTypes := #[]
  resolved := Array.replicate 57 none
  statics := none }

def pool8 : Array CpInfo := pool [(8, .class_ 10), (1, u "java/util/List"), (68, u "size"), (0, u "()I"), (22, .class_ 104), (0, u "java/lang/Object"), (15, .class_ 121), (0, u "java/util/SequencedCollection"), (1, u "iterator"), (0, u "()Ljava/util/Iterator;")] 126

def k8m0 : Method := { name := "size", desc := "()I", sig := { parameters := [], returnType := some .int }, accessFlags := 1025, code := none }
def k8m1 : Method := { name := "iterator", desc := "()Ljava/util/Iterator;", sig := { parameters := [], returnType := some (.object "java/util/Iterator") }, accessFlags := 1025, code := none }
/-- java/util/List -/
def k8 : Class := { plain "java/util/List" (some 0) with
  accessFlags := 1537
  interfaces := #[7]
  cf := some (fileOf pool8 8 #[] #[{ accessFlags := 1025, nameIndex := 79, descriptorIndex := 80, attributes := #[] }, { accessFlags := 1025, nameIndex := 123, descriptorIndex := 124, attributes := #[] }] 1537 103 #[120] #[])
  fields := #[]
  methods := #[k8m0, k8m1]
  instanceTypes := #[]
  staticTypes := #[]
  resolved := Array.replicate 251 none
  statics := none }

def pool9 : Array CpInfo := pool [(1, .methodref 2 3), (0, .class_ 4), (0, .nameAndType 5 6), (0, u "java/util/AbstractCollection"), (0, u "<init>"), (0, u "()V"), (0, .fieldref 8 9), (0, .class_ 10), (0, .nameAndType 11 12), (0, u "java/util/AbstractList"), (0, u "modCount"), (0, u "I"), (64, .class_ 78), (0, u "java/util/AbstractList$Itr"), (3, .class_ 83), (0, u "java/util/AbstractList$ListItr"), (9, .class_ 94), (0, u "java/util/AbstractList$RandomAccessSubList"), (3, .class_ 99), (0, u "java/util/AbstractList$SubList"), (33, .class_ 134), (0, u "java/util/List"), (73, .class_ 209), (0, u "java/util/AbstractList$SubList$1"), (0, .class_ 211), (0, u "java/util/AbstractList$RandomAccessSpliterator")] 6

def k9c0 : Code := { maxStack := 2, maxLocals := 1, code := jdk_39_method_1_code, exceptionTable := #[], attributes := #[] }
def k9m0 : Method := { name := "<init>", desc := "()V", sig := { parameters := [], returnType := none }, accessFlags := 4, code := some k9c0 }
/-- java/util/AbstractList -/
def k9 : Class := { plain "java/util/AbstractList" (some 6) with
  accessFlags := 1057
  interfaces := #[8]
  cf := some (fileOf pool9 8 #[.nestMembers #[93, 98, 208, 210, 82, 77]] #[{ accessFlags := 4, nameIndex := 5, descriptorIndex := 6, attributes := #[] }] 1057 2 #[133] #[{ accessFlags := 132, nameIndex := 11, descriptorIndex := 12, attributes := #[] }])
  fields := #[{ name := "modCount", type := .int, accessFlags := 132, slot := 0, constantValue := 0 }]
  methods := #[k9m0]
  instanceTypes := #[.int]
  staticTypes := #[]
  resolved := Array.replicate 218 none
  statics := none }

def pool10 : Array CpInfo := pool [(1, .class_ 2), (0, u "java/util/RandomAccess"), (0, .class_ 4), (0, u "java/lang/Object")] 2

/-- java/util/RandomAccess -/
def k10 : Class := { plain "java/util/RandomAccess" (some 0) with
  accessFlags := 1537
  interfaces := #[]
  cf := some (fileOf pool10 1 #[] #[] 1537 3 #[] #[])
  fields := #[]
  methods := #[]
  instanceTypes := #[]
  staticTypes := #[]
  resolved := Array.replicate 7 none
  statics := none }

def pool11 : Array CpInfo := pool [(1, .class_ 2), (0, u "java/lang/Cloneable"), (0, .class_ 4), (0, u "java/lang/Object")] 2

/-- java/lang/Cloneable -/
def k11 : Class := { plain "java/lang/Cloneable" (some 0) with
  accessFlags := 1537
  interfaces := #[]
  cf := some (fileOf pool11 1 #[] #[] 1537 3 #[] #[])
  fields := #[]
  methods := #[]
  instanceTypes := #[]
  staticTypes := #[]
  resolved := Array.replicate 7 none
  statics := none }

def pool12 : Array CpInfo := pool [(1, .class_ 2), (0, u "java/io/Serializable"), (0, .class_ 4), (0, u "java/lang/Object")] 2

/-- java/io/Serializable -/
def k12 : Class := { plain "java/io/Serializable" (some 0) with
  accessFlags := 1537
  interfaces := #[]
  cf := some (fileOf pool12 1 #[] #[] 1537 3 #[] #[])
  fields := #[]
  methods := #[]
  instanceTypes := #[]
  staticTypes := #[]
  resolved := Array.replicate 7 none
  statics := none }

def pool13 : Array CpInfo := pool [(1, .methodref 2 3), (0, .class_ 4), (0, .nameAndType 5 6), (0, u "java/util/AbstractList"), (0, u "<init>"), (0, u "()V"), (2, .fieldref 10 11), (0, .class_ 12), (0, .nameAndType 13 14), (0, u "java/util/ArrayList"), (0, u "elementData"), (0, u "[Ljava/lang/Object;"), (2, u "EMPTY_ELEMENTDATA"), (21, .fieldref 10 40), (0, .nameAndType 41 14), (0, u "DEFAULTCAPACITY_EMPTY_ELEMENTDATA"), (6, .fieldref 10 49), (0, .nameAndType 50 51), (0, u "size"), (0, u "I"), (96, .class_ 149), (0, u "java/util/List"), (16, u "iterator"), (0, u "()Ljava/util/Iterator;"), (18, u "()I"), (75, .class_ 263), (0, u "java/util/ArrayList$ListItr"), (3, .class_ 268), (0, u "java/util/ArrayList$Itr"), (0, .methodref 267 270), (0, .nameAndType 5 271), (0, u "(Ljava/util/ArrayList;)V"), (4, .class_ 277), (0, u "java/util/ArrayList$SubList"), (12, .class_ 291), (0, u "java/util/ArrayList$ArrayListSpliterator"), (37, .class_ 330), (0, u "java/util/RandomAccess"), (0, .class_ 332), (0, u "java/lang/Cloneable"), (0, .class_ 334), (0, u "java/io/Serializable"), (0, u "serialVersionUID"), (0, u "J"), (3, u "DEFAULT_CAPACITY"), (159, .class_ 501), (0, u "java/util/ArrayList$SubList$2"), (0, .class_ 503), (0, u "java/util/ArrayList$SubList$1")] 5

def k13c0 : Code := { maxStack := 2, maxLocals := 1, code := jdk_38_method_2_code, exceptionTable := #[], attributes := #[] }
def k13m0 : Method := { name := "<init>", desc := "()V", sig := { parameters := [], returnType := none }, accessFlags := 1, code := some k13c0 }
def k13c1 : Code := { maxStack := 1, maxLocals := 1, code := jdk_38_method_8_code, exceptionTable := #[], attributes := #[] }
def k13m1 : Method := { name := "size", desc := "()I", sig := { parameters := [], returnType := some .int }, accessFlags := 1, code := some k13c1 }
def k13c2 : Code := { maxStack := 3, maxLocals := 1, code := jdk_38_method_55_code, exceptionTable := #[], attributes := #[] }
def k13m2 : Method := { name := "iterator", desc := "()Ljava/util/Iterator;", sig := { parameters := [], returnType := some (.object "java/util/Iterator") }, accessFlags := 1, code := some k13c2 }
/-- java/util/ArrayList -/
def k13 : Class := { plain "java/util/ArrayList" (some 9) with
  accessFlags := 33
  interfaces := #[8, 10, 11, 12]
  cf := some (fileOf pool13 10 #[.nestMembers #[290, 276, 500, 502, 262, 267]] #[{ accessFlags := 1, nameIndex := 5, descriptorIndex := 6, attributes := #[] }, { accessFlags := 1, nameIndex := 50, descriptorIndex := 186, attributes := #[] }, { accessFlags := 1, nameIndex := 166, descriptorIndex := 167, attributes := #[] }] 33 2 #[148, 329, 331, 333] #[{ accessFlags := 26, nameIndex := 335, descriptorIndex := 336, attributes := #[] }, { accessFlags := 26, nameIndex := 340, descriptorIndex := 51, attributes := #[] }, { accessFlags := 26, nameIndex := 17, descriptorIndex := 14, attributes := #[] }, { accessFlags := 26, nameIndex := 41, descriptorIndex := 14, attributes := #[] }, { accessFlags := 128, nameIndex := 13, descriptorIndex := 14, attributes := #[] }, { accessFlags := 2, nameIndex := 50, descriptorIndex := 51, attributes := #[] }])
  fields := #[{ name := "serialVersionUID", type := .long, accessFlags := 26, slot := 0, constantValue := 0 }, { name := "DEFAULT_CAPACITY", type := .int, accessFlags := 26, slot := 1, constantValue := 0 }, { name := "EMPTY_ELEMENTDATA", type := (.array (.object "java/lang/Object")), accessFlags := 26, slot := 2, constantValue := 0 }, { name := "DEFAULTCAPACITY_EMPTY_ELEMENTDATA", type := (.array (.object "java/lang/Object")), accessFlags := 26, slot := 3, constantValue := 0 }, { name := "elementData", type := (.array (.object "java/lang/Object")), accessFlags := 128, slot := 1, constantValue := 0 }, { name := "size", type := .int, accessFlags := 2, slot := 2, constantValue := 0 }]
  methods := #[k13m0, k13m1, k13m2]
  instanceTypes := #[.int, (.array (.object "java/lang/Object")), .int]
  staticTypes := #[.long, .int, (.array (.object "java/lang/Object")), (.array (.object "java/lang/Object"))]
  resolved := Array.replicate 509 none
  statics := some 0 }

def pool14 : Array CpInfo := pool [(1, .methodref 2 3), (0, .class_ 4), (0, .nameAndType 5 6), (0, u "java/lang/Object"), (0, u "<init>"), (0, u "()V"), (0, .class_ 8), (0, u "java/lang/Record")] 13

def k14c0 : Code := { maxStack := 1, maxLocals := 1, code := jdk_30_method_1_code, exceptionTable := #[], attributes := #[] }
def k14m0 : Method := { name := "<init>", desc := "()V", sig := { parameters := [], returnType := none }, accessFlags := 4, code := some k14c0 }
/-- java/lang/Record -/
def k14 : Class := { plain "java/lang/Record" (some 0) with
  accessFlags := 1057
  interfaces := #[]
  cf := some (fileOf pool14 7 #[] #[{ accessFlags := 4, nameIndex := 5, descriptorIndex := 6, attributes := #[] }] 1057 2 #[] #[])
  fields := #[]
  methods := #[k14m0]
  instanceTypes := #[]
  staticTypes := #[]
  resolved := Array.replicate 22 none
  statics := none }

def pool15 : Array CpInfo := pool [(1, .methodref 2 3), (0, .class_ 4), (0, .nameAndType 5 6), (0, u "java/lang/Record"), (0, u "<init>"), (0, u "()V"), (0, .fieldref 8 9), (0, .class_ 10), (0, .nameAndType 11 12), (0, u "com/example/dropwire/dropwire/dnd/Point"), (0, u "x"), (0, u "I"), (0, .fieldref 8 14), (0, .nameAndType 15 12), (0, u "y"), (12, u "(II)V")] 27

def k15c0 : Code := { maxStack := 2, maxLocals := 3, code := prog_36_method_1_code, exceptionTable := #[], attributes := #[] }
def k15m0 : Method := { name := "<init>", desc := "(II)V", sig := { parameters := [.int, .int], returnType := none }, accessFlags := 1, code := some k15c0 }
/-- com/example/dropwire/dropwire/dnd/Point -/
def k15 : Class := { plain "com/example/dropwire/dropwire/dnd/Point" (some 14) with
  accessFlags := 49
  interfaces := #[]
  cf := some (fileOf pool15 8 #[] #[{ accessFlags := 1, nameIndex := 5, descriptorIndex := 28, attributes := #[] }] 49 2 #[] #[{ accessFlags := 18, nameIndex := 11, descriptorIndex := 12, attributes := #[] }, { accessFlags := 18, nameIndex := 15, descriptorIndex := 12, attributes := #[] }])
  fields := #[{ name := "x", type := .int, accessFlags := 18, slot := 0, constantValue := 0 }, { name := "y", type := .int, accessFlags := 18, slot := 1, constantValue := 0 }]
  methods := #[k15m0]
  instanceTypes := #[.int, .int]
  staticTypes := #[]
  resolved := Array.replicate 56 none
  statics := none }

def pool16 : Array CpInfo := pool [(1, .methodref 2 3), (0, .class_ 4), (0, .nameAndType 5 6), (0, u "java/lang/Object"), (0, u "<init>"), (0, u "()V"), (0, .fieldref 8 9), (0, .class_ 10), (0, .nameAndType 11 12), (0, u "com/example/dropwire/dropwire/dnd/Actions"), (0, u "bits"), (0, u "I"), (2, u "NONE"), (0, u "Lcom/example/dropwire/dropwire/dnd/Actions;"), (10, u "NAMES"), (0, u "Ljava/util/List;"), (17, u "EACH"), (11, .methodref 8 59), (0, .nameAndType 5 60), (0, u "(I)V"), (0, .methodref 62 63), (0, .class_ 64), (0, .nameAndType 65 66), (0, u "java/lang/Integer"), (0, u "bitCount"), (0, u "(I)I"), (32, u "COPY"), (2, u "MOVE"), (2, u "LINK"), (13, u "ALL_BITS"), (9, u "fromBits"), (0, u "(I)Lcom/example/dropwire/dropwire/dnd/Actions;"), (1, u "requireSingle"), (0, u "()Lcom/example/dropwire/dropwire/dnd/Actions;")] 26

def k16c0 : Code := { maxStack := 2, maxLocals := 2, code := prog_10_method_1_code, exceptionTable := #[], attributes := #[] }
def k16m0 : Method := { name := "<init>", desc := "(I)V", sig := { parameters := [.int], returnType := none }, accessFlags := 2, code := some k16c0 }
def k16c1 : Code := { maxStack := 4, maxLocals := 1, code := prog_10_method_3_code, exceptionTable := #[], attributes := #[] }
def k16m1 : Method := { name := "fromBits", desc := "(I)Lcom/example/dropwire/dropwire/dnd/Actions;", sig := { parameters := [.int], returnType := some (.object "com/example/dropwire/dropwire/dnd/Actions") }, accessFlags := 9, code := some k16c1 }
def k16c2 : Code := { maxStack := 3, maxLocals := 1, code := prog_10_method_8_code, exceptionTable := #[], attributes := #[] }
def k16m2 : Method := { name := "requireSingle", desc := "()Lcom/example/dropwire/dropwire/dnd/Actions;", sig := { parameters := [], returnType := some (.object "com/example/dropwire/dropwire/dnd/Actions") }, accessFlags := 1, code := some k16c2 }
/-- com/example/dropwire/dropwire/dnd/Actions -/
def k16 : Class := { plain "com/example/dropwire/dropwire/dnd/Actions" (some 0) with
  accessFlags := 49
  interfaces := #[]
  cf := some (fileOf pool16 8 #[] #[{ accessFlags := 2, nameIndex := 5, descriptorIndex := 60, attributes := #[] }, { accessFlags := 9, nameIndex := 129, descriptorIndex := 130, attributes := #[] }, { accessFlags := 1, nameIndex := 132, descriptorIndex := 133, attributes := #[] }] 49 2 #[] #[{ accessFlags := 25, nameIndex := 15, descriptorIndex := 16, attributes := #[] }, { accessFlags := 25, nameIndex := 99, descriptorIndex := 16, attributes := #[] }, { accessFlags := 25, nameIndex := 102, descriptorIndex := 16, attributes := #[] }, { accessFlags := 25, nameIndex := 105, descriptorIndex := 16, attributes := #[] }, { accessFlags := 26, nameIndex := 46, descriptorIndex := 28, attributes := #[] }, { accessFlags := 26, nameIndex := 27, descriptorIndex := 28, attributes := #[] }, { accessFlags := 26, nameIndex := 119, descriptorIndex := 12, attributes := #[] }, { accessFlags := 18, nameIndex := 11, descriptorIndex := 12, attributes := #[] }])
  fields := #[{ name := "NONE", type := (.object "com/example/dropwire/dropwire/dnd/Actions"), accessFlags := 25, slot := 0, constantValue := 0 }, { name := "COPY", type := (.object "com/example/dropwire/dropwire/dnd/Actions"), accessFlags := 25, slot := 1, constantValue := 0 }, { name := "MOVE", type := (.object "com/example/dropwire/dropwire/dnd/Actions"), accessFlags := 25, slot := 2, constantValue := 0 }, { name := "LINK", type := (.object "com/example/dropwire/dropwire/dnd/Actions"), accessFlags := 25, slot := 3, constantValue := 0 }, { name := "EACH", type := (.object "java/util/List"), accessFlags := 26, slot := 4, constantValue := 0 }, { name := "NAMES", type := (.object "java/util/List"), accessFlags := 26, slot := 5, constantValue := 0 }, { name := "ALL_BITS", type := .int, accessFlags := 26, slot := 6, constantValue := 0 }, { name := "bits", type := .int, accessFlags := 18, slot := 0, constantValue := 0 }]
  methods := #[k16m0, k16m1, k16m2]
  instanceTypes := #[.int]
  staticTypes := #[(.object "com/example/dropwire/dropwire/dnd/Actions"), (.object "com/example/dropwire/dropwire/dnd/Actions"), (.object "com/example/dropwire/dropwire/dnd/Actions"), (.object "com/example/dropwire/dropwire/dnd/Actions"), (.object "java/util/List"), (.object "java/util/List"), .int]
  resolved := Array.replicate 160 none
  statics := some 1 }

def pool17 : Array CpInfo := pool [(1, .methodref 2 3), (0, .class_ 4), (0, .nameAndType 5 6), (0, u "java/lang/Object"), (0, u "<init>"), (0, u "()V"), (1, .class_ 10), (1, u "com/example/dropwire/dropwire/dnd/DragSource"), (0, u "DEFAULT"), (0, u "Lcom/example/dropwire/dropwire/dnd/DragSource;"), (0, .class_ 14), (0, u "com/example/dropwire/dropwire/dnd/DragSourceContext"), (0, .methodref 16 17), (0, .class_ 18), (0, .nameAndType 19 20), (0, u "com/example/dropwire/dropwire/dnd/DragGesture"), (0, u "userAction"), (0, u "()Lcom/example/dropwire/dropwire/dnd/Actions;"), (0, .methodref 13 22), (0, .nameAndType 5 23), (0, u "(Lcom/example/dropwire/dropwire/dnd/DragSource;Lcom/example/dropwire/dropwire/transfer/Transferable;Lcom/example/dropwire/dropwire/dnd/Actions;Lcom/example/dropwire/dropwire/dnd/Actions;Lcom/example/dropwire/dropwire/dnd/DragSourceListener;)V"), (0, .fieldref 8 25), (0, .nameAndType 26 27), (0, u "current"), (0, u "Lcom/example/dropwire/dropwire/dnd/DragSourceContext;"), (7, .methodref 16 36), (0, .nameAndType 37 38), (0, u "peer"), (0, u "()Lcom/example/dropwire/dropwire/dnd/DragSourcePeer;"), (0, .methodref 16 40), (0, .nameAndType 41 42), (0, u "origin"), (0, u "()Lcom/example/dropwire/dropwire/dnd/Point;"), (0, .interfaceMethodref 44 45), (0, .class_ 46), (0, .nameAndType 47 48), (0, u "com/example/dropwire/dropwire/dnd/DragSourcePeer"), (0, u "startDrag"), (0, u "(Lcom/example/dropwire/dropwire/dnd/DragSourceContext;Lcom/example/dropwire/dropwire/dnd/Point;)V"), (10, u "(Lcom/example/dropwire/dropwire/dnd/DragGesture;Lcom/example/dropwire/dropwire/transfer/Transferable;Lcom/example/dropwire/dropwire/dnd/Actions;Lcom/example/dropwire/dropwire/dnd/DragSourceListener;)Lcom/example/dropwire/dropwire/dnd/DragSourceContext;")] 8

def k17c0 : Code := { maxStack := 1, maxLocals := 1, code := prog_16_method_1_code, exceptionTable := #[], attributes := #[] }
def k17m0 : Method := { name := "<init>", desc := "()V", sig := { parameters := [], returnType := none }, accessFlags := 1, code := some k17c0 }
def k17c1 : Code := { maxStack := 7, maxLocals := 8, code := prog_16_method_3_code, exceptionTable := #[{ startPc := 23, endPc := 49, handlerPc := 52, catchType := 0 }, { startPc := 52, endPc := 57, handlerPc := 52, catchType := 0 }, { startPc := 60, endPc := 75, handlerPc := 78, catchType := 49 }], attributes := #[] }
def k17m1 : Method := { name := "startDrag", desc := "(Lcom/example/dropwire/dropwire/dnd/DragGesture;Lcom/example/dropwire/dropwire/transfer/Transferable;Lcom/example/dropwire/dropwire/dnd/Actions;Lcom/example/dropwire/dropwire/dnd/DragSourceListener;)Lcom/example/dropwire/dropwire/dnd/DragSourceContext;", sig := { parameters := [(.object "com/example/dropwire/dropwire/dnd/DragGesture"), (.object "com/example/dropwire/dropwire/transfer/Transferable"), (.object "com/example/dropwire/dropwire/dnd/Actions"), (.object "com/example/dropwire/dropwire/dnd/DragSourceListener")], returnType := some (.object "com/example/dropwire/dropwire/dnd/DragSourceContext") }, accessFlags := 1, code := some k17c1 }
/-- com/example/dropwire/dropwire/dnd/DragSource -/
def k17 : Class := { plain "com/example/dropwire/dropwire/dnd/DragSource" (some 0) with
  accessFlags := 49
  interfaces := #[]
  cf := some (fileOf pool17 8 #[] #[{ accessFlags := 1, nameIndex := 5, descriptorIndex := 6, attributes := #[] }, { accessFlags := 1, nameIndex := 47, descriptorIndex := 59, attributes := #[] }] 49 2 #[] #[{ accessFlags := 26, nameIndex := 11, descriptorIndex := 12, attributes := #[] }, { accessFlags := 2, nameIndex := 26, descriptorIndex := 27, attributes := #[] }])
  fields := #[{ name := "DEFAULT", type := (.object "com/example/dropwire/dropwire/dnd/DragSource"), accessFlags := 26, slot := 0, constantValue := 0 }, { name := "current", type := (.object "com/example/dropwire/dropwire/dnd/DragSourceContext"), accessFlags := 2, slot := 0, constantValue := 0 }]
  methods := #[k17m0, k17m1]
  instanceTypes := #[(.object "com/example/dropwire/dropwire/dnd/DragSourceContext")]
  staticTypes := #[(.object "com/example/dropwire/dropwire/dnd/DragSource")]
  resolved := Array.replicate 68 none
  statics := none }

def pool18 : Array CpInfo := pool [(1, .methodref 2 3), (0, .class_ 4), (0, .nameAndType 5 6), (0, u "java/lang/Record"), (0, u "<init>"), (0, u "()V"), (0, .methodref 8 9), (0, .class_ 10), (0, .nameAndType 11 12), (0, u "com/example/dropwire/dropwire/dnd/Actions"), (0, u "requireSingle"), (0, u "()Lcom/example/dropwire/dropwire/dnd/Actions;"), (0, .fieldref 14 15), (0, .class_ 16), (0, .nameAndType 17 18), (0, u "com/example/dropwire/dropwire/dnd/DragGesture"), (0, u "peer"), (0, u "Lcom/example/dropwire/dropwire/dnd/DragSourcePeer;"), (0, .fieldref 14 20), (0, .nameAndType 21 22), (0, u "origin"), (0, u "Lcom/example/dropwire/dropwire/dnd/Point;"), (0, .fieldref 14 24), (0, .nameAndType 25 26), (0, u "userAction"), (0, u "Lcom/example/dropwire/dropwire/dnd/Actions;"), (12, u "(Lcom/example/dropwire/dropwire/dnd/DragSourcePeer;Lcom/example/dropwire/dropwire/dnd/Point;Lcom/example/dropwire/dropwire/dnd/Actions;)V"), (6, u "()Lcom/example/dropwire/dropwire/dnd/DragSourcePeer;"), (0, u "()Lcom/example/dropwire/dropwire/dnd/Point;")] 22

def k18c0 : Code := { maxStack := 2, maxLocals := 4, code := prog_12_method_1_code, exceptionTable := #[], attributes := #[] }
def k18m0 : Method := { name := "<init>", desc := "(Lcom/example/dropwire/dropwire/dnd/DragSourcePeer;Lcom/example/dropwire/dropwire/dnd/Point;Lcom/example/dropwire/dropwire/dnd/Actions;)V", sig := { parameters := [(.object "com/example/dropwire/dropwire/dnd/DragSourcePeer"), (.object "com/example/dropwire/dropwire/dnd/Point"), (.object "com/example/dropwire/dropwire/dnd/Actions")], returnType := none }, accessFlags := 1, code := some k18c0 }
def k18c1 : Code := { maxStack := 1, maxLocals := 1, code := prog_12_method_5_code, exceptionTable := #[], attributes := #[] }
def k18m1 : Method := { name := "peer", desc := "()Lcom/example/dropwire/dropwire/dnd/DragSourcePeer;", sig := { parameters := [], returnType := some (.object "com/example/dropwire/dropwire/dnd/DragSourcePeer") }, accessFlags := 1, code := some k18c1 }
def k18c2 : Code := { maxStack := 1, maxLocals := 1, code := prog_12_method_6_code, exceptionTable := #[], attributes := #[] }
def k18m2 : Method := { name := "origin", desc := "()Lcom/example/dropwire/dropwire/dnd/Point;", sig := { parameters := [], returnType := some (.object "com/example/dropwire/dropwire/dnd/Point") }, accessFlags := 1, code := some k18c2 }
def k18c3 : Code := { maxStack := 1, maxLocals := 1, code := prog_12_method_7_code, exceptionTable := #[], attributes := #[] }
def k18m3 : Method := { name := "userAction", desc := "()Lcom/example/dropwire/dropwire/dnd/Actions;", sig := { parameters := [], returnType := some (.object "com/example/dropwire/dropwire/dnd/Actions") }, accessFlags := 1, code := some k18c3 }
/-- com/example/dropwire/dropwire/dnd/DragGesture -/
def k18 : Class := { plain "com/example/dropwire/dropwire/dnd/DragGesture" (some 14) with
  accessFlags := 49
  interfaces := #[]
  cf := some (fileOf pool18 14 #[] #[{ accessFlags := 1, nameIndex := 5, descriptorIndex := 39, attributes := #[] }, { accessFlags := 1, nameIndex := 17, descriptorIndex := 46, attributes := #[] }, { accessFlags := 1, nameIndex := 21, descriptorIndex := 47, attributes := #[] }, { accessFlags := 1, nameIndex := 25, descriptorIndex := 12, attributes := #[] }] 49 2 #[] #[{ accessFlags := 18, nameIndex := 17, descriptorIndex := 18, attributes := #[] }, { accessFlags := 18, nameIndex := 21, descriptorIndex := 22, attributes := #[] }, { accessFlags := 18, nameIndex := 25, descriptorIndex := 26, attributes := #[] }])
  fields := #[{ name := "peer", type := (.object "com/example/dropwire/dropwire/dnd/DragSourcePeer"), accessFlags := 18, slot := 0, constantValue := 0 }, { name := "origin", type := (.object "com/example/dropwire/dropwire/dnd/Point"), accessFlags := 18, slot := 1, constantValue := 0 }, { name := "userAction", type := (.object "com/example/dropwire/dropwire/dnd/Actions"), accessFlags := 18, slot := 2, constantValue := 0 }]
  methods := #[k18m0, k18m1, k18m2, k18m3]
  instanceTypes := #[(.object "com/example/dropwire/dropwire/dnd/DragSourcePeer"), (.object "com/example/dropwire/dropwire/dnd/Point"), (.object "com/example/dropwire/dropwire/dnd/Actions")]
  staticTypes := #[]
  resolved := Array.replicate 70 none
  statics := none }

def pool19 : Array CpInfo := pool [(2, .class_ 4), (1, u "java/lang/Object"), (0, u "<init>"), (0, u "()V"), (1, .class_ 10), (1, u "java/lang/Number"), (2, .class_ 14), (0, u "java/io/Serializable"), (0, u "serialVersionUID"), (0, u "J")] 20

def k19m0 : Method := { name := "<init>", desc := "()V", sig := { parameters := [], returnType := none }, accessFlags := 1, code := none }
/-- java/lang/Number -/
def k19 : Class := { plain "java/lang/Number" (some 0) with
  accessFlags := 1057
  interfaces := #[12]
  cf := some (fileOf pool19 8 #[] #[{ accessFlags := 1, nameIndex := 5, descriptorIndex := 6, attributes := #[] }] 1057 2 #[13] #[{ accessFlags := 26, nameIndex := 15, descriptorIndex := 16, attributes := #[] }])
  fields := #[{ name := "serialVersionUID", type := .long, accessFlags := 26, slot := 0, constantValue := 0 }]
  methods := #[k19m0]
  instanceTypes := #[]
  staticTypes := #[.long]
  resolved := Array.replicate 37 none
  statics := none }

def pool20 : Array CpInfo := pool [(1, .class_ 2), (0, u "java/lang/Comparable"), (0, .class_ 4), (0, u "java/lang/Object")] 7

/-- java/lang/Comparable -/
def k20 : Class := { plain "java/lang/Comparable" (some 0) with
  accessFlags := 1537
  interfaces := #[]
  cf := some (fileOf pool20 1 #[] #[] 1537 3 #[] #[])
  fields := #[]
  methods := #[]
  instanceTypes := #[]
  staticTypes := #[]
  resolved := Array.replicate 12 none
  statics := none }

def pool21 : Array CpInfo := pool [(1, .class_ 2), (0, u "java/lang/constant/Constable"), (0, .class_ 4), (0, u "java/lang/Object")] 6

/-- java/lang/constant/Constable -/
def k21 : Class := { plain "java/lang/constant/Constable" (some 0) with
  accessFlags := 1537
  interfaces := #[]
  cf := some (fileOf pool21 1 #[] #[] 1537 3 #[] #[])
  fields := #[]
  methods := #[]
  instanceTypes := #[]
  staticTypes := #[]
  resolved := Array.replicate 11 none
  statics := none }

def pool22 : Array CpInfo := pool [(1, .class_ 2), (0, u "java/lang/constant/ConstantDesc"), (0, .class_ 4), (0, u "java/lang/Object")] 32

/-- java/lang/constant/ConstantDesc -/
def k22 : Class := { plain "java/lang/constant/ConstantDesc" (some 0) with
  accessFlags := 1537
  interfaces := #[]
  cf := some (fileOf pool22 1 #[] #[] 1537 3 #[] #[])
  fields := #[]
  methods := #[]
  instanceTypes := #[]
  staticTypes := #[]
  resolved := Array.replicate 37 none
  statics := none }

def pool23 : Array CpInfo := pool [(1, .class_ 2), (0, u "java/lang/Integer"), (16, u "digits"), (0, u "[C"), (33, u "(I)I"), (30, u "DigitOnes"), (0, u "[B"), (2, u "DigitTens"), (99, .class_ 190), (0, u "java/lang/Integer$IntegerCache"), (3, u "I"), (8, .class_ 204), (0, u "java/lang/Number"), (2, u "value"), (57, .integer 1431655765), (0, .integer 858993459), (0, .integer 252645135), (34, u "TYPE"), (0, u "Ljava/lang/Class;"), (0, .class_ 305), (0, u "java/lang/Comparable"), (0, .class_ 307), (0, u "java/lang/constant/Constable"), (0, .class_ 309), (0, u "java/lang/constant/ConstantDesc"), (0, u "MIN_VALUE"), (1, u "MAX_VALUE"), (3, u "SIZE"), (1, u "BYTES"), (1, u "serialVersionUID"), (0, u "J"), (85, u "bitCount")] 45

def k23c0 : Code := { maxStack := 3, maxLocals := 1, code := jdk_33_method_49_code, exceptionTable := #[], attributes := #[] }
def k23m0 : Method := { name := "bitCount", desc := "(I)I", sig := { parameters := [.int], returnType := some .int }, accessFlags := 9, code := some k23c0 }
/-- java/lang/Integer -/
def k23 : Class := { plain "java/lang/Integer" (some 19) with
  accessFlags := 49
  interfaces := #[20, 21, 22]
  cf := some (fileOf pool23 1 #[.nestMembers #[189]] #[{ accessFlags := 9, nameIndex := 407, descriptorIndex := 54, attributes := #[] }] 49 203 #[304, 306, 308] #[{ accessFlags := 25, nameIndex := 310, descriptorIndex := 194, attributes := #[] }, { accessFlags := 25, nameIndex := 312, descriptorIndex := 194, attributes := #[] }, { accessFlags := 25, nameIndex := 302, descriptorIndex := 303, attributes := #[] }, { accessFlags := 24, nameIndex := 19, descriptorIndex := 20, attributes := #[] }, { accessFlags := 24, nameIndex := 89, descriptorIndex := 86, attributes := #[] }, { accessFlags := 24, nameIndex := 85, descriptorIndex := 86, attributes := #[] }, { accessFlags := 18, nameIndex := 207, descriptorIndex := 194, attributes := #[] }, { accessFlags := 25, nameIndex := 316, descriptorIndex := 194, attributes := #[] }, { accessFlags := 25, nameIndex := 318, descriptorIndex := 194, attributes := #[] }, { accessFlags := 26, nameIndex := 320, descriptorIndex := 321, attributes := #[] }])
  fields := #[{ name := "MIN_VALUE", type := .int, accessFlags := 25, slot := 0, constantValue := 0 }, { name := "MAX_VALUE", type := .int, accessFlags := 25, slot := 1, constantValue := 0 }, { name := "TYPE", type := (.object "java/lang/Class"), accessFlags := 25, slot := 2, constantValue := 0 }, { name := "digits", type := (.array .char), accessFlags := 24, slot := 3, constantValue := 0 }, { name := "DigitTens", type := (.array .byte), accessFlags := 24, slot := 4, constantValue := 0 }, { name := "DigitOnes", type := (.array .byte), accessFlags := 24, slot := 5, constantValue := 0 }, { name := "value", type := .int, accessFlags := 18, slot := 0, constantValue := 0 }, { name := "SIZE", type := .int, accessFlags := 25, slot := 6, constantValue := 0 }, { name := "BYTES", type := .int, accessFlags := 25, slot := 7, constantValue := 0 }, { name := "serialVersionUID", type := .long, accessFlags := 26, slot := 8, constantValue := 0 }]
  methods := #[k23m0]
  instanceTypes := #[.int]
  staticTypes := #[.int, .int, (.object "java/lang/Class"), (.array .char), (.array .byte), (.array .byte), .int, .int, .long]
  resolved := Array.replicate 453 none
  statics := none }

def pool24 : Array CpInfo := pool [(1, .methodref 2 3), (0, .class_ 4), (0, .nameAndType 5 6), (0, u "java/lang/Object"), (0, u "<init>"), (0, u "()V"), (0, .fieldref 8 9), (0, .class_ 10), (0, .nameAndType 11 12), (0, u "com/example/dropwire/dropwire/dnd/Actions"), (0, u "NONE"), (0, u "Lcom/example/dropwire/dropwire/dnd/Actions;"), (0, .fieldref 14 15), (0, .class_ 16), (0, .nameAndType 17 12), (0, u "com/example/dropwire/dropwire/dnd/DragSourceContext"), (0, u "acceptedAction"), (0, .fieldref 14 19), (0, .nameAndType 20 21), (0, u "dragSource"), (0, u "Lcom/example/dropwire/dropwire/dnd/DragSource;"), (0, .fieldref 14 23), (0, .nameAndType 24 25), (0, u "transferable"), (0, u "Lcom/example/dropwire/dropwire/transfer/Transferable;"), (0, .fieldref 14 27), (0, .nameAndType 28 12), (0, u "sourceActions"), (0, .fieldref 14 30), (0, .nameAndType 31 12), (0, u "userAction"), (0, .fieldref 14 33), (0, .nameAndType 34 35), (0, u "listener"), (0, u "Lcom/example/dropwire/dropwire/dnd/DragSourceListener;"), (9, u "cursor"), (0, u "Lcom/example/dropwire/dropwire/dnd/DragCursor;"), (13, u "()Lcom/example/dropwire/dropwire/dnd/Actions;"), (48, u "refused"), (0, u "Z"), (22, u "ended"), (11, u "(Lcom/example/dropwire/dropwire/dnd/DragSource;Lcom/example/dropwire/dropwire/transfer/Transferable;Lcom/example/dropwire/dropwire/dnd/Actions;Lcom/example/dropwire/dropwire/dnd/Actions;Lcom/example/dropwire/dropwire/dnd/DragSourceListener;)V"), (5, u "getUserAction")] 15

def k24c0 : Code := { maxStack := 2, maxLocals := 6, code := prog_17_method_1_code, exceptionTable := #[], attributes := #[] }
def k24m0 : Method := { name := "<init>", desc := "(Lcom/example/dropwire/dropwire/dnd/DragSource;Lcom/example/dropwire/dropwire/transfer/Transferable;Lcom/example/dropwire/dropwire/dnd/Actions;Lcom/example/dropwire/dropwire/dnd/Actions;Lcom/example/dropwire/dropwire/dnd/DragSourceListener;)V", sig := { parameters := [(.object "com/example/dropwire/dropwire/dnd/DragSource"), (.object "com/example/dropwire/dropwire/transfer/Transferable"), (.object "com/example/dropwire/dropwire/dnd/Actions"), (.object "com/example/dropwire/dropwire/dnd/Actions"), (.object "com/example/dropwire/dropwire/dnd/DragSourceListener")], returnType := none }, accessFlags := 0, code := some k24c0 }
def k24c1 : Code := { maxStack := 1, maxLocals := 1, code := prog_17_method_4_code, exceptionTable := #[], attributes := #[] }
def k24m1 : Method := { name := "getUserAction", desc := "()Lcom/example/dropwire/dropwire/dnd/Actions;", sig := { parameters := [], returnType := some (.object "com/example/dropwire/dropwire/dnd/Actions") }, accessFlags := 1, code := some k24c1 }
/-- com/example/dropwire/dropwire/dnd/DragSourceContext -/
def k24 : Class := { plain "com/example/dropwire/dropwire/dnd/DragSourceContext" (some 0) with
  accessFlags := 49
  interfaces := #[]
  cf := some (fileOf pool24 14 #[] #[{ accessFlags := 0, nameIndex := 5, descriptorIndex := 145, attributes := #[] }, { accessFlags := 1, nameIndex := 151, descriptorIndex := 60, attributes := #[] }] 49 2 #[] #[{ accessFlags := 18, nameIndex := 20, descriptorIndex := 21, attributes := #[] }, { accessFlags := 18, nameIndex := 24, descriptorIndex := 25, attributes := #[] }, { accessFlags := 18, nameIndex := 28, descriptorIndex := 12, attributes := #[] }, { accessFlags := 18, nameIndex := 34, descriptorIndex := 35, attributes := #[] }, { accessFlags := 2, nameIndex := 31, descriptorIndex := 12, attributes := #[] }, { accessFlags := 2, nameIndex := 17, descriptorIndex := 12, attributes := #[] }, { accessFlags := 2, nameIndex := 45, descriptorIndex := 46, attributes := #[] }, { accessFlags := 2, nameIndex := 133, descriptorIndex := 110, attributes := #[] }, { accessFlags := 2, nameIndex := 109, descriptorIndex := 110, attributes := #[] }])
  fields := #[{ name := "dragSource", type := (.object "com/example/dropwire/dropwire/dnd/DragSource"), accessFlags := 18, slot := 0, constantValue := 0 }, { name := "transferable", type := (.object "com/example/dropwire/dropwire/transfer/Transferable"), accessFlags := 18, slot := 1, constantValue := 0 }, { name := "sourceActions", type := (.object "com/example/dropwire/dropwire/dnd/Actions"), accessFlags := 18, slot := 2, constantValue := 0 }, { name := "listener", type := (.object "com/example/dropwire/dropwire/dnd/DragSourceListener"), accessFlags := 18, slot := 3, constantValue := 0 }, { name := "userAction", type := (.object "com/example/dropwire/dropwire/dnd/Actions"), accessFlags := 2, slot := 4, constantValue := 0 }, { name := "acceptedAction", type := (.object "com/example/dropwire/dropwire/dnd/Actions"), accessFlags := 2, slot := 5, constantValue := 0 }, { name := "cursor", type := (.object "com/example/dropwire/dropwire/dnd/DragCursor"), accessFlags := 2, slot := 6, constantValue := 0 }, { name := "ended", type := .boolean, accessFlags := 2, slot := 7, constantValue := 0 }, { name := "refused", type := .boolean, accessFlags := 2, slot := 8, constantValue := 0 }]
  methods := #[k24m0, k24m1]
  instanceTypes := #[(.object "com/example/dropwire/dropwire/dnd/DragSource"), (.object "com/example/dropwire/dropwire/transfer/Transferable"), (.object "com/example/dropwire/dropwire/dnd/Actions"), (.object "com/example/dropwire/dropwire/dnd/DragSourceListener"), (.object "com/example/dropwire/dropwire/dnd/Actions"), (.object "com/example/dropwire/dropwire/dnd/Actions"), (.object "com/example/dropwire/dropwire/dnd/DragCursor"), .boolean, .boolean]
  staticTypes := #[]
  resolved := Array.replicate 167 none
  statics := none }

def pool25 : Array CpInfo := pool [(16, .class_ 18), (1, u "java/util/Iterator"), (0, u "hasNext"), (0, u "()Z"), (10, .class_ 32), (0, u "java/lang/Object")] 20

def k25m0 : Method := { name := "hasNext", desc := "()Z", sig := { parameters := [], returnType := some .boolean }, accessFlags := 1025, code := none }
/-- java/util/Iterator -/
def k25 : Class := { plain "java/util/Iterator" (some 0) with
  accessFlags := 1537
  interfaces := #[]
  cf := some (fileOf pool25 16 #[] #[{ accessFlags := 1025, nameIndex := 19, descriptorIndex := 20, attributes := #[] }] 1537 31 #[] #[])
  fields := #[]
  methods := #[k25m0]
  instanceTypes := #[]
  staticTypes := #[]
  resolved := Array.replicate 53 none
  statics := none }

def pool26 : Array CpInfo := pool [(1, .fieldref 2 3), (0, .class_ 4), (0, .nameAndType 5 6), (0, u "java/util/ArrayList$Itr"), (0, u "this$0"), (0, u "Ljava/util/ArrayList;"), (0, .methodref 8 9), (0, .class_ 10), (0, .nameAndType 11 12), (0, u "java/lang/Object"), (0, u "<init>"), (0, u "()V"), (0, .fieldref 2 14), (0, .nameAndType 15 16), (0, u "lastRet"), (0, u "I"), (0, .fieldref 18 19), (0, .class_ 20), (0, .nameAndType 21 16), (0, u "java/util/ArrayList"), (0, u "modCount"), (0, .fieldref 2 23), (0, .nameAndType 24 16), (0, u "expectedModCount"), (0, .fieldref 2 26), (0, .nameAndType 27 16), (0, u "cursor"), (0, .fieldref 18 29), (0, .nameAndType 30 16), (0, u "size"), (38, .class_ 70), (0, u "java/util/Iterator"), (0, u "(Ljava/util/ArrayList;)V"), (8, u "hasNext"), (0, u "()Z")] 22

def k26c0 : Code := { maxStack := 2, maxLocals := 2, code := jdk_49_method_1_code, exceptionTable := #[], attributes := #[] }
def k26m0 : Method := { name := "<init>", desc := "(Ljava/util/ArrayList;)V", sig := { parameters := [(.object "java/util/ArrayList")], returnType := none }, accessFlags := 0, code := some k26c0 }
def k26c1 : Code := { maxStack := 2, maxLocals := 1, code := jdk_49_method_2_code, exceptionTable := #[], attributes := #[] }
def k26m1 : Method := { name := "hasNext", desc := "()Z", sig := { parameters := [], returnType := some .boolean }, accessFlags := 1, code := some k26c1 }
/-- java/util/ArrayList$Itr -/
def k26 : Class := { plain "java/util/ArrayList$Itr" (some 0) with
  accessFlags := 32
  interfaces := #[25]
  cf := some (fileOf pool26 2 #[.nestHost 18] #[{ accessFlags := 0, nameIndex := 11, descriptorIndex := 71, attributes := #[] }, { accessFlags := 1, nameIndex := 80, descriptorIndex := 81, attributes := #[] }] 32 8 #[69] #[{ accessFlags := 0, nameIndex := 27, descriptorIndex := 16, attributes := #[] }, { accessFlags := 0, nameIndex := 15, descriptorIndex := 16, attributes := #[] }, { accessFlags := 0, nameIndex := 24, descriptorIndex := 16, attributes := #[] }, { accessFlags := 4112, nameIndex := 5, descriptorIndex := 6, attributes := #[] }])
  fields := #[{ name := "cursor", type := .int, accessFlags := 0, slot := 0, constantValue := 0 }, { name := "lastRet", type := .int, accessFlags := 0, slot := 1, constantValue := 0 }, { name := "expectedModCount", type := .int, accessFlags := 0, slot := 2, constantValue := 0 }, { name := "this$0", type := (.object "java/util/ArrayList"), accessFlags := 4112, slot := 3, constantValue := 0 }]
  methods := #[k26m0, k26m1]
  instanceTypes := #[.int, .int, .int, (.object "java/util/ArrayList")]
  staticTypes := #[]
  resolved := Array.replicate 104 none
  statics := none }

/-- the primitive byte -/
def k27 : Class := { plain "byte" none with kind := .primitive 'B', accessFlags := 0x411 }
/-- [B -/
def k28 : Class := { plain "[B" (some 0) with kind := .array 27 .byte, interfaces := #[11, 12], accessFlags := 1041 }

/-- the primitive int -/
def k29 : Class := { plain "int" none with kind := .primitive 'I', accessFlags := 0x411 }
/-- [I -/
def k30 : Class := { plain "[I" (some 0) with kind := .array 29 .int, interfaces := #[11, 12], accessFlags := 1041 }

/-- [Ljava/lang/Object; -/
def k31 : Class := { plain "[Ljava/lang/Object;" (some 0) with kind := .array 0 (.object "java/lang/Object"), interfaces := #[11, 12], accessFlags := 1041 }

def heap : Heap := #[{ cls := 13, slots := #[.long 0, .int 0, .ref 3, .ref 4], vm := .statics 13 },
  { cls := 16, slots := #[.ref 2, .null, .null, .null, .null, .null, .int 0], vm := .statics 16 },
  { cls := 16, slots := #[.int 0], vm := .none },
  { cls := 31, slots := #[], vm := .none },
  { cls := 31, slots := #[], vm := .none }]
def classes : Array Class := #[k0, k1, k2, k3, k4, k5, k6, k7, k8, k9, k10, k11, k12, k13, k14, k15, k16, k17, k18, k19, k20, k21, k22, k23, k24, k25, k26, k27, k28, k29, k30, k31]
def interned : List (Array UInt16 × Addr) := []
def slotsUsed : Nat := 12
def theMethod : MethodId := ⟨1, 1⟩
def args0 : Array Value := #[.int 5, .int 6, .int 7, .int 8, .int 9, .int 10]
def aboutOver (below : List Frame) : State where
  vm := { classes := classes, interned := interned.toArray }
  heap := heap
  slotsUsed := slotsUsed
  threads := #[{ frames := .invoking theMethod args0 :: below }]
def below0 : List Frame := [.native { method := ⟨0, 0⟩, args := #[] }]
def about1 : State := aboutOver below0
def p0 : Program := .bare "" "" ""
def e0 : Env := launch0.env 0 0 0
theorem w_frames : about1.frames = Frame.invoking theMethod args0 :: below0 := rfl
set_option maxRecDepth 65536 in
theorem w_args : argsFit about1.vm theMethod args0 = true := by decide +kernel
set_option maxRecDepth 65536 in
theorem w_heap : heapFits about1 = true := by decide +kernel
set_option maxRecDepth 65536 in
theorem w_runnable : about1.curStatus? = some .runnable := by decide +kernel
set_option maxRecDepth 65536 in
theorem w_alone : about1.alone = true := by decide +kernel
set_option maxRecDepth 65536 in
theorem w_named : about1.methodNamed? x = some theMethod := by decide +kernel
set_option maxRecDepth 65536 in
theorem w_hears : about1.hears theMethod below0 = true := by decide +kernel
set_option maxRecDepth 65536 in
theorem w_ripe : about1.ripe theMethod args0 below0 = true := by decide +kernel
theorem w_running : about1.status = .running := rfl
set_option maxRecDepth 65536 in
theorem w_room : about1.hasRoom e0.platform room_1 = true :=
  launch0.hasRoom_least _ room_1 (by decide +kernel) (by decide +kernel) (by decide +kernel) (by decide +kernel) (by decide +kernel) (by decide +kernel)
theorem allAtoms_all (ts : List Jvm.Cond) (a : Array Jvm.Value) (st : Jvm.State) : (allAtoms ts).before a st = ts.all (fun c => c.before a st) := by
  induction ts with
  | nil => rfl
  | cons c t ih =>
    show (Jvm.Cond.and c (allAtoms t)).before a st = _
    rw [Jvm.Cond.before_and, ih, List.all_cons]
def words1 : List Jvm.Cond := Jvm.Cond.code x code maxLocals ret :: tables_1
/-- a 'code' word, met by the world's own term for the bytes: nothing is compared byte by byte -/
theorem code_word {y : MethodName} {bytes : ByteArray} {mx : Nat} {rt : Option FieldType} {a : Array Value} {s : State} {m : MethodId} {meth : Method} {c : Code} (h1 : s.methodNamed? y = some m) (h2 : s.vm.method? m = some meth) (h3 : meth.code = some c) (h4 : c.code = bytes)
    (h5 : (c.maxLocals == mx && c.exceptionTable.isEmpty && decide (c.maxStack ≤ mostOperands) && decide (meth.sig.returnType = rt) && !meth.locks && decide (parseMethodDescriptor y.desc = some meth.sig)) = true) : (Jvm.Cond.code y bytes mx rt).before a s = true := by
  simp only [Bool.and_eq_true, beq_iff_eq, Bool.not_eq_true', decide_eq_true_eq] at h5
  obtain ⟨⟨⟨⟨⟨g1, g2⟩, g3⟩, g4⟩, g5⟩, g6⟩ := h5
  simp [Cond.before, Cond.holds, Cond.value, h1, h2, h3, h4, g1, g2, g3, g4, g5, g6]
def isCode : Jvm.Cond → Bool
  | .code _ _ _ _ => true
  | _ => false
theorem all_split {L : List Jvm.Cond} {P : Jvm.Cond → Bool} (h1 : L.all (fun c => isCode c || P c) = true) (h2 : ∀ c ∈ L.filter isCode, P c = true) : L.all P = true := by
  refine List.all_eq_true.mpr fun c hc => ?_
  have h := List.all_eq_true.mp h1 c hc
  rcases Bool.eq_false_or_eq_true (isCode c) with hi | hi
  · exact h2 c (List.mem_filter.mpr ⟨hc, hi⟩)
  · simpa [hi] using h
set_option maxRecDepth 65536 in
theorem w_c0 : (Jvm.Cond.code x code maxLocals ret).before args0 about1 = true := code_word (m := ⟨1, 1⟩) (meth := k1m1) (c := k1c1) (by decide +kernel) rfl rfl rfl (by decide +kernel)
set_option maxRecDepth 65536 in
theorem w_c1 : (Jvm.Cond.code ({ cls := "com/example/dropwire/dropwire/inprocess/InProcessPeer", name := "<init>", desc := "()V" } : Jvm.MethodName) prog_44_method_1_code (1 : Nat) (Option.none : Option Jvm.ClassFile.FieldType)).before args0 about1 = true := code_word (m := ⟨3, 0⟩) (meth := k3m0) (c := k3c0) (by decide +kernel) rfl rfl rfl (by decide +kernel)
set_option maxRecDepth 65536 in
theorem w_c2 : (Jvm.Cond.code ({ cls := "java/lang/Object", name := "<init>", desc := "()V" } : Jvm.MethodName) object_method_1_code (1 : Nat) (Option.none : Option Jvm.ClassFile.FieldType)).before args0 about1 = true := code_word (m := ⟨0, 0⟩) (meth := k0m0) (c := k0c0) (by decide +kernel) rfl rfl rfl (by decide +kernel)
set_option maxRecDepth 65536 in
theorem w_c3 : (Jvm.Cond.code ({ cls := "java/util/ArrayList", name := "<init>", desc := "()V" } : Jvm.MethodName) jdk_38_method_2_code (1 : Nat) (Option.none : Option Jvm.ClassFile.FieldType)).before args0 about1 = true := code_word (m := ⟨13, 0⟩) (meth := k13m0) (c := k13c0) (by decide +kernel) rfl rfl rfl (by decide +kernel)
set_option maxRecDepth 65536 in
theorem w_c4 : (Jvm.Cond.code ({ cls := "java/util/AbstractList", name := "<init>", desc := "()V" } : Jvm.MethodName) jdk_39_method_1_code (1 : Nat) (Option.none : Option Jvm.ClassFile.FieldType)).before args0 about1 = true := code_word (m := ⟨9, 0⟩) (meth := k9m0) (c := k9c0) (by decide +kernel) rfl rfl rfl (by decide +kernel)
set_option maxRecDepth 65536 in
theorem w_c5 : (Jvm.Cond.code ({ cls := "java/util/AbstractCollection", name := "<init>", desc := "()V" } : Jvm.MethodName) jdk_22_method_1_code (1 : Nat) (Option.none : Option Jvm.ClassFile.FieldType)).before args0 about1 = true := code_word (m := ⟨6, 0⟩) (meth := k6m0) (c := k6c0) (by decide +kernel) rfl rfl rfl (by decide +kernel)
set_option maxRecDepth 65536 in
theorem w_c6 : (Jvm.Cond.code ({ cls := "com/example/dropwire/dropwire/dnd/Point", name := "<init>", desc := "(II)V" } : Jvm.MethodName) prog_36_method_1_code (3 : Nat) (Option.none : Option Jvm.ClassFile.FieldType)).before args0 about1 = true := code_word (m := ⟨15, 0⟩) (meth := k15m0) (c := k15c0) (by decide +kernel) rfl rfl rfl (by decide +kernel)
set_option maxRecDepth 65536 in
theorem w_c7 : (Jvm.Cond.code ({ cls := "java/lang/Record", name := "<init>", desc := "()V" } : Jvm.MethodName) jdk_30_method_1_code (1 : Nat) (Option.none : Option Jvm.ClassFile.FieldType)).before args0 about1 = true := code_word (m := ⟨14, 0⟩) (meth := k14m0) (c := k14c0) (by decide +kernel) rfl rfl rfl (by decide +kernel)
set_option maxRecDepth 65536 in
theorem w_c8 : (Jvm.Cond.code ({ cls := "com/example/dropwire/dropwire/inprocess/InProcessPeer", name := "isDragging", desc := "()Z" } : Jvm.MethodName) prog_44_method_7_code (1 : Nat) (Option.some Jvm.ClassFile.FieldType.boolean)).before args0 about1 = true := code_word (m := ⟨3, 3⟩) (meth := k3m3) (c := k3c3) (by decide +kernel) rfl rfl rfl (by decide +kernel)
set_option maxRecDepth 65536 in
theorem w_c9 : (Jvm.Cond.code ({ cls := "com/example/dropwire/dropwire/inprocess/InProcessPeer", name := "moveTo", desc := "(Lcom/example/dropwire/dropwire/dnd/Point;)V" } : Jvm.MethodName) prog_44_method_8_code (3 : Nat) (Option.none : Option Jvm.ClassFile.FieldType)).before args0 about1 = true := code_word (m := ⟨3, 4⟩) (meth := k3m4) (c := k3c4) (by decide +kernel) rfl rfl rfl (by decide +kernel)
set_option maxRecDepth 65536 in
theorem w_c10 : (Jvm.Cond.code ({ cls := "com/example/dropwire/dropwire/dnd/Actions", name := "fromBits", desc := "(I)Lcom/example/dropwire/dropwire/dnd/Actions;" } : Jvm.MethodName) prog_10_method_3_code (1 : Nat) (Option.some (Jvm.ClassFile.FieldType.object "com/example/dropwire/dropwire/dnd/Actions"))).before args0 about1 = true := code_word (m := ⟨16, 1⟩) (meth := k16m1) (c := k16c1) (by decide +kernel) rfl rfl rfl (by decide +kernel)
set_option maxRecDepth 65536 in
theorem w_c11 : (Jvm.Cond.code ({ cls := "com/example/dropwire/dropwire/dnd/Actions", name := "<init>", desc := "(I)V" } : Jvm.MethodName) prog_10_method_1_code (2 : Nat) (Option.none : Option Jvm.ClassFile.FieldType)).before args0 about1 = true := code_word (m := ⟨16, 0⟩) (meth := k16m0) (c := k16c0) (by decide +kernel) rfl rfl rfl (by decide +kernel)
set_option maxRecDepth 65536 in
theorem w_c12 : (Jvm.Cond.code ({ cls := "com/example/dropwire/dropwire/dnd/DragSource", name := "<init>", desc := "()V" } : Jvm.MethodName) prog_16_method_1_code (1 : Nat) (Option.none : Option Jvm.ClassFile.FieldType)).before args0 about1 = true := code_word (m := ⟨17, 0⟩) (meth := k17m0) (c := k17c0) (by decide +kernel) rfl rfl rfl (by decide +kernel)
set_option maxRecDepth 65536 in
theorem w_c13 : (Jvm.Cond.code ({ cls := "com/example/dropwire/dropwire/inprocess/InProcessPeer", name := "gesture", desc := "(Lcom/example/dropwire/dropwire/dnd/Point;Lcom/example/dropwire/dropwire/dnd/Actions;)Lcom/example/dropwire/dropwire/dnd/DragGesture;" } : Jvm.MethodName) prog_44_method_3_code (3 : Nat) (Option.some (Jvm.ClassFile.FieldType.object "com/example/dropwire/dropwire/dnd/DragGesture"))).before args0 about1 = true := code_word (m := ⟨3, 1⟩) (meth := k3m1) (c := k3c1) (by decide +kernel) rfl rfl rfl (by decide +kernel)
set_option maxRecDepth 65536 in
theorem w_c14 : (Jvm.Cond.code ({ cls := "com/example/dropwire/dropwire/dnd/DragGesture", name := "<init>", desc := "(Lcom/example/dropwire/dropwire/dnd/DragSourcePeer;Lcom/example/dropwire/dropwire/dnd/Point;Lcom/example/dropwire/dropwire/dnd/Actions;)V" } : Jvm.MethodName) prog_12_method_1_code (4 : Nat) (Option.none : Option Jvm.ClassFile.FieldType)).before args0 about1 = true := code_word (m := ⟨18, 0⟩) (meth := k18m0) (c := k18c0) (by decide +kernel) rfl rfl rfl (by decide +kernel)
set_option maxRecDepth 65536 in
theorem w_c15 : (Jvm.Cond.code ({ cls := "com/example/dropwire/dropwire/dnd/Actions", name := "requireSingle", desc := "()Lcom/example/dropwire/dropwire/dnd/Actions;" } : Jvm.MethodName) prog_10_method_8_code (1 : Nat) (Option.some (Jvm.ClassFile.FieldType.object "com/example/dropwire/dropwire/dnd/Actions"))).before args0 about1 = true := code_word (m := ⟨16, 2⟩) (meth := k16m2) (c := k16c2) (by decide +kernel) rfl rfl rfl (by decide +kernel)
set_option maxRecDepth 65536 in
theorem w_c16 : (Jvm.Cond.code ({ cls := "java/lang/Integer", name := "bitCount", desc := "(I)I" } : Jvm.MethodName) jdk_33_method_49_code (1 : Nat) (Option.some Jvm.ClassFile.FieldType.int)).before args0 about1 = true := code_word (m := ⟨23, 0⟩) (meth := k23m0) (c := k23c0) (by decide +kernel) rfl rfl rfl (by decide +kernel)
set_option maxRecDepth 65536 in
theorem w_c17 : (Jvm.Cond.code ({ cls := "com/example/dropwire/dropwire/dnd/DragGesture", name := "userAction", desc := "()Lcom/example/dropwire/dropwire/dnd/Actions;" } : Jvm.MethodName) prog_12_method_7_code (1 : Nat) (Option.some (Jvm.ClassFile.FieldType.object "com/example/dropwire/dropwire/dnd/Actions"))).before args0 about1 = true := code_word (m := ⟨18, 3⟩) (meth := k18m3) (c := k18c3) (by decide +kernel) rfl rfl rfl (by decide +kernel)
set_option maxRecDepth 65536 in
theorem w_c18 : (Jvm.Cond.code ({ cls := "com/example/dropwire/dropwire/dnd/DragSourceContext", name := "<init>", desc := "(Lcom/example/dropwire/dropwire/dnd/DragSource;Lcom/example/dropwire/dropwire/transfer/Transferable;Lcom/example/dropwire/dropwire/dnd/Actions;Lcom/example/dropwire/dropwire/dnd/Actions;Lcom/example/dropwire/dropwire/dnd/DragSourceListener;)V" } : Jvm.MethodName) prog_17_method_1_code (6 : Nat) (Option.none : Option Jvm.ClassFile.FieldType)).before args0 about1 = true := code_word (m := ⟨24, 0⟩) (meth := k24m0) (c := k24c0) (by decide +kernel) rfl rfl rfl (by decide +kernel)
set_option maxRecDepth 65536 in
theorem w_c19 : (Jvm.Cond.code ({ cls := "com/example/dropwire/dropwire/dnd/DragGesture", name := "peer", desc := "()Lcom/example/dropwire/dropwire/dnd/DragSourcePeer;" } : Jvm.MethodName) prog_12_method_5_code (1 : Nat) (Option.some (Jvm.ClassFile.FieldType.object "com/example/dropwire/dropwire/dnd/DragSourcePeer"))).before args0 about1 = true := code_word (m := ⟨18, 1⟩) (meth := k18m1) (c := k18c1) (by decide +kernel) rfl rfl rfl (by decide +kernel)
set_option maxRecDepth 65536 in
theorem w_c20 : (Jvm.Cond.code ({ cls := "com/example/dropwire/dropwire/dnd/DragGesture", name := "origin", desc := "()Lcom/example/dropwire/dropwire/dnd/Point;" } : Jvm.MethodName) prog_12_method_6_code (1 : Nat) (Option.some (Jvm.ClassFile.FieldType.object "com/example/dropwire/dropwire/dnd/Point"))).before args0 about1 = true := code_word (m := ⟨18, 2⟩) (meth := k18m2) (c := k18c2) (by decide +kernel) rfl rfl rfl (by decide +kernel)
set_option maxRecDepth 65536 in
theorem w_c21 : (Jvm.Cond.code ({ cls := "com/example/dropwire/dropwire/inprocess/InProcessPeer", name := "startDrag", desc := "(Lcom/example/dropwire/dropwire/dnd/DragSourceContext;Lcom/example/dropwire/dropwire/dnd/Point;)V" } : Jvm.MethodName) prog_44_method_6_code (5 : Nat) (Option.none : Option Jvm.ClassFile.FieldType)).before args0 about1 = true := code_word (m := ⟨3, 2⟩) (meth := k3m2) (c := k3c2) (by decide +kernel) rfl rfl rfl (by decide +kernel)
set_option maxRecDepth 65536 in
theorem w_c22 : (Jvm.Cond.code ({ cls := "com/example/dropwire/dropwire/dnd/DragSourceContext", name := "getUserAction", desc := "()Lcom/example/dropwire/dropwire/dnd/Actions;" } : Jvm.MethodName) prog_17_method_4_code (1 : Nat) (Option.some (Jvm.ClassFile.FieldType.object "com/example/dropwire/dropwire/dnd/Actions"))).before args0 about1 = true := code_word (m := ⟨24, 1⟩) (meth := k24m1) (c := k24c1) (by decide +kernel) rfl rfl rfl (by decide +kernel)
set_option maxRecDepth 65536 in
theorem w_c23 : (Jvm.Cond.code ({ cls := "java/util/ArrayList", name := "iterator", desc := "()Ljava/util/Iterator;" } : Jvm.MethodName) jdk_38_method_55_code (1 : Nat) (Option.some (Jvm.ClassFile.FieldType.object "java/util/Iterator"))).before args0 about1 = true := code_word (m := ⟨13, 2⟩) (meth := k13m2) (c := k13c2) (by decide +kernel) rfl rfl rfl (by decide +kernel)
set_option maxRecDepth 65536 in
theorem w_c24 : (Jvm.Cond.code ({ cls := "java/util/ArrayList$Itr", name := "<init>", desc := "(Ljava/util/ArrayList;)V" } : Jvm.MethodName) jdk_49_method_1_code (2 : Nat) (Option.none : Option Jvm.ClassFile.FieldType)).before args0 about1 = true := code_word (m := ⟨26, 0⟩) (meth := k26m0) (c := k26c0) (by decide +kernel) rfl rfl rfl (by decide +kernel)
set_option maxRecDepth 65536 in
theorem w_c25 : (Jvm.Cond.code ({ cls := "java/util/ArrayList$Itr", name := "hasNext", desc := "()Z" } : Jvm.MethodName) jdk_49_method_2_code (1 : Nat) (Option.some Jvm.ClassFile.FieldType.boolean)).before args0 about1 = true := code_word (m := ⟨26, 1⟩) (meth := k26m1) (c := k26c1) (by decide +kernel) rfl rfl rfl (by decide +kernel)
set_option maxRecDepth 65536 in
theorem w_c26 : (Jvm.Cond.code ({ cls := "com/example/dropwire/dropwire/inprocess/InProcessPeer", name := "activeComponentAt", desc := "(Lcom/example/dropwire/dropwire/dnd/Point;)Lcom/example/dropwire/dropwire/inprocess/InProcessPeer$Component;" } : Jvm.MethodName) prog_44_method_13_code (4 : Nat) (Option.some (Jvm.ClassFile.FieldType.object "com/example/dropwire/dropwire/inprocess/InProcessPeer$Component"))).before args0 about1 = true := code_word (m := ⟨3, 5⟩) (meth := k3m5) (c := k3c5) (by decide +kernel) rfl rfl rfl (by decide +kernel)
set_option maxRecDepth 65536 in
theorem w_c27 : (Jvm.Cond.code ({ cls := "java/util/ArrayList", name := "size", desc := "()I" } : Jvm.MethodName) jdk_38_method_8_code (1 : Nat) (Option.some Jvm.ClassFile.FieldType.int)).before args0 about1 = true := code_word (m := ⟨13, 1⟩) (meth := k13m1) (c := k13c1) (by decide +kernel) rfl rfl rfl (by decide +kernel)
def codes1 : List Jvm.Cond := [Jvm.Cond.code x code maxLocals ret, Jvm.Cond.code ({ cls := "com/example/dropwire/dropwire/inprocess/InProcessPeer", name := "<init>", desc := "()V" } : Jvm.MethodName) prog_44_method_1_code (1 : Nat) (Option.none : Option Jvm.ClassFile.FieldType), Jvm.Cond.code ({ cls := "java/lang/Object", name := "<init>", desc := "()V" } : Jvm.MethodName) object_method_1_code (1 : Nat) (Option.none : Option Jvm.ClassFile.FieldType), Jvm.Cond.code ({ cls := "java/util/ArrayList", name := "<init>", desc := "()V" } : Jvm.MethodName) jdk_38_method_2_code (1 : Nat) (Option.none : Option Jvm.ClassFile.FieldType), Jvm.Cond.code ({ cls := "java/util/AbstractList", name := "<init>", desc := "()V" } : Jvm.MethodName) jdk_39_method_1_code (1 : Nat) (Option.none : Option Jvm.ClassFile.FieldType), Jvm.Cond.code ({ cls := "java/util/AbstractCollection", name := "<init>", desc := "()V" } : Jvm.MethodName) jdk_22_method_1_code (1 : Nat) (Option.none : Option Jvm.ClassFile.FieldType), Jvm.Cond.code ({ cls := "com/example/dropwire/dropwire/dnd/Point", name := "<init>", desc := "(II)V" } : Jvm.MethodName) prog_36_method_1_code (3 : Nat) (Option.none : Option Jvm.ClassFile.FieldType), Jvm.Cond.code ({ cls := "java/lang/Record", name := "<init>", desc := "()V" } : Jvm.MethodName) jdk_30_method_1_code (1 : Nat) (Option.none : Option Jvm.ClassFile.FieldType), Jvm.Cond.code ({ cls := "com/example/dropwire/dropwire/inprocess/InProcessPeer", name := "isDragging", desc := "()Z" } : Jvm.MethodName) prog_44_method_7_code (1 : Nat) (Option.some Jvm.ClassFile.FieldType.boolean), Jvm.Cond.code ({ cls := "com/example/dropwire/dropwire/inprocess/InProcessPeer", name := "moveTo", desc := "(Lcom/example/dropwire/dropwire/dnd/Point;)V" } : Jvm.MethodName) prog_44_method_8_code (3 : Nat) (Option.none : Option Jvm.ClassFile.FieldType), Jvm.Cond.code ({ cls := "com/example/dropwire/dropwire/dnd/Actions", name := "fromBits", desc := "(I)Lcom/example/dropwire/dropwire/dnd/Actions;" } : Jvm.MethodName) prog_10_method_3_code (1 : Nat) (Option.some (Jvm.ClassFile.FieldType.object "com/example/dropwire/dropwire/dnd/Actions")), Jvm.Cond.code ({ cls := "com/example/dropwire/dropwire/dnd/Actions", name := "<init>", desc := "(I)V" } : Jvm.MethodName) prog_10_method_1_code (2 : Nat) (Option.none : Option Jvm.ClassFile.FieldType), Jvm.Cond.code ({ cls := "com/example/dropwire/dropwire/dnd/DragSource", name := "<init>", desc := "()V" } : Jvm.MethodName) prog_16_method_1_code (1 : Nat) (Option.none : Option Jvm.ClassFile.FieldType), Jvm.Cond.code ({ cls := "com/example/dropwire/dropwire/inprocess/InProcessPeer", name := "gesture", desc := "(Lcom/example/dropwire/dropwire/dnd/Point;Lcom/example/dropwire/dropwire/dnd/Actions;)Lcom/example/dropwire/dropwire/dnd/DragGesture;" } : Jvm.MethodName) prog_44_method_3_code (3 : Nat) (Option.some (Jvm.ClassFile.FieldType.object "com/example/dropwire/dropwire/dnd/DragGesture")), Jvm.Cond.code ({ cls := "com/example/dropwire/dropwire/dnd/DragGesture", name := "<init>", desc := "(Lcom/example/dropwire/dropwire/dnd/DragSourcePeer;Lcom/example/dropwire/dropwire/dnd/Point;Lcom/example/dropwire/dropwire/dnd/Actions;)V" } : Jvm.MethodName) prog_12_method_1_code (4 : Nat) (Option.none : Option Jvm.ClassFile.FieldType), Jvm.Cond.code ({ cls := "com/example/dropwire/dropwire/dnd/Actions", name := "requireSingle", desc := "()Lcom/example/dropwire/dropwire/dnd/Actions;" } : Jvm.MethodName) prog_10_method_8_code (1 : Nat) (Option.some (Jvm.ClassFile.FieldType.object "com/example/dropwire/dropwire/dnd/Actions")), Jvm.Cond.code ({ cls := "java/lang/Integer", name := "bitCount", desc := "(I)I" } : Jvm.MethodName) jdk_33_method_49_code (1 : Nat) (Option.some Jvm.ClassFile.FieldType.int), Jvm.Cond.code ({ cls := "com/example/dropwire/dropwire/dnd/DragGesture", name := "userAction", desc := "()Lcom/example/dropwire/dropwire/dnd/Actions;" } : Jvm.MethodName) prog_12_method_7_code (1 : Nat) (Option.some (Jvm.ClassFile.FieldType.object "com/example/dropwire/dropwire/dnd/Actions")), Jvm.Cond.code ({ cls := "com/example/dropwire/dropwire/dnd/DragSourceContext", name := "<init>", desc := "(Lcom/example/dropwire/dropwire/dnd/DragSource;Lcom/example/dropwire/dropwire/transfer/Transferable;Lcom/example/dropwire/dropwire/dnd/Actions;Lcom/example/dropwire/dropwire/dnd/Actions;Lcom/example/dropwire/dropwire/dnd/DragSourceListener;)V" } : Jvm.MethodName) prog_17_method_1_code (6 : Nat) (Option.none : Option Jvm.ClassFile.FieldType), Jvm.Cond.code ({ cls := "com/example/dropwire/dropwire/dnd/DragGesture", name := "peer", desc := "()Lcom/example/dropwire/dropwire/dnd/DragSourcePeer;" } : Jvm.MethodName) prog_12_method_5_code (1 : Nat) (Option.some (Jvm.ClassFile.FieldType.object "com/example/dropwire/dropwire/dnd/DragSourcePeer")), Jvm.Cond.code ({ cls := "com/example/dropwire/dropwire/dnd/DragGesture", name := "origin", desc := "()Lcom/example/dropwire/dropwire/dnd/Point;" } : Jvm.MethodName) prog_12_method_6_code (1 : Nat) (Option.some (Jvm.ClassFile.FieldType.object "com/example/dropwire/dropwire/dnd/Point")), Jvm.Cond.code ({ cls := "com/example/dropwire/dropwire/inprocess/InProcessPeer", name := "startDrag", desc := "(Lcom/example/dropwire/dropwire/dnd/DragSourceContext;Lcom/example/dropwire/dropwire/dnd/Point;)V" } : Jvm.MethodName) prog_44_method_6_code (5 : Nat) (Option.none : Option Jvm.ClassFile.FieldType), Jvm.Cond.code ({ cls := "com/example/dropwire/dropwire/dnd/DragSourceContext", name := "getUserAction", desc := "()Lcom/example/dropwire/dropwire/dnd/Actions;" } : Jvm.MethodName) prog_17_method_4_code (1 : Nat) (Option.some (Jvm.ClassFile.FieldType.object "com/example/dropwire/dropwire/dnd/Actions")), Jvm.Cond.code ({ cls := "java/util/ArrayList", name := "iterator", desc := "()Ljava/util/Iterator;" } : Jvm.MethodName) jdk_38_method_55_code (1 : Nat) (Option.some (Jvm.ClassFile.FieldType.object "java/util/Iterator")), Jvm.Cond.code ({ cls := "java/util/ArrayList$Itr", name := "<init>", desc := "(Ljava/util/ArrayList;)V" } : Jvm.MethodName) jdk_49_method_1_code (2 : Nat) (Option.none : Option Jvm.ClassFile.FieldType), Jvm.Cond.code ({ cls := "java/util/ArrayList$Itr", name := "hasNext", desc := "()Z" } : Jvm.MethodName) jdk_49_method_2_code (1 : Nat) (Option.some Jvm.ClassFile.FieldType.boolean), Jvm.Cond.code ({ cls := "com/example/dropwire/dropwire/inprocess/InProcessPeer", name := "activeComponentAt", desc := "(Lcom/example/dropwire/dropwire/dnd/Point;)Lcom/example/dropwire/dropwire/inprocess/InProcessPeer$Component;" } : Jvm.MethodName) prog_44_method_13_code (4 : Nat) (Option.some (Jvm.ClassFile.FieldType.object "com/example/dropwire/dropwire/inprocess/InProcessPeer$Component")), Jvm.Cond.code ({ cls := "java/util/ArrayList", name := "size", desc := "()I" } : Jvm.MethodName) jdk_38_method_8_code (1 : Nat) (Option.some Jvm.ClassFile.FieldType.int)]
set_option maxRecDepth 65536 in
theorem codes_eq : words1.filter isCode = codes1 := rfl
theorem w_codes : ∀ c ∈ words1.filter isCode, c.before args0 about1 = true := by
  rw [codes_eq]
  intro c hc
  simp only [codes1, List.mem_cons, List.not_mem_nil, or_false] at hc
  rcases hc with rfl | rfl | rfl | rfl | rfl | rfl | rfl | rfl | rfl | rfl | rfl | rfl | rfl | rfl | rfl | rfl | rfl | rfl | rfl | rfl | rfl | rfl | rfl | rfl | rfl | rfl | rfl | rfl
  · exact w_c0
  · exact w_c1
  · exact w_c2
  · exact w_c3
  · exact w_c4
  · exact w_c5
  · exact w_c6
  · exact w_c7
  · exact w_c8
  · exact w_c9
  · exact w_c10
  · exact w_c11
  · exact w_c12
  · exact w_c13
  · exact w_c14
  · exact w_c15
  · exact w_c16
  · exact w_c17
  · exact w_c18
  · exact w_c19
  · exact w_c20
  · exact w_c21
  · exact w_c22
  · exact w_c23
  · exact w_c24
  · exact w_c25
  · exact w_c26
  · exact w_c27
set_option maxRecDepth 65536 in
theorem w_t1 : (words1.take 24).all (fun c => isCode c || c.before args0 about1) = true := by decide +kernel
set_option maxRecDepth 65536 in
theorem w_t2 : ((words1.drop 24).take 24).all (fun c => isCode c || c.before args0 about1) = true := by decide +kernel
set_option maxRecDepth 65536 in
theorem w_t3 : (((words1.drop 24).drop 24).take 24).all (fun c => isCode c || c.before args0 about1) = true := by decide +kernel
set_option maxRecDepth 65536 in
theorem w_t4 : ((((words1.drop 24).drop 24).drop 24).take 24).all (fun c => isCode c || c.before args0 about1) = true := by decide +kernel
set_option maxRecDepth 65536 in
theorem w_t5 : (((((words1.drop 24).drop 24).drop 24).drop 24).take 24).all (fun c => isCode c || c.before args0 about1) = true := by decide +kernel
set_option maxRecDepth 65536 in
theorem w_t6 : ((((((words1.drop 24).drop 24).drop 24).drop 24).drop 24).take 24).all (fun c => isCode c || c.before args0 about1) = true := by decide +kernel
set_option maxRecDepth 65536 in
theorem w_t7 : (((((((words1.drop 24).drop 24).drop 24).drop 24).drop 24).drop 24).take 24).all (fun c => isCode c || c.before args0 about1) = true := by decide +kernel
set_option maxRecDepth 65536 in
theorem w_t8 : ((((((((words1.drop 24).drop 24).drop 24).drop 24).drop 24).drop 24).drop 24).take 24).all (fun c => isCode c || c.before args0 about1) = true := by decide +kernel
set_option maxRecDepth 65536 in
theorem w_t9 : (((((((((words1.drop 24).drop 24).drop 24).drop 24).drop 24).drop 24).drop 24).drop 24).take 24).all (fun c => isCode c || c.before args0 about1) = true := by decide +kernel
set_option maxRecDepth 65536 in
theorem w_t10 : (((((((((words1.drop 24).drop 24).drop 24).drop 24).drop 24).drop 24).drop 24).drop 24).drop 24).all (fun c => isCode c || c.before args0 about1) = true := by decide +kernel
theorem w_tables : (allAtoms (Jvm.Cond.code x code maxLocals ret :: tables_1)).before args0 about1 = true := by
  rw [allAtoms_all]
  show words1.all (fun c => c.before args0 about1) = true
  refine all_split ?_ w_codes
  rw [← List.take_append_drop 24 words1, List.all_append, w_t1, ← List.take_append_drop 24 (words1.drop 24), List.all_append, w_t2, ← List.take_append_drop 24 ((words1.drop 24).drop 24), List.all_append, w_t3, ← List.take_append_drop 24 (((words1.drop 24).drop 24).drop 24), List.all_append, w_t4, ← List.take_append_drop 24 ((((words1.drop 24).drop 24).drop 24).drop 24), List.all_append, w_t5, ← List.take_append_drop 24 (((((words1.drop 24).drop 24).drop 24).drop 24).drop 24), List.all_append, w_t6, ← List.take_append_drop 24 ((((((words1.drop 24).drop 24).drop 24).drop 24).drop 24).drop 24), List.all_append, w_t7, ← List.take_append_drop 24 (((((((words1.drop 24).drop 24).drop 24).drop 24).drop 24).drop 24).drop 24), List.all_append, w_t8, ← List.take_append_drop 24 ((((((((words1.drop 24).drop 24).drop 24).drop 24).drop 24).drop 24).drop 24).drop 24), List.all_append, w_t9, w_t10]
  rfl
set_option maxRecDepth 65536 in
theorem w_rest : rest_1_c.before args0 about1 = true := by decide +kernel
set_option maxRecDepth 65536 in
theorem w_case : (Jvm.Cond.and given_1 narrow_1).before args0 about1 = true := by decide +kernel
theorem w_applies : (headSpec (Jvm.Cond.code x code maxLocals ret :: tables_1) room_1).applies x e0.platform about1 = true :=
  (Spec.applies_iff w_frames).mpr ⟨w_running, w_runnable, w_alone, w_named, w_hears, w_ripe, w_room, w_tables⟩
theorem atStart : AtStart classFile x code maxLocals ret World_1 tables_1 room_1 Calls_1 rest_1 Pre_1 launch0 p0 e0 about1 theMethod args0 below0 :=
  ⟨lists_1, trivial, launch0.admits_env _ _ _, launch0.least_env, fairChoices_fair.cas, fairChoices_fair.clock, w_frames, w_args, w_heap, w_applies, trivial, w_rest, w_case⟩
end start1
theorem witness_1 : WitnessClaimed_1 := ⟨start1.p0, start1.e0, start1.about1, start1.theMethod, start1.args0, start1.below0, start1.atStart⟩
end Jvm.Pilot.@@N@@
