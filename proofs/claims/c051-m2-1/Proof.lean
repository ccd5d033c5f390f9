import JvmDerived
import JvmDerived.Pilot.@@N@@Statement
import JvmDerived.Pilot.@@N@@Code
set_option linter.unusedVariables false
set_option linter.unusedSimpArgs false
namespace Jvm.Pilot.@@N@@
open Jvm Jvm.ClassFile Sem Op Lib Jvm.Free Jvm.Stand Jvm.LawKit Jvm.RoadKit Bundle Jvm.Pilot.@@N@@.Jvm.D
section Own
variable {p : Program} {l : Launch} {e : Env} {R : Room} {s : State} {m : MethodId} {args : Array Value} {below : List Frame} {meth : Method} {c : Code} {T : State} {locs : List Loc} {cells slots : Nat} {Z : State} {h h' : Heap} {a b : Addr}
/-- from A the run comes to its return, and Q holds there -/
def own_Goes (p : Program) (e : Env) (below : List Frame) (s : State) (Q : Option Value → Heap → List Loc → Prop) (kc ks : Nat) (A : State) : Prop :=
  ∃ s₂ o, Steps p.tables e below A s₂ ∧ s₂.status = .running ∧ Ended s₂ below o ∧ ∃ v L, o = .returned v ∧ Q v s₂.heap L ∧ FrameEnd s o s₂ L kc ks
theorem own_go {Q : Option Value → Heap → List Loc → Prop} {kc ks : Nat} {A B : State} (st : ∀ t, Steps p.tables e below B t → Steps p.tables e below A t) (k : own_Goes p e below s Q kc ks B) : own_Goes p e below s Q kc ks A := by
  obtain ⟨s2, o, h1, h2⟩ := k
  exact ⟨s2, o, st _ h1, h2⟩
theorem own_w {a0 : Array Value} {Z : State} (hw : ∀ d ∈ tables_1, d.before a0 Z = true) (i : Nat) {d : Jvm.Cond} (h : tables_1[i]? = some d) : d.before a0 Z = true := hw d (List.mem_of_getElem? h)
theorem own_selP {y y' : MethodName} (hs : (Cond.selects y'.cls y' y').before args s = true) (he : y.cls = y'.cls) (hpriv : s.PrivateAt y) (hinst : (Cond.instanceMethod y).before args s = true) (hy : y.cls ≠ "java/lang/invoke/MethodHandle" ∧ y.cls ≠ "java/lang/invoke/VarHandle") : (Cond.selects y.cls y y).before args s = true := by
  obtain ⟨c2, r2, m2, q1, q2, q3, q4, kP, hkP, hkPi⟩ := Cond.selects_spec hs
  exact selects_self_of_private (by rw [he]; exact findClass_of_methodNamed q3) hkP hkPi hpriv hinst hy
theorem own_st {tb : Tables} {A B t : State} (h1 : Steps tb e below A B) (k : Steps tb e below B t) : Steps tb e below A t := h1.trans k
theorem own_out {Q : Option Value → Heap → List Loc → Prop} {kc ks : Nat} {A : State} (X : Stand p l e R s m args below meth c T locs cells slots) {v : Option Value} (hv : meth.sig.returnType = none → v = none) (hlk : meth.locks = false)
    (st : ∀ fs, (∀ (f : JFrame) (acts : List Action), f.method = m → f.locked = none → f.entered = [] → (doReturn e (T.setTop f) acts v).1 = T.setFrames fs) → Steps p.tables e below A (T.setFrames fs))
    (hq : Q v T.heap locs) (hc : cells ≤ kc) (hs : slots ≤ ks) : own_Goes p e below s Q kc ks A := by
  obtain ⟨fs, hr, hrun, hended, hW, hsame⟩ := X.leave hv hlk
  exact ⟨_, _, st fs hr, hrun, hended, _, _, rfl, hq, ⟨_, rfl⟩, hW, hsame.mono hc hs⟩
theorem own_irem {tb : Tables} [Ours tb] {T target : State} {g : JFrame} (h : At T m c below) (hx : tb.exec = Jvm.exec) (hg : g.method = m) {x y : Int32} {rest : List Value} (hd : decode c.code g.pc = .ok (.irem, 1)) (hs : g.stack = .int y :: .int x :: rest) (hy : y ≠ 0)
    (hr : Steps tb e below (T.setTop { g with pc := g.pc + 1, stack := .int (x % y) :: rest }) target) : Steps tb e below (T.setTop g) target := XS.irem h hx hg hd hs hy (by rw [irem_eq_mod]; exact hr)
theorem own_lrem {tb : Tables} [Ours tb] {T target : State} {g : JFrame} (h : At T m c below) (hx : tb.exec = Jvm.exec) (hg : g.method = m) {x y : Int64} {rest : List Value} (hd : decode c.code g.pc = .ok (.lrem, 1)) (hs : g.stack = .long y :: .long x :: rest) (hy : y ≠ 0)
    (hr : Steps tb e below (T.setTop { g with pc := g.pc + 1, stack := .long (x % y) :: rest }) target) : Steps tb e below (T.setTop g) target := XS.lrem h hx hg hd hs hy (by rw [lrem_mod]; exact hr)
/-- an array of ints (bytes, booleans): its length, and what each place holds -/
def own_IA (Z : State) (h : Heap) (a : Addr) (ty : FieldType) (n : Nat) (f : Nat → Int32) : Prop := ∃ c : Cell, Arr Z h a c ty ∧ c.slots.size = n ∧ ∀ i, i < n → c.slots[i]? = some (.int (f i))
/-- an array of longs -/
def own_LA (Z : State) (h : Heap) (a : Addr) (n : Nat) (f : Nat → Int64) : Prop := ∃ c : Cell, Arr Z h a c .long ∧ c.slots.size = n ∧ ∀ i, i < n → c.slots[i]? = some (.long (f i))
def own_upd {α : Type} (f : Nat → α) (j : Nat) (x : α) (i : Nat) : α := if i = j then x else f i
theorem own_upd_hit {α : Type} (f : Nat → α) (j : Nat) (x : α) : own_upd f j x j = x := if_pos rfl
theorem own_upd_miss {α : Type} (f : Nat → α) {i j : Nat} (x : α) (q : i ≠ j) : own_upd f j x i = f i := if_neg q
section Arrays
variable {ty : FieldType} {n : Nat} {f : Nat → Int32} {fl : Nat → Int64} {sl : Nat} {v : Value} {ws : List Addr}
theorem own_IA.lt (F : own_IA Z h a ty n f) : a < h.size := by obtain ⟨c, A, -⟩ := F; exact A.lt
theorem own_LA.lt (F : own_LA Z h a n fl) : a < h.size := by obtain ⟨c, A, -⟩ := F; exact A.lt
theorem own_IA.ext (F : own_IA Z h a ty n f) (E : Ext h h') : own_IA Z h' a ty n f := by obtain ⟨c, A, r⟩ := F; exact ⟨c, A.ext E, r⟩
theorem own_LA.ext (F : own_LA Z h a n fl) (E : Ext h h') : own_LA Z h' a n fl := by obtain ⟨c, A, r⟩ := F; exact ⟨c, A.ext E, r⟩
theorem own_IA.other (F : own_IA Z h b ty n f) (W : Wr h h' a sl v) (q : b ≠ a) : own_IA Z h' b ty n f := by obtain ⟨c, A, r⟩ := F; exact ⟨c, A.other W q, r⟩
theorem own_LA.other (F : own_LA Z h b n fl) (W : Wr h h' a sl v) (q : b ≠ a) : own_LA Z h' b n fl := by obtain ⟨c, A, r⟩ := F; exact ⟨c, A.other W q, r⟩
theorem own_IA.keep (F : own_IA Z h a ty n f) (K : Keep h h' ws) (q : a ∉ ws) : own_IA Z h' a ty n f := by obtain ⟨c, A, r⟩ := F; exact ⟨c, ⟨K.2.1 a c A.1 q, A.2⟩, r⟩
theorem own_LA.keep (F : own_LA Z h a n fl) (K : Keep h h' ws) (q : a ∉ ws) : own_LA Z h' a n fl := by obtain ⟨c, A, r⟩ := F; exact ⟨c, ⟨K.2.1 a c A.1 q, A.2⟩, r⟩
theorem own_IA.cong {g : Nat → Int32} (F : own_IA Z h a ty n f) (q : ∀ i, i < n → f i = g i) : own_IA Z h a ty n g := by obtain ⟨c, A, r, u⟩ := F; exact ⟨c, A, r, fun i hi => by rw [u i hi, q i hi]⟩
theorem own_LA.cong {g : Nat → Int64} (F : own_LA Z h a n fl) (q : ∀ i, i < n → fl i = g i) : own_LA Z h a n g := by obtain ⟨c, A, r, u⟩ := F; exact ⟨c, A, r, fun i hi => by rw [u i hi, q i hi]⟩
theorem own_in {cl : Cell} {j : Int32} {k : Nat} (S : cl.slots.size = n) (h1 : ¬ j < 0) (hk : j.toNatClampNeg = k) (h2 : k < n) : ¬ (j < 0 ∨ cl.slots.size ≤ j.toNatClampNeg) := by
  rintro (q | q)
  · exact h1 q
  · rw [S, hk] at q; exact absurd h2 (Nat.not_lt.mpr q)
theorem own_set {cl : Cell} {k : Nat} (S : cl.slots.size = n) (h2 : k < n) (v : Value) (i : Nat) : (cl.setSlot k v).slots[i]? = if i = k then some v else cl.slots[i]? := by
  by_cases q : i = k
  · subst q; rw [if_pos rfl]; exact Array.getElem?_setIfInBounds_self_of_lt (by rw [S]; exact h2)
  · rw [if_neg q]; exact Array.getElem?_setIfInBounds_ne (fun z => q z.symm)
theorem own_Inew {k : ClassId} {z : Int32} (A : Arr Z h a (newA k ty z) ty) (hz : z.toNatClampNeg = n) (hd : defaultValue ty = .int 0) : own_IA Z h a ty n (fun _ => 0) := by
  refine ⟨_, A, by rw [sz_new, hz], fun i hi => ?_⟩
  show (Array.replicate z.toNatClampNeg (defaultValue ty))[i]? = _
  rw [hz, hd, Array.getElem?_replicate, if_pos hi]
theorem own_Lnew {k : ClassId} {z : Int32} (A : Arr Z h a (newA k .long z) .long) (hz : z.toNatClampNeg = n) : own_LA Z h a n (fun _ => 0) := by
  refine ⟨_, A, by rw [sz_new, hz], fun i hi => ?_⟩
  show (Array.replicate z.toNatClampNeg (defaultValue .long))[i]? = _
  rw [hz, Array.getElem?_replicate, if_pos hi]; rfl
theorem own_iaload (X : Stand p l e R s m args below meth c T locs cells slots) (hx : p.tables.exec = Jvm.exec) (hZ : Z.Warmed39 s.vm) (eT : T.heap = h) (V : own_IA Z h a .int n f) {j : Int32} {k : Nat} (h1 : ¬ j < 0) (hk : j.toNatClampNeg = k) (h2 : k < n) {pc : Nat} {Ls : Array Slot} {rest : List Value} (hd : decode c.code pc = .ok (.iaload, 1)) (t : State)
    (kk : Steps p.tables e below (T.setTop (mkF m (pc + 1) Ls (.int (f k) :: rest))) t) : Steps p.tables e below (T.setTop (mkF m pc Ls (.int j :: .ref a :: rest))) t := by
  obtain ⟨cl, A, S, H⟩ := V
  exact X.iaload hx (j := j) (v := .int (f k)) (by rw [eT]; exact A.1) (State.isArrayOf_alike hZ.alike A.2.1) A.2.2 (own_in S h1 hk h2) (by rw [hk]; exact H _ h2) (g := mkF m pc Ls (.int j :: .ref a :: rest)) rfl rfl hd t kk
theorem own_baload (X : Stand p l e R s m args below meth c T locs cells slots) (hx : p.tables.exec = Jvm.exec) (hZ : Z.Warmed39 s.vm) (eT : T.heap = h) (V : own_IA Z h a .byte n f) {j : Int32} {k : Nat} (h1 : ¬ j < 0) (hk : j.toNatClampNeg = k) (h2 : k < n) {pc : Nat} {Ls : Array Slot} {rest : List Value} (hd : decode c.code pc = .ok (.baload, 1)) (t : State)
    (kk : Steps p.tables e below (T.setTop (mkF m (pc + 1) Ls (.int (f k) :: rest))) t) : Steps p.tables e below (T.setTop (mkF m pc Ls (.int j :: .ref a :: rest))) t := by
  obtain ⟨cl, A, S, H⟩ := V
  exact X.baloadBytes hx (j := j) (v := .int (f k)) (by rw [eT]; exact A.1) (State.isArrayOf_alike hZ.alike A.2.1) A.2.2 (own_in S h1 hk h2) (by rw [hk]; exact H _ h2) (g := mkF m pc Ls (.int j :: .ref a :: rest)) rfl rfl hd t kk
theorem own_laload (X : Stand p l e R s m args below meth c T locs cells slots) (hx : p.tables.exec = Jvm.exec) (hZ : Z.Warmed39 s.vm) (eT : T.heap = h) (V : own_LA Z h a n fl) {j : Int32} {k : Nat} (h1 : ¬ j < 0) (hk : j.toNatClampNeg = k) (h2 : k < n) {pc : Nat} {Ls : Array Slot} {rest : List Value} (hd : decode c.code pc = .ok (.laload, 1)) (t : State)
    (kk : Steps p.tables e below (T.setTop (mkF m (pc + 1) Ls (.long (fl k) :: rest))) t) : Steps p.tables e below (T.setTop (mkF m pc Ls (.int j :: .ref a :: rest))) t := by
  obtain ⟨cl, A, S, H⟩ := V
  exact X.laload hx (j := j) (v := .long (fl k)) (by rw [eT]; exact A.1) (State.isArrayOf_alike hZ.alike A.2.1) A.2.2 (own_in S h1 hk h2) (by rw [hk]; exact H _ h2) (g := mkF m pc Ls (.int j :: .ref a :: rest)) rfl rfl hd t kk
theorem own_alen (X : Stand p l e R s m args below meth c T locs cells slots) (hx : p.tables.exec = Jvm.exec) (hZ : Z.Warmed39 s.vm) (eT : T.heap = h) (V : own_IA Z h a ty n f) {z : Int32} (hl : n.toInt32 = z) {pc : Nat} {Ls : Array Slot} {rest : List Value} (hd : decode c.code pc = .ok (.arraylength, 1)) (t : State)
    (kk : Steps p.tables e below (T.setTop (mkF m (pc + 1) Ls (.int z :: rest))) t) : Steps p.tables e below (T.setTop (mkF m pc Ls (.ref a :: rest))) t := by
  obtain ⟨cl, A, S, H⟩ := V
  exact X.arraylength hx (by rw [eT]; exact A.1) (State.isArrayOf_alike hZ.alike A.2.1) (g := mkF m pc Ls (.ref a :: rest)) rfl rfl hd t (by rw [S, hl]; exact kk)
theorem own_alenL (X : Stand p l e R s m args below meth c T locs cells slots) (hx : p.tables.exec = Jvm.exec) (hZ : Z.Warmed39 s.vm) (eT : T.heap = h) (V : own_LA Z h a n fl) {z : Int32} (hl : n.toInt32 = z) {pc : Nat} {Ls : Array Slot} {rest : List Value} (hd : decode c.code pc = .ok (.arraylength, 1)) (t : State)
    (kk : Steps p.tables e below (T.setTop (mkF m (pc + 1) Ls (.int z :: rest))) t) : Steps p.tables e below (T.setTop (mkF m pc Ls (.ref a :: rest))) t := by
  obtain ⟨cl, A, S, H⟩ := V
  exact X.arraylength hx (by rw [eT]; exact A.1) (State.isArrayOf_alike hZ.alike A.2.1) (g := mkF m pc Ls (.ref a :: rest)) rfl rfl hd t (by rw [S, hl]; exact kk)
theorem own_iastore (X : Stand p l e R s m args below meth c T locs cells slots) (hx : p.tables.exec = Jvm.exec) (hZ : Z.Warmed39 s.vm) (eT : T.heap = h) (V : own_IA Z h a .int n f) {j x : Int32} {k : Nat} (h1 : ¬ j < 0) (hk : j.toNatClampNeg = k) (h2 : k < n) {g : JFrame} (hg : g.method = m) {rest : List Value} (hs : g.stack = .int x :: .int j :: .ref a :: rest) (hd : decode c.code g.pc = .ok (.iastore, 1)) :
    ∃ T' h', Stand p l e R s m args below meth c T' (locs ++ [⟨a, k⟩]) cells slots ∧ T'.heap = h' ∧ Wr h h' a k (.int x) ∧ own_IA Z h' a .int n (own_upd f k x) ∧ ∀ target, Steps p.tables e below (T'.setTop { g with pc := g.pc + 1, stack := rest }) target → Steps p.tables e below (T.setTop g) target := by
  obtain ⟨cl, A, S, H⟩ := V
  obtain ⟨T', h', X', e', W, st⟩ := stI X hx hZ eT A (own_in S h1 hk h2) hg hs hd
  rw [hk] at X' W
  refine ⟨T', h', X', e', W, ⟨_, A.same W, by rw [sz_set, S], fun i hi => ?_⟩, st⟩
  rw [own_set S h2]; unfold own_upd
  by_cases q : i = k
  · rw [if_pos q, if_pos q]
  · rw [if_neg q, if_neg q]; exact H i hi
theorem own_bastore (X : Stand p l e R s m args below meth c T locs cells slots) (hx : p.tables.exec = Jvm.exec) (hZ : Z.Warmed39 s.vm) (eT : T.heap = h) (V : own_IA Z h a .byte n f) {j x : Int32} {k : Nat} (h1 : ¬ j < 0) (hk : j.toNatClampNeg = k) (h2 : k < n) {g : JFrame} (hg : g.method = m) {rest : List Value} (hs : g.stack = .int x :: .int j :: .ref a :: rest) (hd : decode c.code g.pc = .ok (.bastore, 1)) :
    ∃ T' h', Stand p l e R s m args below meth c T' (locs ++ [⟨a, k⟩]) cells slots ∧ T'.heap = h' ∧ Wr h h' a k (.int x.toInt8.toInt32) ∧ own_IA Z h' a .byte n (own_upd f k x.toInt8.toInt32) ∧ ∀ target, Steps p.tables e below (T'.setTop { g with pc := g.pc + 1, stack := rest }) target → Steps p.tables e below (T.setTop g) target := by
  obtain ⟨cl, A, S, H⟩ := V
  obtain ⟨T', h', X', e', W, st⟩ := stB X hx hZ eT A (own_in S h1 hk h2) hg hs hd
  rw [hk] at X' W
  refine ⟨T', h', X', e', W, ⟨_, A.same W, by rw [sz_set, S], fun i hi => ?_⟩, st⟩
  rw [own_set S h2]; unfold own_upd
  by_cases q : i = k
  · rw [if_pos q, if_pos q]; rfl
  · rw [if_neg q, if_neg q]; exact H i hi
theorem own_lastore (X : Stand p l e R s m args below meth c T locs cells slots) (hx : p.tables.exec = Jvm.exec) (hZ : Z.Warmed39 s.vm) (eT : T.heap = h) (V : own_LA Z h a n fl) {j : Int32} {x : Int64} {k : Nat} (h1 : ¬ j < 0) (hk : j.toNatClampNeg = k) (h2 : k < n) {g : JFrame} (hg : g.method = m) {rest : List Value} (hs : g.stack = .long x :: .int j :: .ref a :: rest) (hd : decode c.code g.pc = .ok (.lastore, 1)) :
    ∃ T' h', Stand p l e R s m args below meth c T' (locs ++ [⟨a, k⟩]) cells slots ∧ T'.heap = h' ∧ Wr h h' a k (.long x) ∧ own_LA Z h' a n (own_upd fl k x) ∧ ∀ target, Steps p.tables e below (T'.setTop { g with pc := g.pc + 1, stack := rest }) target → Steps p.tables e below (T.setTop g) target := by
  obtain ⟨cl, A, S, H⟩ := V
  obtain ⟨T', h', X', e', W, st⟩ := stJ X hx hZ eT A (own_in S h1 hk h2) hg hs hd
  rw [hk] at X' W
  refine ⟨T', h', X', e', W, ⟨_, A.same W, by rw [sz_set, S], fun i hi => ?_⟩, st⟩
  rw [own_set S h2]; unfold own_upd
  by_cases q : i = k
  · rw [if_pos q, if_pos q]
  · rw [if_neg q, if_neg q]; exact H i hi
theorem own_clone (X : Stand p l e R s m args below meth c T locs cells slots) (hx : p.tables.exec = Jvm.exec) (hZ : Z.Warmed39 s.vm) {a0 : Array Value} {own ad : String} {index : Nat} (hown : s.vm.findClass own = some m.cls)
    (w1 : (Cond.methodLink own index ⟨ad, "clone", "()Ljava/lang/Object;"⟩).before a0 Z = true) (w2 : (Cond.sameMethod ad "java/lang/Object" "clone" "()Ljava/lang/Object;").before a0 Z = true) (w3 : (Cond.native ⟨"java/lang/Object", "clone", "()Ljava/lang/Object;"⟩).before a0 Z = true)
    (w4 : (Cond.instanceMethod ⟨"java/lang/Object", "clone", "()Ljava/lang/Object;"⟩).before a0 Z = true) (w5 : (Cond.selects ad ⟨ad, "clone", "()Ljava/lang/Object;"⟩ ⟨"java/lang/Object", "clone", "()Ljava/lang/Object;"⟩).before a0 Z = true) (w6 : (Cond.castable ad "java/lang/Cloneable").before a0 Z = true)
    (eT : T.heap = h) (V : own_IA Z h a .int n f) (E : Exa Z h a ad) {g : JFrame} (hg : g.method = m) (hsize : g.locals.size = c.maxLocals) {rest : List Value} (hst : g.stack = .ref a :: rest) (hd : decode c.code g.pc = .ok (.invokevirtual index, 3))
    (hf : 1 ≤ R.frames) {W cap : Nat} (hW : 2 * g.monitorRoom + (rest.map fun v => v.category).sum ≤ W) (hl : W + 14 ≤ R.locals) (hcap : n ≤ cap) (hc : cells + 1 ≤ R.cells) (hsl : slots + cap ≤ R.slots) :
    ∃ T' h', Stand p l e R s m args below meth c T' locs (cells + 1) (slots + cap) ∧ T'.heap = h' ∧ Ext h h' ∧ own_IA Z h' h.size .int n f ∧ Exa Z h' h.size ad ∧
      ∀ target, Steps p.tables e below (T'.setTop { g with pc := g.pc + 3, stack := .ref h.size :: rest }) target → Steps p.tables e below (T.setTop g) target := by
  obtain ⟨cl, A, S, H⟩ := V
  have FC : FitC Z cl := fitC_of A fun i hi v hv => by rw [H i (by rw [← S]; exact hi)] at hv; cases hv; rfl
  obtain ⟨T', h', X', e', ex, A', E', st⟩ := cloneA X hx hZ hown w1 w2 w3 w4 w5 w6 eT A E FC hg hsize hst hd hf hW hl (by rw [S]; exact hcap) hc hsl
  exact ⟨T', h', X', e', ex, ⟨cloneOf cl, A', S, H⟩, E', st⟩
end Arrays
end Own
theorem pn_com_example_term_unifier_termunifier_IntStack : plainName "com/example/term_unifier/termunifier/IntStack" = true := by first | (simp [plainName, overriddenIn]; done) | decide +kernel
theorem d3_0 : decode prog_12_method_1_code 0 = .ok (.aload_n 0, 1) := by decide +kernel
theorem d3_1 : decode prog_12_method_1_code 1 = .ok (.invokespecial 1, 3) := by decide +kernel
theorem d3_4 : decode prog_12_method_1_code 4 = .ok (.aload_n 0, 1) := by decide +kernel
theorem d3_5 : decode prog_12_method_1_code 5 = .ok (.bipush 16, 2) := by decide +kernel
theorem d3_7 : decode prog_12_method_1_code 7 = .ok (.newarray .int, 2) := by decide +kernel
theorem d3_9 : decode prog_12_method_1_code 9 = .ok (.putfield 7, 3) := by decide +kernel
theorem d3_12 : decode prog_12_method_1_code 12 = .ok (.return_, 1) := by decide +kernel
theorem ef_3 (m : MethodId) (x0 : Addr) : entryFrame m #[(.ref x0)] 1 = mkF m 0 #[.val (.ref x0)] [] := by first | (simp [entryFrame, mkF, argsToLocals, Value.category]; done) | rfl
def own_Q3 (Z : State) (zs : Addr) (h0 : Heap) (n0 : Nat) (v : Option Value) (h : Heap) (L : List Loc) : Prop := v = none ∧ Fr n0 L ∧ ∃ zarr : Addr, h0.size ≤ zarr ∧ Keep h0 h [zs] ∧ Exa Z h zs "com/example/term_unifier/termunifier/IntStack" ∧ Fld Z h zs "com/example/term_unifier/termunifier/IntStack" "items" "[I" (.ref zarr) ∧ Fld Z h zs "com/example/term_unifier/termunifier/IntStack" "size" "I" (.int (0 : Int32)) ∧ own_IA Z h zarr .int 16 (fun _ => 0)
set_option maxRecDepth 65536 in
set_option maxHeartbeats 40000000 in
theorem rm3 (l : Launch) (Z : State) (a0 : Array Value) (hw : ∀ d ∈ tables_1, d.before a0 Z = true) (ws : List Jvm.Cond) (zs : Addr) (h0 : Heap) (n0 : Nat) (Z0 : n0 ≤ h0.size) (E_zs : Exa Z h0 zs "com/example/term_unifier/termunifier/IntStack") (F_zs_items : Fld Z h0 zs "com/example/term_unifier/termunifier/IntStack" "items" "[I" .null) (F_zs_size : Fld Z h0 zs "com/example/term_unifier/termunifier/IntStack" "size" "I" (.int (0 : Int32))) (g_zs : n0 ≤ zs) :
    MetFree l (⟨"com/example/term_unifier/termunifier/IntStack", "<init>", "()V"⟩ : MethodName) (head1 (Jvm.Cond.code (⟨"com/example/term_unifier/termunifier/IntStack", "<init>", "()V"⟩ : MethodName) prog_12_method_1_code 1 none :: ws) ({ frames := 1, cells := 1, slots := 16, locals := 12 } : Room)) (fun a U => a = #[(.ref zs)] ∧ Z.Warmed39 U.vm ∧ U.heap = h0) (fun _ _ _ _ _ => True) (fun _ U o U' => ∃ v L, o = .returned v ∧ own_Q3 Z zs h0 n0 v U'.heap L ∧ FrameEnd U o U' L ({ frames := 1, cells := 1, slots := 16, locals := 12 } : Room).cells ({ frames := 1, cells := 1, slots := 16, locals := 12 } : Room).slots) := by
  refine MetFree.of_bodySF (plainFor_of_name pn_com_example_term_unifier_termunifier_IntStack) hisR ?_
  intro p e s m args below meth c s₁ Bd hml0 hP hK
  obtain ⟨rfl, hZ, hh⟩ := hP
  have hx := Bd.exec
  have hby := Bd.bytes
  have hml : c.maxLocals = 1 := hml0
  have hown : s.vm.findClass "com/example/term_unifier/termunifier/IntStack" = some m.cls := findClass_of_methodNamed Bd.named
  have hnm := (name_of_methodNamed Bd.named Bd.method).1
  have X0 : Stand p l e ({ frames := 1, cells := 1, slots := 16, locals := 12 } : Room) s m #[(.ref zs)] below meth c s₁ [] 0 0 := Stand.of_body Bd
  have e0 : s₁.heap = h0 := by rw [← hh, Bd.state]; rfl
  have N0 := Fr.nil n0
  have Zs := Z0
  have K : Keep h0 h0 [zs] := Keep.refl _ _
  show own_Goes p e below s (own_Q3 Z zs h0 n0) ({ frames := 1, cells := 1, slots := 16, locals := 12 } : Room).cells ({ frames := 1, cells := 1, slots := 16, locals := 12 } : Room).slots _
  refine own_go (B := s₁.setTop (mkF m 0 #[.val (.ref zs)] [])) (fun t k => castTop (ef_3 m zs) k) ?_
  refine own_go (B := s₁.setTop (mkF m 1 #[.val (.ref zs)] [(.ref zs)])) (fun t k => XS.aloadN X0.here hx rfl (Jvm.hb hby d3_0) rfl rfl k) ?_
  obtain ⟨T1, X1, e1, st1⟩ := initO X0 hx hZ hown (own_w hw 24 rfl) (own_w hw 7 rfl) (own_w hw 8 rfl) e0 (g := (mkF m 1 #[.val (.ref zs)] [(.ref zs)])) rfl (by rw [hml]; rfl) rfl (Jvm.hb hby d3_1) (by decide) (W := 0) (by show 2 * 0 + _ ≤ _; exact Nat.le_of_eq rfl) (by decide)
  refine own_go (B := T1.setTop (mkF m 4 #[.val (.ref zs)] [])) (fun t k => st1 _ k) ?_
  refine own_go (B := T1.setTop (mkF m 5 #[.val (.ref zs)] [(.ref zs)])) (fun t k => XS.aloadN X1.here hx rfl (Jvm.hb hby d3_4) rfl rfl k) ?_
  refine own_go (B := T1.setTop (mkF m 7 #[.val (.ref zs)] [(.int (16 : Int32)), (.ref zs)])) (fun t k => XS.bipush X1.here hx rfl (Jvm.hb hby d3_5) k) ?_
  obtain ⟨T2, h2, k2, X2, e2, E2, A2, st2⟩ := newP X1 hx hZ (own_w hw 9 rfl) e1 (g := (mkF m 7 #[.val (.ref zs)] [(.int (16 : Int32)), (.ref zs)])) rfl (Jvm.hb hby d3_7) rfl (by decide) (cap := 16) (by decide) (by decide) (by decide) (by decide)
  obtain ⟨b2, g2⟩ : ∃ z, z = h0.size := ⟨_, rfl⟩
  rw [← g2] at A2 st2
  have ne_zs_b2 : zs ≠ b2 := Nat.ne_of_lt (Nat.lt_of_lt_of_le E_zs.lt (Nat.le_of_eq g2.symm))
  have g_b2 : n0 ≤ b2 := Nat.le_trans Zs (Nat.le_of_eq g2.symm)
  have sz_b2 : h0.size ≤ b2 := Nat.le_trans K.1 (Nat.le_of_eq g2.symm)
  have E_zs := E_zs.ext E2
  have F_zs_items := F_zs_items.ext E2
  have F_zs_size := F_zs_size.ext E2
  have K := K.ext E2
  have Zs := Nat.le_trans Zs E2.1
  have V_b2 : own_IA Z h2 b2 .int 16 (fun _ => 0) := own_Inew A2 (by decide) rfl
  refine own_go (B := T2.setTop (mkF m 9 #[.val (.ref zs)] [(.ref b2), (.ref zs)])) (fun t k => st2 _ k) ?_
  obtain ⟨T3, h3, X3, e3, W3, st3⟩ := putF X2 hx hZ hown (host := "") (Or.inl (own_w hw 25 rfl)) Via.refl e2 F_zs_items E_zs (Or.inl (own_w hw 26 rfl)) (own_w hw 19 rfl) (ty := (.array .int)) (by decide) rfl rfl (g := (mkF m 9 #[.val (.ref zs)] [(.ref b2), (.ref zs)])) rfl rfl (Jvm.hb hby d3_9)
  have N3 := Fr.snoc X3 N0 g_zs
  have E_zs := E_zs.wr W3
  have F_zs_items := F_zs_items.same W3
  have F_zs_size := F_zs_size.other W3 (Or.inr (slot_ne (Or.inl (own_w hw 47 rfl)) (Or.inl (own_w hw 26 rfl)) (by decide) (t := .int) (t' := (.array .int)) (by decide) (by decide)))
  have V_b2 := V_b2.other W3 (Ne.symm ne_zs_b2)
  have K := K.wr W3 (Or.inl (List.mem_of_getElem? (i := 0) rfl))
  have Zs := Nat.le_trans Zs (Keep.of_wr W3).1
  refine own_go (B := T3.setTop (mkF m 12 #[.val (.ref zs)] [])) (fun t k => st3 _ k) ?_
  refine own_out X3 (v := none) (fun _ => rfl) Bd.notSynchronized (fun fs hr => X3.returnOut hx Bd.returns (Jvm.hb hby d3_12) hr) ?_ (by decide) (by decide)
  show own_Q3 Z zs h0 n0 none T3.heap _
  rw [e3]
  exact ⟨rfl, N3, b2, sz_b2, K, E_zs, F_zs_items, F_zs_size, V_b2⟩
theorem d6_0 : decode prog_12_method_2_code 0 = .ok (.aload_n 0, 1) := by decide +kernel
theorem d6_1 : decode prog_12_method_2_code 1 = .ok (.getfield 13, 3) := by decide +kernel
theorem d6_4 : decode prog_12_method_2_code 4 = .ok (.aload_n 0, 1) := by decide +kernel
theorem d6_5 : decode prog_12_method_2_code 5 = .ok (.getfield 7, 3) := by decide +kernel
theorem d6_8 : decode prog_12_method_2_code 8 = .ok (.arraylength, 1) := by decide +kernel
theorem d6_9 : decode prog_12_method_2_code 9 = .ok (.if_icmp .ne 20, 3) := by decide +kernel
theorem d6_29 : decode prog_12_method_2_code 29 = .ok (.aload_n 0, 1) := by decide +kernel
theorem d6_30 : decode prog_12_method_2_code 30 = .ok (.getfield 7, 3) := by decide +kernel
theorem d6_33 : decode prog_12_method_2_code 33 = .ok (.aload_n 0, 1) := by decide +kernel
theorem d6_34 : decode prog_12_method_2_code 34 = .ok (.getfield 13, 3) := by decide +kernel
theorem d6_37 : decode prog_12_method_2_code 37 = .ok (.iload_n 1, 1) := by decide +kernel
theorem d6_38 : decode prog_12_method_2_code 38 = .ok (.iastore, 1) := by decide +kernel
theorem d6_39 : decode prog_12_method_2_code 39 = .ok (.aload_n 0, 1) := by decide +kernel
theorem d6_40 : decode prog_12_method_2_code 40 = .ok (.dup, 1) := by decide +kernel
theorem d6_41 : decode prog_12_method_2_code 41 = .ok (.getfield 13, 3) := by decide +kernel
theorem d6_44 : decode prog_12_method_2_code 44 = .ok (.iconst 1, 1) := by decide +kernel
theorem d6_45 : decode prog_12_method_2_code 45 = .ok (.iadd, 1) := by decide +kernel
theorem d6_46 : decode prog_12_method_2_code 46 = .ok (.putfield 13, 3) := by decide +kernel
theorem d6_49 : decode prog_12_method_2_code 49 = .ok (.return_, 1) := by decide +kernel
theorem ef_6 (m : MethodId) (x0 : Addr) (x1 : Int32) : entryFrame m #[(.ref x0), (.int x1)] 2 = mkF m 0 #[.val (.ref x0), .val (.int x1)] [] := by first | (simp [entryFrame, mkF, argsToLocals, Value.category]; done) | rfl
def own_Q6 (Z : State) (zs : Addr) (zx : Int32) (zarr : Addr) (zn : Int32) (zm : Int32) (zk : Nat) (zf : Nat → Int32) (h0 : Heap) (n0 : Nat) (v : Option Value) (h : Heap) (L : List Loc) : Prop := v = none ∧ Fr n0 L ∧ Keep h0 h [zs, zarr] ∧ Exa Z h zs "com/example/term_unifier/termunifier/IntStack" ∧ Fld Z h zs "com/example/term_unifier/termunifier/IntStack" "items" "[I" (.ref zarr) ∧ Fld Z h zs "com/example/term_unifier/termunifier/IntStack" "size" "I" (.int zm) ∧ own_IA Z h zarr .int 16 (own_upd zf zk zx)
set_option maxRecDepth 65536 in
set_option maxHeartbeats 40000000 in
theorem rm6 (l : Launch) (Z : State) (a0 : Array Value) (hw : ∀ d ∈ tables_1, d.before a0 Z = true) (ws : List Jvm.Cond) (zs : Addr) (zx : Int32) (zarr : Addr) (zn : Int32) (zm : Int32) (zk : Nat) (zf : Nat → Int32) (h0 : Heap) (n0 : Nat) (Z0 : n0 ≤ h0.size) (E_zs : Exa Z h0 zs "com/example/term_unifier/termunifier/IntStack") (F_zs_items : Fld Z h0 zs "com/example/term_unifier/termunifier/IntStack" "items" "[I" (.ref zarr)) (F_zs_size : Fld Z h0 zs "com/example/term_unifier/termunifier/IntStack" "size" "I" (.int zn)) (V_zarr : own_IA Z h0 zarr .int 16 zf) (g_zs : n0 ≤ zs) (g_zarr : n0 ≤ zarr) (ne_zs_zarr : zs ≠ zarr) (hk0 : ¬ (zn < 0)) (hk : zn.toNatClampNeg = zk) (hk1 : zk < 16) (hk2 : (zn + (1 : Int32)) = zm) (hk3 : ¬ (zn = (16 : Int32))) :
    MetFree l (⟨"com/example/term_unifier/termunifier/IntStack", "push", "(I)V"⟩ : MethodName) (head1 (Jvm.Cond.code (⟨"com/example/term_unifier/termunifier/IntStack", "push", "(I)V"⟩ : MethodName) prog_12_method_2_code 2 none :: ws) ({ frames := 0, cells := 0, slots := 0, locals := 0 } : Room)) (fun a U => a = #[(.ref zs), (.int zx)] ∧ Z.Warmed39 U.vm ∧ U.heap = h0) (fun _ _ _ _ _ => True) (fun _ U o U' => ∃ v L, o = .returned v ∧ own_Q6 Z zs zx zarr zn zm zk zf h0 n0 v U'.heap L ∧ FrameEnd U o U' L ({ frames := 0, cells := 0, slots := 0, locals := 0 } : Room).cells ({ frames := 0, cells := 0, slots := 0, locals := 0 } : Room).slots) := by
  refine MetFree.of_bodySF (plainFor_of_name pn_com_example_term_unifier_termunifier_IntStack) hisR ?_
  intro p e s m args below meth c s₁ Bd hml0 hP hK
  obtain ⟨rfl, hZ, hh⟩ := hP
  have hx := Bd.exec
  have hby := Bd.bytes
  have hml : c.maxLocals = 2 := hml0
  have hown : s.vm.findClass "com/example/term_unifier/termunifier/IntStack" = some m.cls := findClass_of_methodNamed Bd.named
  have hnm := (name_of_methodNamed Bd.named Bd.method).1
  have X0 : Stand p l e ({ frames := 0, cells := 0, slots := 0, locals := 0 } : Room) s m #[(.ref zs), (.int zx)] below meth c s₁ [] 0 0 := Stand.of_body Bd
  have e0 : s₁.heap = h0 := by rw [← hh, Bd.state]; rfl
  have N0 := Fr.nil n0
  have Zs := Z0
  have K : Keep h0 h0 [zs, zarr] := Keep.refl _ _
  show own_Goes p e below s (own_Q6 Z zs zx zarr zn zm zk zf h0 n0) ({ frames := 0, cells := 0, slots := 0, locals := 0 } : Room).cells ({ frames := 0, cells := 0, slots := 0, locals := 0 } : Room).slots _
  refine own_go (B := s₁.setTop (mkF m 0 #[.val (.ref zs), .val (.int zx)] [])) (fun t k => castTop (ef_6 m zs zx) k) ?_
  refine own_go (B := s₁.setTop (mkF m 1 #[.val (.ref zs), .val (.int zx)] [(.ref zs)])) (fun t k => XS.aloadN X0.here hx rfl (Jvm.hb hby d6_0) rfl rfl k) ?_
  obtain ⟨T4, X4, e4, st4⟩ := getF X0 hx hZ hown (host := "") (Or.inl (own_w hw 46 rfl)) Via.refl e0 F_zs_size (g := (mkF m 1 #[.val (.ref zs), .val (.int zx)] [(.ref zs)])) rfl rfl (Jvm.hb hby d6_1)
  refine own_go (B := T4.setTop (mkF m 4 #[.val (.ref zs), .val (.int zx)] [(.int zn)])) (fun t k => st4 _ k) ?_
  refine own_go (B := T4.setTop (mkF m 5 #[.val (.ref zs), .val (.int zx)] [(.ref zs), (.int zn)])) (fun t k => XS.aloadN X4.here hx rfl (Jvm.hb hby d6_4) rfl rfl k) ?_
  obtain ⟨T5, X5, e5, st5⟩ := getF X4 hx hZ hown (host := "") (Or.inl (own_w hw 25 rfl)) Via.refl e4 F_zs_items (g := (mkF m 5 #[.val (.ref zs), .val (.int zx)] [(.ref zs), (.int zn)])) rfl rfl (Jvm.hb hby d6_5)
  refine own_go (B := T5.setTop (mkF m 8 #[.val (.ref zs), .val (.int zx)] [(.ref zarr), (.int zn)])) (fun t k => st5 _ k) ?_
  refine own_go (B := T5.setTop (mkF m 9 #[.val (.ref zs), .val (.int zx)] [(.int (16 : Int32)), (.int zn)])) (fun t k => own_alen X5 hx hZ e5 V_zarr (by decide) (Jvm.hb hby d6_8) t k) ?_
  refine own_go (B := T5.setTop (mkF m 29 #[.val (.ref zs), .val (.int zx)] [])) (fun t k => XS.icmpYes X5.here hx rfl (pc0 := 9) (pc' := 29) rfl (Jvm.hb hby d6_9) rfl (feq hk3).2 (by decide) (by decide) k) ?_
  refine own_go (B := T5.setTop (mkF m 30 #[.val (.ref zs), .val (.int zx)] [(.ref zs)])) (fun t k => XS.aloadN X5.here hx rfl (Jvm.hb hby d6_29) rfl rfl k) ?_
  obtain ⟨T6, X6, e6, st6⟩ := getF X5 hx hZ hown (host := "") (Or.inl (own_w hw 25 rfl)) Via.refl e5 F_zs_items (g := (mkF m 30 #[.val (.ref zs), .val (.int zx)] [(.ref zs)])) rfl rfl (Jvm.hb hby d6_30)
  refine own_go (B := T6.setTop (mkF m 33 #[.val (.ref zs), .val (.int zx)] [(.ref zarr)])) (fun t k => st6 _ k) ?_
  refine own_go (B := T6.setTop (mkF m 34 #[.val (.ref zs), .val (.int zx)] [(.ref zs), (.ref zarr)])) (fun t k => XS.aloadN X6.here hx rfl (Jvm.hb hby d6_33) rfl rfl k) ?_
  obtain ⟨T7, X7, e7, st7⟩ := getF X6 hx hZ hown (host := "") (Or.inl (own_w hw 46 rfl)) Via.refl e6 F_zs_size (g := (mkF m 34 #[.val (.ref zs), .val (.int zx)] [(.ref zs), (.ref zarr)])) rfl rfl (Jvm.hb hby d6_34)
  refine own_go (B := T7.setTop (mkF m 37 #[.val (.ref zs), .val (.int zx)] [(.int zn), (.ref zarr)])) (fun t k => st7 _ k) ?_
  refine own_go (B := T7.setTop (mkF m 38 #[.val (.ref zs), .val (.int zx)] [(.int zx), (.int zn), (.ref zarr)])) (fun t k => XS.iloadN X7.here hx rfl (Jvm.hb hby d6_37) rfl k) ?_
  obtain ⟨T8, h8, X8, e8, W8, V8, st8⟩ := own_iastore X7 hx hZ e7 V_zarr (j := zn) (k := zk) hk0 hk hk1 (g := (mkF m 38 #[.val (.ref zs), .val (.int zx)] [(.int zx), (.int zn), (.ref zarr)])) rfl rfl (Jvm.hb hby d6_38)
  have N8 := Fr.snoc X8 N0 g_zarr
  have E_zs := E_zs.wr W8
  have F_zs_items := F_zs_items.other W8 (Or.inl ne_zs_zarr)
  have F_zs_size := F_zs_size.other W8 (Or.inl ne_zs_zarr)
  have K := K.wr W8 (Or.inl (List.mem_of_getElem? (i := 1) rfl))
  have Zs := Nat.le_trans Zs (Keep.of_wr W8).1
  have V_zarr := V8
  refine own_go (B := T8.setTop (mkF m 39 #[.val (.ref zs), .val (.int zx)] [])) (fun t k => st8 _ k) ?_
  refine own_go (B := T8.setTop (mkF m 40 #[.val (.ref zs), .val (.int zx)] [(.ref zs)])) (fun t k => XS.aloadN X8.here hx rfl (Jvm.hb hby d6_39) rfl rfl k) ?_
  refine own_go (B := T8.setTop (mkF m 41 #[.val (.ref zs), .val (.int zx)] [(.ref zs), (.ref zs)])) (fun t k => XS.dup X8.here hx rfl (Jvm.hb hby d6_40) rfl rfl k) ?_
  obtain ⟨T9, X9, e9, st9⟩ := getF X8 hx hZ hown (host := "") (Or.inl (own_w hw 46 rfl)) Via.refl e8 F_zs_size (g := (mkF m 41 #[.val (.ref zs), .val (.int zx)] [(.ref zs), (.ref zs)])) rfl rfl (Jvm.hb hby d6_41)
  refine own_go (B := T9.setTop (mkF m 44 #[.val (.ref zs), .val (.int zx)] [(.int zn), (.ref zs)])) (fun t k => st9 _ k) ?_
  refine own_go (B := T9.setTop (mkF m 45 #[.val (.ref zs), .val (.int zx)] [(.int (1 : Int32)), (.int zn), (.ref zs)])) (fun t k => XS.iconst X9.here hx rfl (Jvm.hb hby d6_44) k) ?_
  refine own_go (B := T9.setTop (mkF m 46 #[.val (.ref zs), .val (.int zx)] [(.int (zn + (1 : Int32))), (.ref zs)])) (fun t k => XS.iadd X9.here hx rfl (Jvm.hb hby d6_45) rfl k) ?_
  obtain ⟨T10, h10, X10, e10, W10, st10⟩ := putF X9 hx hZ hown (host := "") (Or.inl (own_w hw 46 rfl)) Via.refl e9 F_zs_size E_zs (Or.inl (own_w hw 47 rfl)) (own_w hw 19 rfl) (ty := .int) (by decide) rfl rfl (g := (mkF m 46 #[.val (.ref zs), .val (.int zx)] [(.int (zn + (1 : Int32))), (.ref zs)])) rfl rfl (Jvm.hb hby d6_46)
  have N10 := Fr.snoc X10 N8 g_zs
  have E_zs := E_zs.wr W10
  have F_zs_items := F_zs_items.other W10 (Or.inr (slot_ne (Or.inl (own_w hw 26 rfl)) (Or.inl (own_w hw 47 rfl)) (by decide) (t := (.array .int)) (t' := .int) (by decide) (by decide)))
  have F_zs_size := F_zs_size.same W10
  have V_zarr := V_zarr.other W10 (Ne.symm ne_zs_zarr)
  have K := K.wr W10 (Or.inl (List.mem_of_getElem? (i := 0) rfl))
  have Zs := Nat.le_trans Zs (Keep.of_wr W10).1
  refine own_go (B := T10.setTop (mkF m 49 #[.val (.ref zs), .val (.int zx)] [])) (fun t k => st10 _ k) ?_
  refine own_out X10 (v := none) (fun _ => rfl) Bd.notSynchronized (fun fs hr => X10.returnOut hx Bd.returns (Jvm.hb hby d6_49) hr) ?_ (by decide) (by decide)
  show own_Q6 Z zs zx zarr zn zm zk zf h0 n0 none T10.heap _
  rw [e10]
  exact ⟨rfl, N10, K, E_zs, F_zs_items, (by rw [← hk2]; exact F_zs_size), V_zarr⟩
theorem d12_0 : decode prog_12_method_3_code 0 = .ok (.aload_n 0, 1) := by decide +kernel
theorem d12_1 : decode prog_12_method_3_code 1 = .ok (.dup, 1) := by decide +kernel
theorem d12_2 : decode prog_12_method_3_code 2 = .ok (.getfield 13, 3) := by decide +kernel
theorem d12_5 : decode prog_12_method_3_code 5 = .ok (.iconst 1, 1) := by decide +kernel
theorem d12_6 : decode prog_12_method_3_code 6 = .ok (.isub, 1) := by decide +kernel
theorem d12_7 : decode prog_12_method_3_code 7 = .ok (.putfield 13, 3) := by decide +kernel
theorem d12_10 : decode prog_12_method_3_code 10 = .ok (.aload_n 0, 1) := by decide +kernel
theorem d12_11 : decode prog_12_method_3_code 11 = .ok (.getfield 7, 3) := by decide +kernel
theorem d12_14 : decode prog_12_method_3_code 14 = .ok (.aload_n 0, 1) := by decide +kernel
theorem d12_15 : decode prog_12_method_3_code 15 = .ok (.getfield 13, 3) := by decide +kernel
theorem d12_18 : decode prog_12_method_3_code 18 = .ok (.iaload, 1) := by decide +kernel
theorem d12_19 : decode prog_12_method_3_code 19 = .ok (.ireturn, 1) := by decide +kernel
theorem ef_12 (m : MethodId) (x0 : Addr) : entryFrame m #[(.ref x0)] 1 = mkF m 0 #[.val (.ref x0)] [] := by first | (simp [entryFrame, mkF, argsToLocals, Value.category]; done) | rfl
def own_Q12 (Z : State) (zs : Addr) (zarr : Addr) (zn : Int32) (zm : Int32) (zk : Nat) (zf : Nat → Int32) (h0 : Heap) (n0 : Nat) (v : Option Value) (h : Heap) (L : List Loc) : Prop := v = some (.int (zf zk)) ∧ Fr n0 L ∧ Keep h0 h [zs] ∧ Exa Z h zs "com/example/term_unifier/termunifier/IntStack" ∧ Fld Z h zs "com/example/term_unifier/termunifier/IntStack" "items" "[I" (.ref zarr) ∧ Fld Z h zs "com/example/term_unifier/termunifier/IntStack" "size" "I" (.int zm) ∧ own_IA Z h zarr .int 16 zf
set_option maxRecDepth 65536 in
set_option maxHeartbeats 40000000 in
theorem rm12 (l : Launch) (Z : State) (a0 : Array Value) (hw : ∀ d ∈ tables_1, d.before a0 Z = true) (ws : List Jvm.Cond) (zs : Addr) (zarr : Addr) (zn : Int32) (zm : Int32) (zk : Nat) (zf : Nat → Int32) (h0 : Heap) (n0 : Nat) (Z0 : n0 ≤ h0.size) (E_zs : Exa Z h0 zs "com/example/term_unifier/termunifier/IntStack") (F_zs_items : Fld Z h0 zs "com/example/term_unifier/termunifier/IntStack" "items" "[I" (.ref zarr)) (F_zs_size : Fld Z h0 zs "com/example/term_unifier/termunifier/IntStack" "size" "I" (.int zn)) (V_zarr : own_IA Z h0 zarr .int 16 zf) (g_zs : n0 ≤ zs) (ne_zs_zarr : zs ≠ zarr) (hk2 : (zn - (1 : Int32)) = zm) (hk0 : ¬ (zm < 0)) (hk : zm.toNatClampNeg = zk) (hk1 : zk < 16) :
    MetFree l (⟨"com/example/term_unifier/termunifier/IntStack", "pop", "()I"⟩ : MethodName) (head1 (Jvm.Cond.code (⟨"com/example/term_unifier/termunifier/IntStack", "pop", "()I"⟩ : MethodName) prog_12_method_3_code 1 (some .int) :: ws) ({ frames := 0, cells := 0, slots := 0, locals := 0 } : Room)) (fun a U => a = #[(.ref zs)] ∧ Z.Warmed39 U.vm ∧ U.heap = h0) (fun _ _ _ _ _ => True) (fun _ U o U' => ∃ v L, o = .returned v ∧ own_Q12 Z zs zarr zn zm zk zf h0 n0 v U'.heap L ∧ FrameEnd U o U' L ({ frames := 0, cells := 0, slots := 0, locals := 0 } : Room).cells ({ frames := 0, cells := 0, slots := 0, locals := 0 } : Room).slots) := by
  refine MetFree.of_bodySF (plainFor_of_name pn_com_example_term_unifier_termunifier_IntStack) hisR ?_
  intro p e s m args below meth c s₁ Bd hml0 hP hK
  obtain ⟨rfl, hZ, hh⟩ := hP
  have hx := Bd.exec
  have hby := Bd.bytes
  have hml : c.maxLocals = 1 := hml0
  have hown : s.vm.findClass "com/example/term_unifier/termunifier/IntStack" = some m.cls := findClass_of_methodNamed Bd.named
  have hnm := (name_of_methodNamed Bd.named Bd.method).1
  have X0 : Stand p l e ({ frames := 0, cells := 0, slots := 0, locals := 0 } : Room) s m #[(.ref zs)] below meth c s₁ [] 0 0 := Stand.of_body Bd
  have e0 : s₁.heap = h0 := by rw [← hh, Bd.state]; rfl
  have N0 := Fr.nil n0
  have Zs := Z0
  have K : Keep h0 h0 [zs] := Keep.refl _ _
  show own_Goes p e below s (own_Q12 Z zs zarr zn zm zk zf h0 n0) ({ frames := 0, cells := 0, slots := 0, locals := 0 } : Room).cells ({ frames := 0, cells := 0, slots := 0, locals := 0 } : Room).slots _
  refine own_go (B := s₁.setTop (mkF m 0 #[.val (.ref zs)] [])) (fun t k => castTop (ef_12 m zs) k) ?_
  refine own_go (B := s₁.setTop (mkF m 1 #[.val (.ref zs)] [(.ref zs)])) (fun t k => XS.aloadN X0.here hx rfl (Jvm.hb hby d12_0) rfl rfl k) ?_
  refine own_go (B := s₁.setTop (mkF m 2 #[.val (.ref zs)] [(.ref zs), (.ref zs)])) (fun t k => XS.dup X0.here hx rfl (Jvm.hb hby d12_1) rfl rfl k) ?_
  obtain ⟨T11, X11, e11, st11⟩ := getF X0 hx hZ hown (host := "") (Or.inl (own_w hw 46 rfl)) Via.refl e0 F_zs_size (g := (mkF m 2 #[.val (.ref zs)] [(.ref zs), (.ref zs)])) rfl rfl (Jvm.hb hby d12_2)
  refine own_go (B := T11.setTop (mkF m 5 #[.val (.ref zs)] [(.int zn), (.ref zs)])) (fun t k => st11 _ k) ?_
  refine own_go (B := T11.setTop (mkF m 6 #[.val (.ref zs)] [(.int (1 : Int32)), (.int zn), (.ref zs)])) (fun t k => XS.iconst X11.here hx rfl (Jvm.hb hby d12_5) k) ?_
  refine own_go (B := T11.setTop (mkF m 7 #[.val (.ref zs)] [(.int (zn - (1 : Int32))), (.ref zs)])) (fun t k => XS.isub X11.here hx rfl (Jvm.hb hby d12_6) rfl k) ?_
  obtain ⟨T12, h12, X12, e12, W12, st12⟩ := putF X11 hx hZ hown (host := "") (Or.inl (own_w hw 46 rfl)) Via.refl e11 F_zs_size E_zs (Or.inl (own_w hw 47 rfl)) (own_w hw 19 rfl) (ty := .int) (by decide) rfl rfl (g := (mkF m 7 #[.val (.ref zs)] [(.int (zn - (1 : Int32))), (.ref zs)])) rfl rfl (Jvm.hb hby d12_7)
  have N12 := Fr.snoc X12 N0 g_zs
  have E_zs := E_zs.wr W12
  have F_zs_items := F_zs_items.other W12 (Or.inr (slot_ne (Or.inl (own_w hw 26 rfl)) (Or.inl (own_w hw 47 rfl)) (by decide) (t := (.array .int)) (t' := .int) (by decide) (by decide)))
  have F_zs_size := F_zs_size.same W12
  have V_zarr := V_zarr.other W12 (Ne.symm ne_zs_zarr)
  have K := K.wr W12 (Or.inl (List.mem_of_getElem? (i := 0) rfl))
  have Zs := Nat.le_trans Zs (Keep.of_wr W12).1
  refine own_go (B := T12.setTop (mkF m 10 #[.val (.ref zs)] [])) (fun t k => st12 _ k) ?_
  refine own_go (B := T12.setTop (mkF m 11 #[.val (.ref zs)] [(.ref zs)])) (fun t k => XS.aloadN X12.here hx rfl (Jvm.hb hby d12_10) rfl rfl k) ?_
  obtain ⟨T13, X13, e13, st13⟩ := getF X12 hx hZ hown (host := "") (Or.inl (own_w hw 25 rfl)) Via.refl e12 F_zs_items (g := (mkF m 11 #[.val (.ref zs)] [(.ref zs)])) rfl rfl (Jvm.hb hby d12_11)
  refine own_go (B := T13.setTop (mkF m 14 #[.val (.ref zs)] [(.ref zarr)])) (fun t k => st13 _ k) ?_
  refine own_go (B := T13.setTop (mkF m 15 #[.val (.ref zs)] [(.ref zs), (.ref zarr)])) (fun t k => XS.aloadN X13.here hx rfl (Jvm.hb hby d12_14) rfl rfl k) ?_
  obtain ⟨T14, X14, e14, st14⟩ := getF X13 hx hZ hown (host := "") (Or.inl (own_w hw 46 rfl)) Via.refl e13 F_zs_size (g := (mkF m 15 #[.val (.ref zs)] [(.ref zs), (.ref zarr)])) rfl rfl (Jvm.hb hby d12_15)
  refine own_go (B := T14.setTop (mkF m 18 #[.val (.ref zs)] [(.int (zn - (1 : Int32))), (.ref zarr)])) (fun t k => st14 _ k) ?_
  refine own_go (B := T14.setTop (mkF m 19 #[.val (.ref zs)] [(.int (zf zk))])) (fun t k => own_iaload X14 hx hZ e14 V_zarr (j := (zn - (1 : Int32))) (k := zk) (by rw [hk2]; exact hk0) (by rw [hk2]; exact hk) hk1 (Jvm.hb hby d12_18) t k) ?_
  refine own_out X14 (v := (some (.int (zf zk)))) (fun h => by rw [Bd.returns] at h; cases h) Bd.notSynchronized (fun fs hr => retOut X14 hx (t := .int) Bd.returns rfl (Or.inl ⟨rfl, Or.inl rfl, _, rfl⟩) (Jvm.hb hby d12_19) hr) ?_ (by decide) (by decide)
  show own_Q12 Z zs zarr zn zm zk zf h0 n0 (some (.int (zf zk))) T14.heap _
  rw [e14]
  exact ⟨rfl, N12, K, E_zs, F_zs_items, (by rw [← hk2]; exact F_zs_size), V_zarr⟩
theorem pn_com_example_term_unifier_termunifier_IntPairStack : plainName "com/example/term_unifier/termunifier/IntPairStack" = true := by first | (simp [plainName, overriddenIn]; done) | decide +kernel
theorem d1_0 : decode prog_10_method_1_code 0 = .ok (.aload_n 0, 1) := by decide +kernel
theorem d1_1 : decode prog_10_method_1_code 1 = .ok (.invokespecial 1, 3) := by decide +kernel
theorem d1_4 : decode prog_10_method_1_code 4 = .ok (.aload_n 0, 1) := by decide +kernel
theorem d1_5 : decode prog_10_method_1_code 5 = .ok (.bipush 16, 2) := by decide +kernel
theorem d1_7 : decode prog_10_method_1_code 7 = .ok (.newarray .int, 2) := by decide +kernel
theorem d1_9 : decode prog_10_method_1_code 9 = .ok (.putfield 7, 3) := by decide +kernel
theorem d1_12 : decode prog_10_method_1_code 12 = .ok (.aload_n 0, 1) := by decide +kernel
theorem d1_13 : decode prog_10_method_1_code 13 = .ok (.bipush 16, 2) := by decide +kernel
theorem d1_15 : decode prog_10_method_1_code 15 = .ok (.newarray .int, 2) := by decide +kernel
theorem d1_17 : decode prog_10_method_1_code 17 = .ok (.putfield 13, 3) := by decide +kernel
theorem d1_20 : decode prog_10_method_1_code 20 = .ok (.aload_n 0, 1) := by decide +kernel
theorem d1_21 : decode prog_10_method_1_code 21 = .ok (.bipush 16, 2) := by decide +kernel
theorem d1_23 : decode prog_10_method_1_code 23 = .ok (.newarray .int, 2) := by decide +kernel
theorem d1_25 : decode prog_10_method_1_code 25 = .ok (.putfield 16, 3) := by decide +kernel
theorem d1_28 : decode prog_10_method_1_code 28 = .ok (.aload_n 0, 1) := by decide +kernel
theorem d1_29 : decode prog_10_method_1_code 29 = .ok (.iconst (-1), 1) := by decide +kernel
theorem d1_30 : decode prog_10_method_1_code 30 = .ok (.putfield 19, 3) := by decide +kernel
theorem d1_33 : decode prog_10_method_1_code 33 = .ok (.aload_n 0, 1) := by decide +kernel
theorem d1_34 : decode prog_10_method_1_code 34 = .ok (.new 23, 3) := by decide +kernel
theorem d1_37 : decode prog_10_method_1_code 37 = .ok (.dup, 1) := by decide +kernel
theorem d1_38 : decode prog_10_method_1_code 38 = .ok (.invokespecial 25, 3) := by decide +kernel
theorem d1_41 : decode prog_10_method_1_code 41 = .ok (.putfield 26, 3) := by decide +kernel
theorem d1_44 : decode prog_10_method_1_code 44 = .ok (.return_, 1) := by decide +kernel
theorem pd_0 : parseMethodDescriptor "()V" = some ⟨[], none⟩ := by decide +kernel
theorem ef_1 (m : MethodId) (x0 : Addr) : entryFrame m #[(.ref x0)] 1 = mkF m 0 #[.val (.ref x0)] [] := by first | (simp [entryFrame, mkF, argsToLocals, Value.category]; done) | rfl
def own_Q1 (Z : State) (zp : Addr) (h0 : Heap) (n0 : Nat) (v : Option Value) (h : Heap) (L : List Loc) : Prop := v = none ∧ Fr n0 L ∧ ∃ z1 : Addr, h0.size ≤ z1 ∧ ∃ z2 : Addr, h0.size ≤ z2 ∧ ∃ z3 : Addr, h0.size ≤ z3 ∧ ∃ zm : Addr, h0.size ≤ zm ∧ ∃ zq : Addr, h0.size ≤ zq ∧ z1 ≠ z2 ∧ z1 ≠ z3 ∧ z1 ≠ zm ∧ z1 ≠ zq ∧ z2 ≠ z3 ∧ z2 ≠ zm ∧ z2 ≠ zq ∧ z3 ≠ zm ∧ z3 ≠ zq ∧ zm ≠ zq ∧ Keep h0 h [zp] ∧ Exa Z h zp "com/example/term_unifier/termunifier/IntPairStack" ∧ Fld Z h zp "com/example/term_unifier/termunifier/IntPairStack" "firsts" "[I" (.ref z1) ∧ Fld Z h zp "com/example/term_unifier/termunifier/IntPairStack" "seconds" "[I" (.ref z2) ∧ Fld Z h zp "com/example/term_unifier/termunifier/IntPairStack" "below" "[I" (.ref z3) ∧ Fld Z h zp "com/example/term_unifier/termunifier/IntPairStack" "top" "I" (.int (-1 : Int32)) ∧ Fld Z h zp "com/example/term_unifier/termunifier/IntPairStack" "used" "I" (.int (0 : Int32)) ∧ Fld Z h zp "com/example/term_unifier/termunifier/IntPairStack" "kept" "I" (.int (0 : Int32)) ∧ Fld Z h zp "com/example/term_unifier/termunifier/IntPairStack" "marks" "Lcom/example/term_unifier/termunifier/IntStack;" (.ref zm) ∧ own_IA Z h z1 .int 16 (fun _ => 0) ∧ own_IA Z h z2 .int 16 (fun _ => 0) ∧ own_IA Z h z3 .int 16 (fun _ => 0) ∧ Exa Z h zm "com/example/term_unifier/termunifier/IntStack" ∧ Fld Z h zm "com/example/term_unifier/termunifier/IntStack" "items" "[I" (.ref zq) ∧ Fld Z h zm "com/example/term_unifier/termunifier/IntStack" "size" "I" (.int (0 : Int32)) ∧ own_IA Z h zq .int 16 (fun _ => 0)
set_option maxRecDepth 65536 in
set_option maxHeartbeats 40000000 in
theorem rm1 (l : Launch) (Z : State) (a0 : Array Value) (hw : ∀ d ∈ tables_1, d.before a0 Z = true) (ws : List Jvm.Cond) (zp : Addr) (h0 : Heap) (n0 : Nat) (Z0 : n0 ≤ h0.size) (E_zp : Exa Z h0 zp "com/example/term_unifier/termunifier/IntPairStack") (F_zp_firsts : Fld Z h0 zp "com/example/term_unifier/termunifier/IntPairStack" "firsts" "[I" .null) (F_zp_seconds : Fld Z h0 zp "com/example/term_unifier/termunifier/IntPairStack" "seconds" "[I" .null) (F_zp_below : Fld Z h0 zp "com/example/term_unifier/termunifier/IntPairStack" "below" "[I" .null) (F_zp_top : Fld Z h0 zp "com/example/term_unifier/termunifier/IntPairStack" "top" "I" (.int (0 : Int32))) (F_zp_used : Fld Z h0 zp "com/example/term_unifier/termunifier/IntPairStack" "used" "I" (.int (0 : Int32))) (F_zp_kept : Fld Z h0 zp "com/example/term_unifier/termunifier/IntPairStack" "kept" "I" (.int (0 : Int32))) (F_zp_marks : Fld Z h0 zp "com/example/term_unifier/termunifier/IntPairStack" "marks" "Lcom/example/term_unifier/termunifier/IntStack;" .null) (g_zp : n0 ≤ zp) :
    MetFree l (⟨"com/example/term_unifier/termunifier/IntPairStack", "<init>", "()V"⟩ : MethodName) (head1 (Jvm.Cond.code (⟨"com/example/term_unifier/termunifier/IntPairStack", "<init>", "()V"⟩ : MethodName) prog_10_method_1_code 1 none :: ws) ({ frames := 2, cells := 5, slots := 66, locals := 26 } : Room)) (fun a U => a = #[(.ref zp)] ∧ Z.Warmed39 U.vm ∧ U.heap = h0) (fun _ _ _ _ _ => True) (fun _ U o U' => ∃ v L, o = .returned v ∧ own_Q1 Z zp h0 n0 v U'.heap L ∧ FrameEnd U o U' L ({ frames := 2, cells := 5, slots := 66, locals := 26 } : Room).cells ({ frames := 2, cells := 5, slots := 66, locals := 26 } : Room).slots) := by
  refine MetFree.of_bodySF (plainFor_of_name pn_com_example_term_unifier_termunifier_IntPairStack) hisR ?_
  intro p e s m args below meth c s₁ Bd hml0 hP hK
  obtain ⟨rfl, hZ, hh⟩ := hP
  have hx := Bd.exec
  have hby := Bd.bytes
  have hml : c.maxLocals = 1 := hml0
  have hown : s.vm.findClass "com/example/term_unifier/termunifier/IntPairStack" = some m.cls := findClass_of_methodNamed Bd.named
  have hnm := (name_of_methodNamed Bd.named Bd.method).1
  have X0 : Stand p l e ({ frames := 2, cells := 5, slots := 66, locals := 26 } : Room) s m #[(.ref zp)] below meth c s₁ [] 0 0 := Stand.of_body Bd
  have e0 : s₁.heap = h0 := by rw [← hh, Bd.state]; rfl
  have N0 := Fr.nil n0
  have Zs := Z0
  have K : Keep h0 h0 [zp] := Keep.refl _ _
  show own_Goes p e below s (own_Q1 Z zp h0 n0) ({ frames := 2, cells := 5, slots := 66, locals := 26 } : Room).cells ({ frames := 2, cells := 5, slots := 66, locals := 26 } : Room).slots _
  refine own_go (B := s₁.setTop (mkF m 0 #[.val (.ref zp)] [])) (fun t k => castTop (ef_1 m zp) k) ?_
  refine own_go (B := s₁.setTop (mkF m 1 #[.val (.ref zp)] [(.ref zp)])) (fun t k => XS.aloadN X0.here hx rfl (Jvm.hb hby d1_0) rfl rfl k) ?_
  obtain ⟨T15, X15, e15, st15⟩ := initO X0 hx hZ hown (own_w hw 6 rfl) (own_w hw 7 rfl) (own_w hw 8 rfl) e0 (g := (mkF m 1 #[.val (.ref zp)] [(.ref zp)])) rfl (by rw [hml]; rfl) rfl (Jvm.hb hby d1_1) (by decide) (W := 0) (by show 2 * 0 + _ ≤ _; exact Nat.le_of_eq rfl) (by decide)
  refine own_go (B := T15.setTop (mkF m 4 #[.val (.ref zp)] [])) (fun t k => st15 _ k) ?_
  refine own_go (B := T15.setTop (mkF m 5 #[.val (.ref zp)] [(.ref zp)])) (fun t k => XS.aloadN X15.here hx rfl (Jvm.hb hby d1_4) rfl rfl k) ?_
  refine own_go (B := T15.setTop (mkF m 7 #[.val (.ref zp)] [(.int (16 : Int32)), (.ref zp)])) (fun t k => XS.bipush X15.here hx rfl (Jvm.hb hby d1_5) k) ?_
  obtain ⟨T16, h16, k16, X16, e16, E16, A16, st16⟩ := newP X15 hx hZ (own_w hw 9 rfl) e15 (g := (mkF m 7 #[.val (.ref zp)] [(.int (16 : Int32)), (.ref zp)])) rfl (Jvm.hb hby d1_7) rfl (by decide) (cap := 16) (by decide) (by decide) (by decide) (by decide)
  obtain ⟨b16, g16⟩ : ∃ z, z = h0.size := ⟨_, rfl⟩
  rw [← g16] at A16 st16
  have ne_zp_b16 : zp ≠ b16 := Nat.ne_of_lt (Nat.lt_of_lt_of_le E_zp.lt (Nat.le_of_eq g16.symm))
  have g_b16 : n0 ≤ b16 := Nat.le_trans Zs (Nat.le_of_eq g16.symm)
  have sz_b16 : h0.size ≤ b16 := Nat.le_trans K.1 (Nat.le_of_eq g16.symm)
  have E_zp := E_zp.ext E16
  have F_zp_firsts := F_zp_firsts.ext E16
  have F_zp_seconds := F_zp_seconds.ext E16
  have F_zp_below := F_zp_below.ext E16
  have F_zp_top := F_zp_top.ext E16
  have F_zp_used := F_zp_used.ext E16
  have F_zp_kept := F_zp_kept.ext E16
  have F_zp_marks := F_zp_marks.ext E16
  have K := K.ext E16
  have Zs := Nat.le_trans Zs E16.1
  have V_b16 : own_IA Z h16 b16 .int 16 (fun _ => 0) := own_Inew A16 (by decide) rfl
  refine own_go (B := T16.setTop (mkF m 9 #[.val (.ref zp)] [(.ref b16), (.ref zp)])) (fun t k => st16 _ k) ?_
  obtain ⟨T17, h17, X17, e17, W17, st17⟩ := putF X16 hx hZ hown (host := "") (Or.inl (own_w hw 10 rfl)) Via.refl e16 F_zp_firsts E_zp (Or.inl (own_w hw 11 rfl)) (own_w hw 1 rfl) (ty := (.array .int)) (by decide) rfl rfl (g := (mkF m 9 #[.val (.ref zp)] [(.ref b16), (.ref zp)])) rfl rfl (Jvm.hb hby d1_9)
  have N17 := Fr.snoc X17 N0 g_zp
  have E_zp := E_zp.wr W17
  have F_zp_firsts := F_zp_firsts.same W17
  have F_zp_seconds := F_zp_seconds.other W17 (Or.inr (slot_ne (Or.inl (own_w hw 13 rfl)) (Or.inl (own_w hw 11 rfl)) (by decide) (t := (.array .int)) (t' := (.array .int)) (by decide) (by decide)))
  have F_zp_below := F_zp_below.other W17 (Or.inr (slot_ne (Or.inl (own_w hw 15 rfl)) (Or.inl (own_w hw 11 rfl)) (by decide) (t := (.array .int)) (t' := (.array .int)) (by decide) (by decide)))
  have F_zp_top := F_zp_top.other W17 (Or.inr (slot_ne (Or.inl (own_w hw 17 rfl)) (Or.inl (own_w hw 11 rfl)) (by decide) (t := .int) (t' := (.array .int)) (by decide) (by decide)))
  have F_zp_used := F_zp_used.other W17 (Or.inr (slot_ne (Or.inl (own_w hw 35 rfl)) (Or.inl (own_w hw 11 rfl)) (by decide) (t := .int) (t' := (.array .int)) (by decide) (by decide)))
  have F_zp_kept := F_zp_kept.other W17 (Or.inr (slot_ne (Or.inl (own_w hw 49 rfl)) (Or.inl (own_w hw 11 rfl)) (by decide) (t := .int) (t' := (.array .int)) (by decide) (by decide)))
  have F_zp_marks := F_zp_marks.other W17 (Or.inr (slot_ne (Or.inr (own_w hw 28 rfl)) (Or.inl (own_w hw 11 rfl)) (by decide) (t := (.object "com/example/term_unifier/termunifier/IntStack")) (t' := (.array .int)) (by decide) (by decide)))
  have V_b16 := V_b16.other W17 (Ne.symm ne_zp_b16)
  have K := K.wr W17 (Or.inl (List.mem_of_getElem? (i := 0) rfl))
  have Zs := Nat.le_trans Zs (Keep.of_wr W17).1
  refine own_go (B := T17.setTop (mkF m 12 #[.val (.ref zp)] [])) (fun t k => st17 _ k) ?_
  refine own_go (B := T17.setTop (mkF m 13 #[.val (.ref zp)] [(.ref zp)])) (fun t k => XS.aloadN X17.here hx rfl (Jvm.hb hby d1_12) rfl rfl k) ?_
  refine own_go (B := T17.setTop (mkF m 15 #[.val (.ref zp)] [(.int (16 : Int32)), (.ref zp)])) (fun t k => XS.bipush X17.here hx rfl (Jvm.hb hby d1_13) k) ?_
  obtain ⟨T18, h18, k18, X18, e18, E18, A18, st18⟩ := newP X17 hx hZ (own_w hw 9 rfl) e17 (g := (mkF m 15 #[.val (.ref zp)] [(.int (16 : Int32)), (.ref zp)])) rfl (Jvm.hb hby d1_15) rfl (by decide) (cap := 16) (by decide) (by decide) (by decide) (by decide)
  obtain ⟨b18, g18⟩ : ∃ z, z = h17.size := ⟨_, rfl⟩
  rw [← g18] at A18 st18
  have ne_zp_b18 : zp ≠ b18 := Nat.ne_of_lt (Nat.lt_of_lt_of_le E_zp.lt (Nat.le_of_eq g18.symm))
  have ne_b16_b18 : b16 ≠ b18 := Nat.ne_of_lt (Nat.lt_of_lt_of_le V_b16.lt (Nat.le_of_eq g18.symm))
  have g_b18 : n0 ≤ b18 := Nat.le_trans Zs (Nat.le_of_eq g18.symm)
  have sz_b18 : h0.size ≤ b18 := Nat.le_trans K.1 (Nat.le_of_eq g18.symm)
  have E_zp := E_zp.ext E18
  have F_zp_firsts := F_zp_firsts.ext E18
  have F_zp_seconds := F_zp_seconds.ext E18
  have F_zp_below := F_zp_below.ext E18
  have F_zp_top := F_zp_top.ext E18
  have F_zp_used := F_zp_used.ext E18
  have F_zp_kept := F_zp_kept.ext E18
  have F_zp_marks := F_zp_marks.ext E18
  have V_b16 := V_b16.ext E18
  have K := K.ext E18
  have Zs := Nat.le_trans Zs E18.1
  have V_b18 : own_IA Z h18 b18 .int 16 (fun _ => 0) := own_Inew A18 (by decide) rfl
  refine own_go (B := T18.setTop (mkF m 17 #[.val (.ref zp)] [(.ref b18), (.ref zp)])) (fun t k => st18 _ k) ?_
  obtain ⟨T19, h19, X19, e19, W19, st19⟩ := putF X18 hx hZ hown (host := "") (Or.inl (own_w hw 12 rfl)) Via.refl e18 F_zp_seconds E_zp (Or.inl (own_w hw 13 rfl)) (own_w hw 1 rfl) (ty := (.array .int)) (by decide) rfl rfl (g := (mkF m 17 #[.val (.ref zp)] [(.ref b18), (.ref zp)])) rfl rfl (Jvm.hb hby d1_17)
  have N19 := Fr.snoc X19 N17 g_zp
  have E_zp := E_zp.wr W19
  have F_zp_firsts := F_zp_firsts.other W19 (Or.inr (slot_ne (Or.inl (own_w hw 11 rfl)) (Or.inl (own_w hw 13 rfl)) (by decide) (t := (.array .int)) (t' := (.array .int)) (by decide) (by decide)))
  have F_zp_seconds := F_zp_seconds.same W19
  have F_zp_below := F_zp_below.other W19 (Or.inr (slot_ne (Or.inl (own_w hw 15 rfl)) (Or.inl (own_w hw 13 rfl)) (by decide) (t := (.array .int)) (t' := (.array .int)) (by decide) (by decide)))
  have F_zp_top := F_zp_top.other W19 (Or.inr (slot_ne (Or.inl (own_w hw 17 rfl)) (Or.inl (own_w hw 13 rfl)) (by decide) (t := .int) (t' := (.array .int)) (by decide) (by decide)))
  have F_zp_used := F_zp_used.other W19 (Or.inr (slot_ne (Or.inl (own_w hw 35 rfl)) (Or.inl (own_w hw 13 rfl)) (by decide) (t := .int) (t' := (.array .int)) (by decide) (by decide)))
  have F_zp_kept := F_zp_kept.other W19 (Or.inr (slot_ne (Or.inl (own_w hw 49 rfl)) (Or.inl (own_w hw 13 rfl)) (by decide) (t := .int) (t' := (.array .int)) (by decide) (by decide)))
  have F_zp_marks := F_zp_marks.other W19 (Or.inr (slot_ne (Or.inr (own_w hw 28 rfl)) (Or.inl (own_w hw 13 rfl)) (by decide) (t := (.object "com/example/term_unifier/termunifier/IntStack")) (t' := (.array .int)) (by decide) (by decide)))
  have V_b16 := V_b16.other W19 (Ne.symm ne_zp_b16)
  have V_b18 := V_b18.other W19 (Ne.symm ne_zp_b18)
  have K := K.wr W19 (Or.inl (List.mem_of_getElem? (i := 0) rfl))
  have Zs := Nat.le_trans Zs (Keep.of_wr W19).1
  refine own_go (B := T19.setTop (mkF m 20 #[.val (.ref zp)] [])) (fun t k => st19 _ k) ?_
  refine own_go (B := T19.setTop (mkF m 21 #[.val (.ref zp)] [(.ref zp)])) (fun t k => XS.aloadN X19.here hx rfl (Jvm.hb hby d1_20) rfl rfl k) ?_
  refine own_go (B := T19.setTop (mkF m 23 #[.val (.ref zp)] [(.int (16 : Int32)), (.ref zp)])) (fun t k => XS.bipush X19.here hx rfl (Jvm.hb hby d1_21) k) ?_
  obtain ⟨T20, h20, k20, X20, e20, E20, A20, st20⟩ := newP X19 hx hZ (own_w hw 9 rfl) e19 (g := (mkF m 23 #[.val (.ref zp)] [(.int (16 : Int32)), (.ref zp)])) rfl (Jvm.hb hby d1_23) rfl (by decide) (cap := 16) (by decide) (by decide) (by decide) (by decide)
  obtain ⟨b20, g20⟩ : ∃ z, z = h19.size := ⟨_, rfl⟩
  rw [← g20] at A20 st20
  have ne_zp_b20 : zp ≠ b20 := Nat.ne_of_lt (Nat.lt_of_lt_of_le E_zp.lt (Nat.le_of_eq g20.symm))
  have ne_b16_b20 : b16 ≠ b20 := Nat.ne_of_lt (Nat.lt_of_lt_of_le V_b16.lt (Nat.le_of_eq g20.symm))
  have ne_b18_b20 : b18 ≠ b20 := Nat.ne_of_lt (Nat.lt_of_lt_of_le V_b18.lt (Nat.le_of_eq g20.symm))
  have g_b20 : n0 ≤ b20 := Nat.le_trans Zs (Nat.le_of_eq g20.symm)
  have sz_b20 : h0.size ≤ b20 := Nat.le_trans K.1 (Nat.le_of_eq g20.symm)
  have E_zp := E_zp.ext E20
  have F_zp_firsts := F_zp_firsts.ext E20
  have F_zp_seconds := F_zp_seconds.ext E20
  have F_zp_below := F_zp_below.ext E20
  have F_zp_top := F_zp_top.ext E20
  have F_zp_used := F_zp_used.ext E20
  have F_zp_kept := F_zp_kept.ext E20
  have F_zp_marks := F_zp_marks.ext E20
  have V_b16 := V_b16.ext E20
  have V_b18 := V_b18.ext E20
  have K := K.ext E20
  have Zs := Nat.le_trans Zs E20.1
  have V_b20 : own_IA Z h20 b20 .int 16 (fun _ => 0) := own_Inew A20 (by decide) rfl
  refine own_go (B := T20.setTop (mkF m 25 #[.val (.ref zp)] [(.ref b20), (.ref zp)])) (fun t k => st20 _ k) ?_
  obtain ⟨T21, h21, X21, e21, W21, st21⟩ := putF X20 hx hZ hown (host := "") (Or.inl (own_w hw 14 rfl)) Via.refl e20 F_zp_below E_zp (Or.inl (own_w hw 15 rfl)) (own_w hw 1 rfl) (ty := (.array .int)) (by decide) rfl rfl (g := (mkF m 25 #[.val (.ref zp)] [(.ref b20), (.ref zp)])) rfl rfl (Jvm.hb hby d1_25)
  have N21 := Fr.snoc X21 N19 g_zp
  have E_zp := E_zp.wr W21
  have F_zp_firsts := F_zp_firsts.other W21 (Or.inr (slot_ne (Or.inl (own_w hw 11 rfl)) (Or.inl (own_w hw 15 rfl)) (by decide) (t := (.array .int)) (t' := (.array .int)) (by decide) (by decide)))
  have F_zp_seconds := F_zp_seconds.other W21 (Or.inr (slot_ne (Or.inl (own_w hw 13 rfl)) (Or.inl (own_w hw 15 rfl)) (by decide) (t := (.array .int)) (t' := (.array .int)) (by decide) (by decide)))
  have F_zp_below := F_zp_below.same W21
  have F_zp_top := F_zp_top.other W21 (Or.inr (slot_ne (Or.inl (own_w hw 17 rfl)) (Or.inl (own_w hw 15 rfl)) (by decide) (t := .int) (t' := (.array .int)) (by decide) (by decide)))
  have F_zp_used := F_zp_used.other W21 (Or.inr (slot_ne (Or.inl (own_w hw 35 rfl)) (Or.inl (own_w hw 15 rfl)) (by decide) (t := .int) (t' := (.array .int)) (by decide) (by decide)))
  have F_zp_kept := F_zp_kept.other W21 (Or.inr (slot_ne (Or.inl (own_w hw 49 rfl)) (Or.inl (own_w hw 15 rfl)) (by decide) (t := .int) (t' := (.array .int)) (by decide) (by decide)))
  have F_zp_marks := F_zp_marks.other W21 (Or.inr (slot_ne (Or.inr (own_w hw 28 rfl)) (Or.inl (own_w hw 15 rfl)) (by decide) (t := (.object "com/example/term_unifier/termunifier/IntStack")) (t' := (.array .int)) (by decide) (by decide)))
  have V_b16 := V_b16.other W21 (Ne.symm ne_zp_b16)
  have V_b18 := V_b18.other W21 (Ne.symm ne_zp_b18)
  have V_b20 := V_b20.other W21 (Ne.symm ne_zp_b20)
  have K := K.wr W21 (Or.inl (List.mem_of_getElem? (i := 0) rfl))
  have Zs := Nat.le_trans Zs (Keep.of_wr W21).1
  refine own_go (B := T21.setTop (mkF m 28 #[.val (.ref zp)] [])) (fun t k => st21 _ k) ?_
  refine own_go (B := T21.setTop (mkF m 29 #[.val (.ref zp)] [(.ref zp)])) (fun t k => XS.aloadN X21.here hx rfl (Jvm.hb hby d1_28) rfl rfl k) ?_
  refine own_go (B := T21.setTop (mkF m 30 #[.val (.ref zp)] [(.int (-1 : Int32)), (.ref zp)])) (fun t k => XS.iconst X21.here hx rfl (Jvm.hb hby d1_29) k) ?_
  obtain ⟨T22, h22, X22, e22, W22, st22⟩ := putF X21 hx hZ hown (host := "") (Or.inl (own_w hw 16 rfl)) Via.refl e21 F_zp_top E_zp (Or.inl (own_w hw 17 rfl)) (own_w hw 1 rfl) (ty := .int) (by decide) rfl rfl (g := (mkF m 30 #[.val (.ref zp)] [(.int (-1 : Int32)), (.ref zp)])) rfl rfl (Jvm.hb hby d1_30)
  have N22 := Fr.snoc X22 N21 g_zp
  have E_zp := E_zp.wr W22
  have F_zp_firsts := F_zp_firsts.other W22 (Or.inr (slot_ne (Or.inl (own_w hw 11 rfl)) (Or.inl (own_w hw 17 rfl)) (by decide) (t := (.array .int)) (t' := .int) (by decide) (by decide)))
  have F_zp_seconds := F_zp_seconds.other W22 (Or.inr (slot_ne (Or.inl (own_w hw 13 rfl)) (Or.inl (own_w hw 17 rfl)) (by decide) (t := (.array .int)) (t' := .int) (by decide) (by decide)))
  have F_zp_below := F_zp_below.other W22 (Or.inr (slot_ne (Or.inl (own_w hw 15 rfl)) (Or.inl (own_w hw 17 rfl)) (by decide) (t := (.array .int)) (t' := .int) (by decide) (by decide)))
  have F_zp_top := F_zp_top.same W22
  have F_zp_used := F_zp_used.other W22 (Or.inr (slot_ne (Or.inl (own_w hw 35 rfl)) (Or.inl (own_w hw 17 rfl)) (by decide) (t := .int) (t' := .int) (by decide) (by decide)))
  have F_zp_kept := F_zp_kept.other W22 (Or.inr (slot_ne (Or.inl (own_w hw 49 rfl)) (Or.inl (own_w hw 17 rfl)) (by decide) (t := .int) (t' := .int) (by decide) (by decide)))
  have F_zp_marks := F_zp_marks.other W22 (Or.inr (slot_ne (Or.inr (own_w hw 28 rfl)) (Or.inl (own_w hw 17 rfl)) (by decide) (t := (.object "com/example/term_unifier/termunifier/IntStack")) (t' := .int) (by decide) (by decide)))
  have V_b16 := V_b16.other W22 (Ne.symm ne_zp_b16)
  have V_b18 := V_b18.other W22 (Ne.symm ne_zp_b18)
  have V_b20 := V_b20.other W22 (Ne.symm ne_zp_b20)
  have K := K.wr W22 (Or.inl (List.mem_of_getElem? (i := 0) rfl))
  have Zs := Nat.le_trans Zs (Keep.of_wr W22).1
  refine own_go (B := T22.setTop (mkF m 33 #[.val (.ref zp)] [])) (fun t k => st22 _ k) ?_
  refine own_go (B := T22.setTop (mkF m 34 #[.val (.ref zp)] [(.ref zp)])) (fun t k => XS.aloadN X22.here hx rfl (Jvm.hb hby d1_33) rfl rfl k) ?_
  obtain ⟨T23, h23, X23, e23, E23, A23, D23, -, st23⟩ := newO X22 hx hZ hown (own_w hw 18 rfl) (own_w hw 19 rfl) (own_w hw 20 rfl) e22 (g := (mkF m 34 #[.val (.ref zp)] [(.ref zp)])) rfl (Jvm.hb hby d1_34) (by decide) (by decide)
  obtain ⟨b23, g23⟩ : ∃ z, z = h22.size := ⟨_, rfl⟩
  rw [← g23] at A23 D23 st23
  have ne_zp_b23 : zp ≠ b23 := Nat.ne_of_lt (Nat.lt_of_lt_of_le E_zp.lt (Nat.le_of_eq g23.symm))
  have ne_b16_b23 : b16 ≠ b23 := Nat.ne_of_lt (Nat.lt_of_lt_of_le V_b16.lt (Nat.le_of_eq g23.symm))
  have ne_b18_b23 : b18 ≠ b23 := Nat.ne_of_lt (Nat.lt_of_lt_of_le V_b18.lt (Nat.le_of_eq g23.symm))
  have ne_b20_b23 : b20 ≠ b23 := Nat.ne_of_lt (Nat.lt_of_lt_of_le V_b20.lt (Nat.le_of_eq g23.symm))
  have g_b23 : n0 ≤ b23 := Nat.le_trans Zs (Nat.le_of_eq g23.symm)
  have sz_b23 : h0.size ≤ b23 := Nat.le_trans K.1 (Nat.le_of_eq g23.symm)
  have E_zp := E_zp.ext E23
  have F_zp_firsts := F_zp_firsts.ext E23
  have F_zp_seconds := F_zp_seconds.ext E23
  have F_zp_below := F_zp_below.ext E23
  have F_zp_top := F_zp_top.ext E23
  have F_zp_used := F_zp_used.ext E23
  have F_zp_kept := F_zp_kept.ext E23
  have F_zp_marks := F_zp_marks.ext E23
  have V_b16 := V_b16.ext E23
  have V_b18 := V_b18.ext E23
  have V_b20 := V_b20.ext E23
  have K := K.ext E23
  have Zs := Nat.le_trans Zs E23.1
  have E_b23 := A23
  have F_b23_items : Fld Z h23 b23 "com/example/term_unifier/termunifier/IntStack" "items" "[I" .null := D23 (Or.inl (own_w hw 26 rfl)) (ty := (.array .int)) (by decide)
  have F_b23_size : Fld Z h23 b23 "com/example/term_unifier/termunifier/IntStack" "size" "I" (.int (0 : Int32)) := D23 (Or.inl (own_w hw 47 rfl)) (ty := .int) (by decide)
  refine own_go (B := T23.setTop (mkF m 37 #[.val (.ref zp)] [(.ref b23), (.ref zp)])) (fun t k => st23 _ k) ?_
  refine own_go (B := T23.setTop (mkF m 38 #[.val (.ref zp)] [(.ref b23), (.ref b23), (.ref zp)])) (fun t k => XS.dup X23.here hx rfl (Jvm.hb hby d1_37) rfl rfl k) ?_
  obtain ⟨_, _, ⟨T24, La24, ka24, na24⟩, -, X24, ⟨Lc24, hQ24, l24, y24, z24⟩, st24⟩ := X23.specialBack hx (y := (⟨"com/example/term_unifier/termunifier/IntStack", "<init>", "()V"⟩ : MethodName)) rfl hown (mvT hZ (own_w hw 21 rfl)) (mvT hZ (own_w hw 22 rfl)) (mvT hZ (own_w hw 23 rfl)) (by decide) (backOf (W := 2) (rm3 l Z a0 hw [] b23 h23 n0 Zs E_b23 F_b23_items F_b23_size g_b23) hZ (own_w hw 23 rfl) (own_w hw 20 rfl) (by decide) (by decide)) (g := (mkF m 38 #[.val (.ref zp)] [(.ref b23), (.ref b23), (.ref zp)])) rfl (by rw [hml]; rfl) (Steps.refl _) (a := b23) (argsL := []) (rest := [(.ref b23), (.ref zp)]) (lenOf pd_0 rfl) rfl (by show 2 * 0 + _ ≤ _; exact Nat.le_of_eq rfl) (Jvm.hb hby d1_38) (fun _ _ => ⟨rfl, e23, (by decide : 4 + 1 ≤ _), (by decide : 50 + 16 ≤ _)⟩)
  dsimp only [Pt.U, Pt.locs, Pt.cells, Pt.slots] at X24 l24 y24 z24 st24 hQ24
  have y24 : ka24 = 5 := y24
  have z24 : na24 = 66 := z24
  subst y24 z24
  obtain ⟨rfl, N24q, b25, sq_b25, Kc24, E_b23_q, F_b23_items_q, F_b23_size_q, V_b25_q⟩ := hQ24
  have g_b25 : n0 ≤ b25 := Nat.le_trans Zs sq_b25
  have sz_b25 : h0.size ≤ b25 := Nat.le_trans K.1 sq_b25
  have ne_zp_b25 : zp ≠ b25 := Nat.ne_of_lt (Nat.lt_of_lt_of_le E_zp.lt sq_b25)
  have ne_b16_b25 : b16 ≠ b25 := Nat.ne_of_lt (Nat.lt_of_lt_of_le V_b16.lt sq_b25)
  have ne_b18_b25 : b18 ≠ b25 := Nat.ne_of_lt (Nat.lt_of_lt_of_le V_b18.lt sq_b25)
  have ne_b20_b25 : b20 ≠ b25 := Nat.ne_of_lt (Nat.lt_of_lt_of_le V_b20.lt sq_b25)
  have ne_b23_b25 : b23 ≠ b25 := Nat.ne_of_lt (Nat.lt_of_lt_of_le E_b23.lt sq_b25)
  have N24 : Fr n0 La24 := by rw [l24]; exact Fr.app N22 N24q
  have E_zp := E_zp.keep Kc24
  have F_zp_firsts := F_zp_firsts.keep Kc24 (ninS ne_zp_b23 nin0)
  have F_zp_seconds := F_zp_seconds.keep Kc24 (ninS ne_zp_b23 nin0)
  have F_zp_below := F_zp_below.keep Kc24 (ninS ne_zp_b23 nin0)
  have F_zp_top := F_zp_top.keep Kc24 (ninS ne_zp_b23 nin0)
  have F_zp_used := F_zp_used.keep Kc24 (ninS ne_zp_b23 nin0)
  have F_zp_kept := F_zp_kept.keep Kc24 (ninS ne_zp_b23 nin0)
  have F_zp_marks := F_zp_marks.keep Kc24 (ninS ne_zp_b23 nin0)
  have V_b16 := V_b16.keep Kc24 (ninS ne_b16_b23 nin0)
  have V_b18 := V_b18.keep Kc24 (ninS ne_b18_b23 nin0)
  have V_b20 := V_b20.keep Kc24 (ninS ne_b20_b23 nin0)
  have K := K.trans Kc24 (allS (Or.inr sz_b23) all0)
  have Zs := Nat.le_trans Zs Kc24.1
  have E_b23 := E_b23_q
  have F_b23_items := F_b23_items_q
  have F_b23_size := F_b23_size_q
  have V_b25 := V_b25_q
  refine own_go (B := T24.setTop (mkF m 41 #[.val (.ref zp)] [(.ref b23), (.ref zp)])) (fun t k => own_st st24 k) ?_
  obtain ⟨T26, h26, X26, e26, W26, st26⟩ := putF X24 hx hZ hown (host := "") (Or.inl (own_w hw 27 rfl)) Via.refl rfl F_zp_marks E_zp (Or.inr ⟨(own_w hw 28 rfl), rfl, hnm⟩) (own_w hw 1 rfl) (ty := (.object "com/example/term_unifier/termunifier/IntStack")) (by decide) rfl rfl (g := (mkF m 41 #[.val (.ref zp)] [(.ref b23), (.ref zp)])) rfl rfl (Jvm.hb hby d1_41)
  have N26 := Fr.snoc X26 N24 g_zp
  have E_zp := E_zp.wr W26
  have F_zp_firsts := F_zp_firsts.other W26 (Or.inr (slot_ne (Or.inl (own_w hw 11 rfl)) (Or.inr (own_w hw 28 rfl)) (by decide) (t := (.array .int)) (t' := (.object "com/example/term_unifier/termunifier/IntStack")) (by decide) (by decide)))
  have F_zp_seconds := F_zp_seconds.other W26 (Or.inr (slot_ne (Or.inl (own_w hw 13 rfl)) (Or.inr (own_w hw 28 rfl)) (by decide) (t := (.array .int)) (t' := (.object "com/example/term_unifier/termunifier/IntStack")) (by decide) (by decide)))
  have F_zp_below := F_zp_below.other W26 (Or.inr (slot_ne (Or.inl (own_w hw 15 rfl)) (Or.inr (own_w hw 28 rfl)) (by decide) (t := (.array .int)) (t' := (.object "com/example/term_unifier/termunifier/IntStack")) (by decide) (by decide)))
  have F_zp_top := F_zp_top.other W26 (Or.inr (slot_ne (Or.inl (own_w hw 17 rfl)) (Or.inr (own_w hw 28 rfl)) (by decide) (t := .int) (t' := (.object "com/example/term_unifier/termunifier/IntStack")) (by decide) (by decide)))
  have F_zp_used := F_zp_used.other W26 (Or.inr (slot_ne (Or.inl (own_w hw 35 rfl)) (Or.inr (own_w hw 28 rfl)) (by decide) (t := .int) (t' := (.object "com/example/term_unifier/termunifier/IntStack")) (by decide) (by decide)))
  have F_zp_kept := F_zp_kept.other W26 (Or.inr (slot_ne (Or.inl (own_w hw 49 rfl)) (Or.inr (own_w hw 28 rfl)) (by decide) (t := .int) (t' := (.object "com/example/term_unifier/termunifier/IntStack")) (by decide) (by decide)))
  have F_zp_marks := F_zp_marks.same W26
  have V_b16 := V_b16.other W26 (Ne.symm ne_zp_b16)
  have V_b18 := V_b18.other W26 (Ne.symm ne_zp_b18)
  have V_b20 := V_b20.other W26 (Ne.symm ne_zp_b20)
  have E_b23 := E_b23.wr W26
  have F_b23_items := F_b23_items.other W26 (Or.inl (Ne.symm ne_zp_b23))
  have F_b23_size := F_b23_size.other W26 (Or.inl (Ne.symm ne_zp_b23))
  have V_b25 := V_b25.other W26 (Ne.symm ne_zp_b25)
  have K := K.wr W26 (Or.inl (List.mem_of_getElem? (i := 0) rfl))
  have Zs := Nat.le_trans Zs (Keep.of_wr W26).1
  refine own_go (B := T26.setTop (mkF m 44 #[.val (.ref zp)] [])) (fun t k => st26 _ k) ?_
  refine own_out X26 (v := none) (fun _ => rfl) Bd.notSynchronized (fun fs hr => X26.returnOut hx Bd.returns (Jvm.hb hby d1_44) hr) ?_ (by decide) (by decide)
  show own_Q1 Z zp h0 n0 none T26.heap _
  rw [e26]
  exact ⟨rfl, N26, b16, sz_b16, b18, sz_b18, b20, sz_b20, b23, sz_b23, b25, sz_b25, ne_b16_b18, ne_b16_b20, ne_b16_b23, ne_b16_b25, ne_b18_b20, ne_b18_b23, ne_b18_b25, ne_b20_b23, ne_b20_b25, ne_b23_b25, K, E_zp, F_zp_firsts, F_zp_seconds, F_zp_below, F_zp_top, F_zp_used, F_zp_kept, F_zp_marks, V_b16, V_b18, V_b20, E_b23, F_b23_items, F_b23_size, V_b25⟩
theorem d4_0 : decode prog_10_method_2_code 0 = .ok (.aload_n 0, 1) := by decide +kernel
theorem d4_1 : decode prog_10_method_2_code 1 = .ok (.getfield 30, 3) := by decide +kernel
theorem d4_4 : decode prog_10_method_2_code 4 = .ok (.aload_n 0, 1) := by decide +kernel
theorem d4_5 : decode prog_10_method_2_code 5 = .ok (.getfield 7, 3) := by decide +kernel
theorem d4_8 : decode prog_10_method_2_code 8 = .ok (.arraylength, 1) := by decide +kernel
theorem d4_9 : decode prog_10_method_2_code 9 = .ok (.if_icmp .ne 54, 3) := by decide +kernel
theorem d4_63 : decode prog_10_method_2_code 63 = .ok (.aload_n 0, 1) := by decide +kernel
theorem d4_64 : decode prog_10_method_2_code 64 = .ok (.getfield 7, 3) := by decide +kernel
theorem d4_67 : decode prog_10_method_2_code 67 = .ok (.aload_n 0, 1) := by decide +kernel
theorem d4_68 : decode prog_10_method_2_code 68 = .ok (.getfield 30, 3) := by decide +kernel
theorem d4_71 : decode prog_10_method_2_code 71 = .ok (.iload_n 1, 1) := by decide +kernel
theorem d4_72 : decode prog_10_method_2_code 72 = .ok (.iastore, 1) := by decide +kernel
theorem d4_73 : decode prog_10_method_2_code 73 = .ok (.aload_n 0, 1) := by decide +kernel
theorem d4_74 : decode prog_10_method_2_code 74 = .ok (.getfield 13, 3) := by decide +kernel
theorem d4_77 : decode prog_10_method_2_code 77 = .ok (.aload_n 0, 1) := by decide +kernel
theorem d4_78 : decode prog_10_method_2_code 78 = .ok (.getfield 30, 3) := by decide +kernel
theorem d4_81 : decode prog_10_method_2_code 81 = .ok (.iload_n 2, 1) := by decide +kernel
theorem d4_82 : decode prog_10_method_2_code 82 = .ok (.iastore, 1) := by decide +kernel
theorem d4_83 : decode prog_10_method_2_code 83 = .ok (.aload_n 0, 1) := by decide +kernel
theorem d4_84 : decode prog_10_method_2_code 84 = .ok (.getfield 16, 3) := by decide +kernel
theorem d4_87 : decode prog_10_method_2_code 87 = .ok (.aload_n 0, 1) := by decide +kernel
theorem d4_88 : decode prog_10_method_2_code 88 = .ok (.getfield 30, 3) := by decide +kernel
theorem d4_91 : decode prog_10_method_2_code 91 = .ok (.aload_n 0, 1) := by decide +kernel
theorem d4_92 : decode prog_10_method_2_code 92 = .ok (.getfield 19, 3) := by decide +kernel
theorem d4_95 : decode prog_10_method_2_code 95 = .ok (.iastore, 1) := by decide +kernel
theorem d4_96 : decode prog_10_method_2_code 96 = .ok (.aload_n 0, 1) := by decide +kernel
theorem d4_97 : decode prog_10_method_2_code 97 = .ok (.aload_n 0, 1) := by decide +kernel
theorem d4_98 : decode prog_10_method_2_code 98 = .ok (.getfield 30, 3) := by decide +kernel
theorem d4_101 : decode prog_10_method_2_code 101 = .ok (.putfield 19, 3) := by decide +kernel
theorem d4_104 : decode prog_10_method_2_code 104 = .ok (.aload_n 0, 1) := by decide +kernel
theorem d4_105 : decode prog_10_method_2_code 105 = .ok (.dup, 1) := by decide +kernel
theorem d4_106 : decode prog_10_method_2_code 106 = .ok (.getfield 30, 3) := by decide +kernel
theorem d4_109 : decode prog_10_method_2_code 109 = .ok (.iconst 1, 1) := by decide +kernel
theorem d4_110 : decode prog_10_method_2_code 110 = .ok (.iadd, 1) := by decide +kernel
theorem d4_111 : decode prog_10_method_2_code 111 = .ok (.putfield 30, 3) := by decide +kernel
theorem d4_114 : decode prog_10_method_2_code 114 = .ok (.return_, 1) := by decide +kernel
theorem ef_4 (m : MethodId) (x0 : Addr) (x1 : Int32) (x2 : Int32) : entryFrame m #[(.ref x0), (.int x1), (.int x2)] 3 = mkF m 0 #[.val (.ref x0), .val (.int x1), .val (.int x2)] [] := by first | (simp [entryFrame, mkF, argsToLocals, Value.category]; done) | rfl
def own_Q4 (Z : State) (zp : Addr) (zx : Int32) (zy : Int32) (z1 : Addr) (z2 : Addr) (z3 : Addr) (zm : Addr) (zt : Int32) (zu : Int32) (zc : Int32) (zv : Int32) (zk : Nat) (zf : Nat → Int32) (zg : Nat → Int32) (zh : Nat → Int32) (h0 : Heap) (n0 : Nat) (v : Option Value) (h : Heap) (L : List Loc) : Prop := v = none ∧ Fr n0 L ∧ Keep h0 h [zp, z1, z2, z3] ∧ Exa Z h zp "com/example/term_unifier/termunifier/IntPairStack" ∧ Fld Z h zp "com/example/term_unifier/termunifier/IntPairStack" "firsts" "[I" (.ref z1) ∧ Fld Z h zp "com/example/term_unifier/termunifier/IntPairStack" "seconds" "[I" (.ref z2) ∧ Fld Z h zp "com/example/term_unifier/termunifier/IntPairStack" "below" "[I" (.ref z3) ∧ Fld Z h zp "com/example/term_unifier/termunifier/IntPairStack" "top" "I" (.int zu) ∧ Fld Z h zp "com/example/term_unifier/termunifier/IntPairStack" "used" "I" (.int zv) ∧ Fld Z h zp "com/example/term_unifier/termunifier/IntPairStack" "kept" "I" (.int zc) ∧ Fld Z h zp "com/example/term_unifier/termunifier/IntPairStack" "marks" "Lcom/example/term_unifier/termunifier/IntStack;" (.ref zm) ∧ own_IA Z h z1 .int 16 (own_upd zf zk zx) ∧ own_IA Z h z2 .int 16 (own_upd zg zk zy) ∧ own_IA Z h z3 .int 16 (own_upd zh zk zt)
set_option maxRecDepth 65536 in
set_option maxHeartbeats 40000000 in
theorem rm4 (l : Launch) (Z : State) (a0 : Array Value) (hw : ∀ d ∈ tables_1, d.before a0 Z = true) (ws : List Jvm.Cond) (zp : Addr) (zx : Int32) (zy : Int32) (z1 : Addr) (z2 : Addr) (z3 : Addr) (zm : Addr) (zt : Int32) (zu : Int32) (zc : Int32) (zv : Int32) (zk : Nat) (zf : Nat → Int32) (zg : Nat → Int32) (zh : Nat → Int32) (h0 : Heap) (n0 : Nat) (Z0 : n0 ≤ h0.size) (E_zp : Exa Z h0 zp "com/example/term_unifier/termunifier/IntPairStack") (F_zp_firsts : Fld Z h0 zp "com/example/term_unifier/termunifier/IntPairStack" "firsts" "[I" (.ref z1)) (F_zp_seconds : Fld Z h0 zp "com/example/term_unifier/termunifier/IntPairStack" "seconds" "[I" (.ref z2)) (F_zp_below : Fld Z h0 zp "com/example/term_unifier/termunifier/IntPairStack" "below" "[I" (.ref z3)) (F_zp_top : Fld Z h0 zp "com/example/term_unifier/termunifier/IntPairStack" "top" "I" (.int zt)) (F_zp_used : Fld Z h0 zp "com/example/term_unifier/termunifier/IntPairStack" "used" "I" (.int zu)) (F_zp_kept : Fld Z h0 zp "com/example/term_unifier/termunifier/IntPairStack" "kept" "I" (.int zc)) (F_zp_marks : Fld Z h0 zp "com/example/term_unifier/termunifier/IntPairStack" "marks" "Lcom/example/term_unifier/termunifier/IntStack;" (.ref zm)) (V_z1 : own_IA Z h0 z1 .int 16 zf) (V_z2 : own_IA Z h0 z2 .int 16 zg) (V_z3 : own_IA Z h0 z3 .int 16 zh) (g_zp : n0 ≤ zp) (g_z1 : n0 ≤ z1) (g_z2 : n0 ≤ z2) (g_z3 : n0 ≤ z3) (ne_zp_z1 : zp ≠ z1) (ne_zp_z2 : zp ≠ z2) (ne_zp_z3 : zp ≠ z3) (ne_z1_z2 : z1 ≠ z2) (ne_z1_z3 : z1 ≠ z3) (ne_z2_z3 : z2 ≠ z3) (hk0 : ¬ (zu < 0)) (hk : zu.toNatClampNeg = zk) (hk1 : zk < 16) (hk2 : (zu + (1 : Int32)) = zv) (hk3 : ¬ (zu = (16 : Int32))) :
    MetFree l (⟨"com/example/term_unifier/termunifier/IntPairStack", "push", "(II)V"⟩ : MethodName) (head1 (Jvm.Cond.code (⟨"com/example/term_unifier/termunifier/IntPairStack", "push", "(II)V"⟩ : MethodName) prog_10_method_2_code 3 none :: ws) ({ frames := 0, cells := 0, slots := 0, locals := 0 } : Room)) (fun a U => a = #[(.ref zp), (.int zx), (.int zy)] ∧ Z.Warmed39 U.vm ∧ U.heap = h0) (fun _ _ _ _ _ => True) (fun _ U o U' => ∃ v L, o = .returned v ∧ own_Q4 Z zp zx zy z1 z2 z3 zm zt zu zc zv zk zf zg zh h0 n0 v U'.heap L ∧ FrameEnd U o U' L ({ frames := 0, cells := 0, slots := 0, locals := 0 } : Room).cells ({ frames := 0, cells := 0, slots := 0, locals := 0 } : Room).slots) := by
  refine MetFree.of_bodySF (plainFor_of_name pn_com_example_term_unifier_termunifier_IntPairStack) hisR ?_
  intro p e s m args below meth c s₁ Bd hml0 hP hK
  obtain ⟨rfl, hZ, hh⟩ := hP
  have hx := Bd.exec
  have hby := Bd.bytes
  have hml : c.maxLocals = 3 := hml0
  have hown : s.vm.findClass "com/example/term_unifier/termunifier/IntPairStack" = some m.cls := findClass_of_methodNamed Bd.named
  have hnm := (name_of_methodNamed Bd.named Bd.method).1
  have X0 : Stand p l e ({ frames := 0, cells := 0, slots := 0, locals := 0 } : Room) s m #[(.ref zp), (.int zx), (.int zy)] below meth c s₁ [] 0 0 := Stand.of_body Bd
  have e0 : s₁.heap = h0 := by rw [← hh, Bd.state]; rfl
  have N0 := Fr.nil n0
  have Zs := Z0
  have K : Keep h0 h0 [zp, z1, z2, z3] := Keep.refl _ _
  show own_Goes p e below s (own_Q4 Z zp zx zy z1 z2 z3 zm zt zu zc zv zk zf zg zh h0 n0) ({ frames := 0, cells := 0, slots := 0, locals := 0 } : Room).cells ({ frames := 0, cells := 0, slots := 0, locals := 0 } : Room).slots _
  refine own_go (B := s₁.setTop (mkF m 0 #[.val (.ref zp), .val (.int zx), .val (.int zy)] [])) (fun t k => castTop (ef_4 m zp zx zy) k) ?_
  refine own_go (B := s₁.setTop (mkF m 1 #[.val (.ref zp), .val (.int zx), .val (.int zy)] [(.ref zp)])) (fun t k => XS.aloadN X0.here hx rfl (Jvm.hb hby d4_0) rfl rfl k) ?_
  obtain ⟨T27, X27, e27, st27⟩ := getF X0 hx hZ hown (host := "") (Or.inl (own_w hw 34 rfl)) Via.refl e0 F_zp_used (g := (mkF m 1 #[.val (.ref zp), .val (.int zx), .val (.int zy)] [(.ref zp)])) rfl rfl (Jvm.hb hby d4_1)
  refine own_go (B := T27.setTop (mkF m 4 #[.val (.ref zp), .val (.int zx), .val (.int zy)] [(.int zu)])) (fun t k => st27 _ k) ?_
  refine own_go (B := T27.setTop (mkF m 5 #[.val (.ref zp), .val (.int zx), .val (.int zy)] [(.ref zp), (.int zu)])) (fun t k => XS.aloadN X27.here hx rfl (Jvm.hb hby d4_4) rfl rfl k) ?_
  obtain ⟨T28, X28, e28, st28⟩ := getF X27 hx hZ hown (host := "") (Or.inl (own_w hw 10 rfl)) Via.refl e27 F_zp_firsts (g := (mkF m 5 #[.val (.ref zp), .val (.int zx), .val (.int zy)] [(.ref zp), (.int zu)])) rfl rfl (Jvm.hb hby d4_5)
  refine own_go (B := T28.setTop (mkF m 8 #[.val (.ref zp), .val (.int zx), .val (.int zy)] [(.ref z1), (.int zu)])) (fun t k => st28 _ k) ?_
  refine own_go (B := T28.setTop (mkF m 9 #[.val (.ref zp), .val (.int zx), .val (.int zy)] [(.int (16 : Int32)), (.int zu)])) (fun t k => own_alen X28 hx hZ e28 V_z1 (by decide) (Jvm.hb hby d4_8) t k) ?_
  refine own_go (B := T28.setTop (mkF m 63 #[.val (.ref zp), .val (.int zx), .val (.int zy)] [])) (fun t k => XS.icmpYes X28.here hx rfl (pc0 := 9) (pc' := 63) rfl (Jvm.hb hby d4_9) rfl (feq hk3).2 (by decide) (by decide) k) ?_
  refine own_go (B := T28.setTop (mkF m 64 #[.val (.ref zp), .val (.int zx), .val (.int zy)] [(.ref zp)])) (fun t k => XS.aloadN X28.here hx rfl (Jvm.hb hby d4_63) rfl rfl k) ?_
  obtain ⟨T29, X29, e29, st29⟩ := getF X28 hx hZ hown (host := "") (Or.inl (own_w hw 10 rfl)) Via.refl e28 F_zp_firsts (g := (mkF m 64 #[.val (.ref zp), .val (.int zx), .val (.int zy)] [(.ref zp)])) rfl rfl (Jvm.hb hby d4_64)
  refine own_go (B := T29.setTop (mkF m 67 #[.val (.ref zp), .val (.int zx), .val (.int zy)] [(.ref z1)])) (fun t k => st29 _ k) ?_
  refine own_go (B := T29.setTop (mkF m 68 #[.val (.ref zp), .val (.int zx), .val (.int zy)] [(.ref zp), (.ref z1)])) (fun t k => XS.aloadN X29.here hx rfl (Jvm.hb hby d4_67) rfl rfl k) ?_
  obtain ⟨T30, X30, e30, st30⟩ := getF X29 hx hZ hown (host := "") (Or.inl (own_w hw 34 rfl)) Via.refl e29 F_zp_used (g := (mkF m 68 #[.val (.ref zp), .val (.int zx), .val (.int zy)] [(.ref zp), (.ref z1)])) rfl rfl (Jvm.hb hby d4_68)
  refine own_go (B := T30.setTop (mkF m 71 #[.val (.ref zp), .val (.int zx), .val (.int zy)] [(.int zu), (.ref z1)])) (fun t k => st30 _ k) ?_
  refine own_go (B := T30.setTop (mkF m 72 #[.val (.ref zp), .val (.int zx), .val (.int zy)] [(.int zx), (.int zu), (.ref z1)])) (fun t k => XS.iloadN X30.here hx rfl (Jvm.hb hby d4_71) rfl k) ?_
  obtain ⟨T31, h31, X31, e31, W31, V31, st31⟩ := own_iastore X30 hx hZ e30 V_z1 (j := zu) (k := zk) hk0 hk hk1 (g := (mkF m 72 #[.val (.ref zp), .val (.int zx), .val (.int zy)] [(.int zx), (.int zu), (.ref z1)])) rfl rfl (Jvm.hb hby d4_72)
  have N31 := Fr.snoc X31 N0 g_z1
  have E_zp := E_zp.wr W31
  have F_zp_firsts := F_zp_firsts.other W31 (Or.inl ne_zp_z1)
  have F_zp_seconds := F_zp_seconds.other W31 (Or.inl ne_zp_z1)
  have F_zp_below := F_zp_below.other W31 (Or.inl ne_zp_z1)
  have F_zp_top := F_zp_top.other W31 (Or.inl ne_zp_z1)
  have F_zp_used := F_zp_used.other W31 (Or.inl ne_zp_z1)
  have F_zp_kept := F_zp_kept.other W31 (Or.inl ne_zp_z1)
  have F_zp_marks := F_zp_marks.other W31 (Or.inl ne_zp_z1)
  have V_z2 := V_z2.other W31 (Ne.symm ne_z1_z2)
  have V_z3 := V_z3.other W31 (Ne.symm ne_z1_z3)
  have K := K.wr W31 (Or.inl (List.mem_of_getElem? (i := 1) rfl))
  have Zs := Nat.le_trans Zs (Keep.of_wr W31).1
  have V_z1 := V31
  refine own_go (B := T31.setTop (mkF m 73 #[.val (.ref zp), .val (.int zx), .val (.int zy)] [])) (fun t k => st31 _ k) ?_
  refine own_go (B := T31.setTop (mkF m 74 #[.val (.ref zp), .val (.int zx), .val (.int zy)] [(.ref zp)])) (fun t k => XS.aloadN X31.here hx rfl (Jvm.hb hby d4_73) rfl rfl k) ?_
  obtain ⟨T32, X32, e32, st32⟩ := getF X31 hx hZ hown (host := "") (Or.inl (own_w hw 12 rfl)) Via.refl e31 F_zp_seconds (g := (mkF m 74 #[.val (.ref zp), .val (.int zx), .val (.int zy)] [(.ref zp)])) rfl rfl (Jvm.hb hby d4_74)
  refine own_go (B := T32.setTop (mkF m 77 #[.val (.ref zp), .val (.int zx), .val (.int zy)] [(.ref z2)])) (fun t k => st32 _ k) ?_
  refine own_go (B := T32.setTop (mkF m 78 #[.val (.ref zp), .val (.int zx), .val (.int zy)] [(.ref zp), (.ref z2)])) (fun t k => XS.aloadN X32.here hx rfl (Jvm.hb hby d4_77) rfl rfl k) ?_
  obtain ⟨T33, X33, e33, st33⟩ := getF X32 hx hZ hown (host := "") (Or.inl (own_w hw 34 rfl)) Via.refl e32 F_zp_used (g := (mkF m 78 #[.val (.ref zp), .val (.int zx), .val (.int zy)] [(.ref zp), (.ref z2)])) rfl rfl (Jvm.hb hby d4_78)
  refine own_go (B := T33.setTop (mkF m 81 #[.val (.ref zp), .val (.int zx), .val (.int zy)] [(.int zu), (.ref z2)])) (fun t k => st33 _ k) ?_
  refine own_go (B := T33.setTop (mkF m 82 #[.val (.ref zp), .val (.int zx), .val (.int zy)] [(.int zy), (.int zu), (.ref z2)])) (fun t k => XS.iloadN X33.here hx rfl (Jvm.hb hby d4_81) rfl k) ?_
  obtain ⟨T34, h34, X34, e34, W34, V34, st34⟩ := own_iastore X33 hx hZ e33 V_z2 (j := zu) (k := zk) hk0 hk hk1 (g := (mkF m 82 #[.val (.ref zp), .val (.int zx), .val (.int zy)] [(.int zy), (.int zu), (.ref z2)])) rfl rfl (Jvm.hb hby d4_82)
  have N34 := Fr.snoc X34 N31 g_z2
  have E_zp := E_zp.wr W34
  have F_zp_firsts := F_zp_firsts.other W34 (Or.inl ne_zp_z2)
  have F_zp_seconds := F_zp_seconds.other W34 (Or.inl ne_zp_z2)
  have F_zp_below := F_zp_below.other W34 (Or.inl ne_zp_z2)
  have F_zp_top := F_zp_top.other W34 (Or.inl ne_zp_z2)
  have F_zp_used := F_zp_used.other W34 (Or.inl ne_zp_z2)
  have F_zp_kept := F_zp_kept.other W34 (Or.inl ne_zp_z2)
  have F_zp_marks := F_zp_marks.other W34 (Or.inl ne_zp_z2)
  have V_z1 := V_z1.other W34 ne_z1_z2
  have V_z3 := V_z3.other W34 (Ne.symm ne_z2_z3)
  have K := K.wr W34 (Or.inl (List.mem_of_getElem? (i := 2) rfl))
  have Zs := Nat.le_trans Zs (Keep.of_wr W34).1
  have V_z2 := V34
  refine own_go (B := T34.setTop (mkF m 83 #[.val (.ref zp), .val (.int zx), .val (.int zy)] [])) (fun t k => st34 _ k) ?_
  refine own_go (B := T34.setTop (mkF m 84 #[.val (.ref zp), .val (.int zx), .val (.int zy)] [(.ref zp)])) (fun t k => XS.aloadN X34.here hx rfl (Jvm.hb hby d4_83) rfl rfl k) ?_
  obtain ⟨T35, X35, e35, st35⟩ := getF X34 hx hZ hown (host := "") (Or.inl (own_w hw 14 rfl)) Via.refl e34 F_zp_below (g := (mkF m 84 #[.val (.ref zp), .val (.int zx), .val (.int zy)] [(.ref zp)])) rfl rfl (Jvm.hb hby d4_84)
  refine own_go (B := T35.setTop (mkF m 87 #[.val (.ref zp), .val (.int zx), .val (.int zy)] [(.ref z3)])) (fun t k => st35 _ k) ?_
  refine own_go (B := T35.setTop (mkF m 88 #[.val (.ref zp), .val (.int zx), .val (.int zy)] [(.ref zp), (.ref z3)])) (fun t k => XS.aloadN X35.here hx rfl (Jvm.hb hby d4_87) rfl rfl k) ?_
  obtain ⟨T36, X36, e36, st36⟩ := getF X35 hx hZ hown (host := "") (Or.inl (own_w hw 34 rfl)) Via.refl e35 F_zp_used (g := (mkF m 88 #[.val (.ref zp), .val (.int zx), .val (.int zy)] [(.ref zp), (.ref z3)])) rfl rfl (Jvm.hb hby d4_88)
  refine own_go (B := T36.setTop (mkF m 91 #[.val (.ref zp), .val (.int zx), .val (.int zy)] [(.int zu), (.ref z3)])) (fun t k => st36 _ k) ?_
  refine own_go (B := T36.setTop (mkF m 92 #[.val (.ref zp), .val (.int zx), .val (.int zy)] [(.ref zp), (.int zu), (.ref z3)])) (fun t k => XS.aloadN X36.here hx rfl (Jvm.hb hby d4_91) rfl rfl k) ?_
  obtain ⟨T37, X37, e37, st37⟩ := getF X36 hx hZ hown (host := "") (Or.inl (own_w hw 16 rfl)) Via.refl e36 F_zp_top (g := (mkF m 92 #[.val (.ref zp), .val (.int zx), .val (.int zy)] [(.ref zp), (.int zu), (.ref z3)])) rfl rfl (Jvm.hb hby d4_92)
  refine own_go (B := T37.setTop (mkF m 95 #[.val (.ref zp), .val (.int zx), .val (.int zy)] [(.int zt), (.int zu), (.ref z3)])) (fun t k => st37 _ k) ?_
  obtain ⟨T38, h38, X38, e38, W38, V38, st38⟩ := own_iastore X37 hx hZ e37 V_z3 (j := zu) (k := zk) hk0 hk hk1 (g := (mkF m 95 #[.val (.ref zp), .val (.int zx), .val (.int zy)] [(.int zt), (.int zu), (.ref z3)])) rfl rfl (Jvm.hb hby d4_95)
  have N38 := Fr.snoc X38 N34 g_z3
  have E_zp := E_zp.wr W38
  have F_zp_firsts := F_zp_firsts.other W38 (Or.inl ne_zp_z3)
  have F_zp_seconds := F_zp_seconds.other W38 (Or.inl ne_zp_z3)
  have F_zp_below := F_zp_below.other W38 (Or.inl ne_zp_z3)
  have F_zp_top := F_zp_top.other W38 (Or.inl ne_zp_z3)
  have F_zp_used := F_zp_used.other W38 (Or.inl ne_zp_z3)
  have F_zp_kept := F_zp_kept.other W38 (Or.inl ne_zp_z3)
  have F_zp_marks := F_zp_marks.other W38 (Or.inl ne_zp_z3)
  have V_z1 := V_z1.other W38 ne_z1_z3
  have V_z2 := V_z2.other W38 ne_z2_z3
  have K := K.wr W38 (Or.inl (List.mem_of_getElem? (i := 3) rfl))
  have Zs := Nat.le_trans Zs (Keep.of_wr W38).1
  have V_z3 := V38
  refine own_go (B := T38.setTop (mkF m 96 #[.val (.ref zp), .val (.int zx), .val (.int zy)] [])) (fun t k => st38 _ k) ?_
  refine own_go (B := T38.setTop (mkF m 97 #[.val (.ref zp), .val (.int zx), .val (.int zy)] [(.ref zp)])) (fun t k => XS.aloadN X38.here hx rfl (Jvm.hb hby d4_96) rfl rfl k) ?_
  refine own_go (B := T38.setTop (mkF m 98 #[.val (.ref zp), .val (.int zx), .val (.int zy)] [(.ref zp), (.ref zp)])) (fun t k => XS.aloadN X38.here hx rfl (Jvm.hb hby d4_97) rfl rfl k) ?_
  obtain ⟨T39, X39, e39, st39⟩ := getF X38 hx hZ hown (host := "") (Or.inl (own_w hw 34 rfl)) Via.refl e38 F_zp_used (g := (mkF m 98 #[.val (.ref zp), .val (.int zx), .val (.int zy)] [(.ref zp), (.ref zp)])) rfl rfl (Jvm.hb hby d4_98)
  refine own_go (B := T39.setTop (mkF m 101 #[.val (.ref zp), .val (.int zx), .val (.int zy)] [(.int zu), (.ref zp)])) (fun t k => st39 _ k) ?_
  obtain ⟨T40, h40, X40, e40, W40, st40⟩ := putF X39 hx hZ hown (host := "") (Or.inl (own_w hw 16 rfl)) Via.refl e39 F_zp_top E_zp (Or.inl (own_w hw 17 rfl)) (own_w hw 1 rfl) (ty := .int) (by decide) rfl rfl (g := (mkF m 101 #[.val (.ref zp), .val (.int zx), .val (.int zy)] [(.int zu), (.ref zp)])) rfl rfl (Jvm.hb hby d4_101)
  have N40 := Fr.snoc X40 N38 g_zp
  have E_zp := E_zp.wr W40
  have F_zp_firsts := F_zp_firsts.other W40 (Or.inr (slot_ne (Or.inl (own_w hw 11 rfl)) (Or.inl (own_w hw 17 rfl)) (by decide) (t := (.array .int)) (t' := .int) (by decide) (by decide)))
  have F_zp_seconds := F_zp_seconds.other W40 (Or.inr (slot_ne (Or.inl (own_w hw 13 rfl)) (Or.inl (own_w hw 17 rfl)) (by decide) (t := (.array .int)) (t' := .int) (by decide) (by decide)))
  have F_zp_below := F_zp_below.other W40 (Or.inr (slot_ne (Or.inl (own_w hw 15 rfl)) (Or.inl (own_w hw 17 rfl)) (by decide) (t := (.array .int)) (t' := .int) (by decide) (by decide)))
  have F_zp_top := F_zp_top.same W40
  have F_zp_used := F_zp_used.other W40 (Or.inr (slot_ne (Or.inl (own_w hw 35 rfl)) (Or.inl (own_w hw 17 rfl)) (by decide) (t := .int) (t' := .int) (by decide) (by decide)))
  have F_zp_kept := F_zp_kept.other W40 (Or.inr (slot_ne (Or.inl (own_w hw 49 rfl)) (Or.inl (own_w hw 17 rfl)) (by decide) (t := .int) (t' := .int) (by decide) (by decide)))
  have F_zp_marks := F_zp_marks.other W40 (Or.inr (slot_ne (Or.inr (own_w hw 28 rfl)) (Or.inl (own_w hw 17 rfl)) (by decide) (t := (.object "com/example/term_unifier/termunifier/IntStack")) (t' := .int) (by decide) (by decide)))
  have V_z1 := V_z1.other W40 (Ne.symm ne_zp_z1)
  have V_z2 := V_z2.other W40 (Ne.symm ne_zp_z2)
  have V_z3 := V_z3.other W40 (Ne.symm ne_zp_z3)
  have K := K.wr W40 (Or.inl (List.mem_of_getElem? (i := 0) rfl))
  have Zs := Nat.le_trans Zs (Keep.of_wr W40).1
  refine own_go (B := T40.setTop (mkF m 104 #[.val (.ref zp), .val (.int zx), .val (.int zy)] [])) (fun t k => st40 _ k) ?_
  refine own_go (B := T40.setTop (mkF m 105 #[.val (.ref zp), .val (.int zx), .val (.int zy)] [(.ref zp)])) (fun t k => XS.aloadN X40.here hx rfl (Jvm.hb hby d4_104) rfl rfl k) ?_
  refine own_go (B := T40.setTop (mkF m 106 #[.val (.ref zp), .val (.int zx), .val (.int zy)] [(.ref zp), (.ref zp)])) (fun t k => XS.dup X40.here hx rfl (Jvm.hb hby d4_105) rfl rfl k) ?_
  obtain ⟨T41, X41, e41, st41⟩ := getF X40 hx hZ hown (host := "") (Or.inl (own_w hw 34 rfl)) Via.refl e40 F_zp_used (g := (mkF m 106 #[.val (.ref zp), .val (.int zx), .val (.int zy)] [(.ref zp), (.ref zp)])) rfl rfl (Jvm.hb hby d4_106)
  refine own_go (B := T41.setTop (mkF m 109 #[.val (.ref zp), .val (.int zx), .val (.int zy)] [(.int zu), (.ref zp)])) (fun t k => st41 _ k) ?_
  refine own_go (B := T41.setTop (mkF m 110 #[.val (.ref zp), .val (.int zx), .val (.int zy)] [(.int (1 : Int32)), (.int zu), (.ref zp)])) (fun t k => XS.iconst X41.here hx rfl (Jvm.hb hby d4_109) k) ?_
  refine own_go (B := T41.setTop (mkF m 111 #[.val (.ref zp), .val (.int zx), .val (.int zy)] [(.int (zu + (1 : Int32))), (.ref zp)])) (fun t k => XS.iadd X41.here hx rfl (Jvm.hb hby d4_110) rfl k) ?_
  obtain ⟨T42, h42, X42, e42, W42, st42⟩ := putF X41 hx hZ hown (host := "") (Or.inl (own_w hw 34 rfl)) Via.refl e41 F_zp_used E_zp (Or.inl (own_w hw 35 rfl)) (own_w hw 1 rfl) (ty := .int) (by decide) rfl rfl (g := (mkF m 111 #[.val (.ref zp), .val (.int zx), .val (.int zy)] [(.int (zu + (1 : Int32))), (.ref zp)])) rfl rfl (Jvm.hb hby d4_111)
  have N42 := Fr.snoc X42 N40 g_zp
  have E_zp := E_zp.wr W42
  have F_zp_firsts := F_zp_firsts.other W42 (Or.inr (slot_ne (Or.inl (own_w hw 11 rfl)) (Or.inl (own_w hw 35 rfl)) (by decide) (t := (.array .int)) (t' := .int) (by decide) (by decide)))
  have F_zp_seconds := F_zp_seconds.other W42 (Or.inr (slot_ne (Or.inl (own_w hw 13 rfl)) (Or.inl (own_w hw 35 rfl)) (by decide) (t := (.array .int)) (t' := .int) (by decide) (by decide)))
  have F_zp_below := F_zp_below.other W42 (Or.inr (slot_ne (Or.inl (own_w hw 15 rfl)) (Or.inl (own_w hw 35 rfl)) (by decide) (t := (.array .int)) (t' := .int) (by decide) (by decide)))
  have F_zp_top := F_zp_top.other W42 (Or.inr (slot_ne (Or.inl (own_w hw 17 rfl)) (Or.inl (own_w hw 35 rfl)) (by decide) (t := .int) (t' := .int) (by decide) (by decide)))
  have F_zp_used := F_zp_used.same W42
  have F_zp_kept := F_zp_kept.other W42 (Or.inr (slot_ne (Or.inl (own_w hw 49 rfl)) (Or.inl (own_w hw 35 rfl)) (by decide) (t := .int) (t' := .int) (by decide) (by decide)))
  have F_zp_marks := F_zp_marks.other W42 (Or.inr (slot_ne (Or.inr (own_w hw 28 rfl)) (Or.inl (own_w hw 35 rfl)) (by decide) (t := (.object "com/example/term_unifier/termunifier/IntStack")) (t' := .int) (by decide) (by decide)))
  have V_z1 := V_z1.other W42 (Ne.symm ne_zp_z1)
  have V_z2 := V_z2.other W42 (Ne.symm ne_zp_z2)
  have V_z3 := V_z3.other W42 (Ne.symm ne_zp_z3)
  have K := K.wr W42 (Or.inl (List.mem_of_getElem? (i := 0) rfl))
  have Zs := Nat.le_trans Zs (Keep.of_wr W42).1
  refine own_go (B := T42.setTop (mkF m 114 #[.val (.ref zp), .val (.int zx), .val (.int zy)] [])) (fun t k => st42 _ k) ?_
  refine own_out X42 (v := none) (fun _ => rfl) Bd.notSynchronized (fun fs hr => X42.returnOut hx Bd.returns (Jvm.hb hby d4_114) hr) ?_ (by decide) (by decide)
  show own_Q4 Z zp zx zy z1 z2 z3 zm zt zu zc zv zk zf zg zh h0 n0 none T42.heap _
  rw [e42]
  exact ⟨rfl, N42, K, E_zp, F_zp_firsts, F_zp_seconds, F_zp_below, F_zp_top, (by rw [← hk2]; exact F_zp_used), F_zp_kept, F_zp_marks, V_z1, V_z2, V_z3⟩
theorem d5_0 : decode prog_10_method_7_code 0 = .ok (.aload_n 0, 1) := by decide +kernel
theorem d5_1 : decode prog_10_method_7_code 1 = .ok (.getfield 26, 3) := by decide +kernel
theorem d5_4 : decode prog_10_method_7_code 4 = .ok (.aload_n 0, 1) := by decide +kernel
theorem d5_5 : decode prog_10_method_7_code 5 = .ok (.getfield 19, 3) := by decide +kernel
theorem d5_8 : decode prog_10_method_7_code 8 = .ok (.invokevirtual 42, 3) := by decide +kernel
theorem d5_11 : decode prog_10_method_7_code 11 = .ok (.aload_n 0, 1) := by decide +kernel
theorem d5_12 : decode prog_10_method_7_code 12 = .ok (.getfield 26, 3) := by decide +kernel
theorem d5_15 : decode prog_10_method_7_code 15 = .ok (.aload_n 0, 1) := by decide +kernel
theorem d5_16 : decode prog_10_method_7_code 16 = .ok (.getfield 30, 3) := by decide +kernel
theorem d5_19 : decode prog_10_method_7_code 19 = .ok (.invokevirtual 42, 3) := by decide +kernel
theorem d5_22 : decode prog_10_method_7_code 22 = .ok (.aload_n 0, 1) := by decide +kernel
theorem d5_23 : decode prog_10_method_7_code 23 = .ok (.getfield 26, 3) := by decide +kernel
theorem d5_26 : decode prog_10_method_7_code 26 = .ok (.aload_n 0, 1) := by decide +kernel
theorem d5_27 : decode prog_10_method_7_code 27 = .ok (.getfield 39, 3) := by decide +kernel
theorem d5_30 : decode prog_10_method_7_code 30 = .ok (.invokevirtual 42, 3) := by decide +kernel
theorem d5_33 : decode prog_10_method_7_code 33 = .ok (.aload_n 0, 1) := by decide +kernel
theorem d5_34 : decode prog_10_method_7_code 34 = .ok (.aload_n 0, 1) := by decide +kernel
theorem d5_35 : decode prog_10_method_7_code 35 = .ok (.getfield 30, 3) := by decide +kernel
theorem d5_38 : decode prog_10_method_7_code 38 = .ok (.putfield 39, 3) := by decide +kernel
theorem d5_41 : decode prog_10_method_7_code 41 = .ok (.return_, 1) := by decide +kernel
theorem pd_1 : parseMethodDescriptor "(I)V" = some ⟨[.int], none⟩ := by decide +kernel
theorem ef_5 (m : MethodId) (x0 : Addr) : entryFrame m #[(.ref x0)] 1 = mkF m 0 #[.val (.ref x0)] [] := by first | (simp [entryFrame, mkF, argsToLocals, Value.category]; done) | rfl
def own_Q5 (Z : State) (zp : Addr) (z1 : Addr) (z2 : Addr) (z3 : Addr) (zm : Addr) (zq : Addr) (zt : Int32) (zu : Int32) (zc : Int32) (zw : Nat → Int32) (h0 : Heap) (n0 : Nat) (v : Option Value) (h : Heap) (L : List Loc) : Prop := v = none ∧ Fr n0 L ∧ Keep h0 h [zp, zm, zq] ∧ Exa Z h zp "com/example/term_unifier/termunifier/IntPairStack" ∧ Fld Z h zp "com/example/term_unifier/termunifier/IntPairStack" "firsts" "[I" (.ref z1) ∧ Fld Z h zp "com/example/term_unifier/termunifier/IntPairStack" "seconds" "[I" (.ref z2) ∧ Fld Z h zp "com/example/term_unifier/termunifier/IntPairStack" "below" "[I" (.ref z3) ∧ Fld Z h zp "com/example/term_unifier/termunifier/IntPairStack" "top" "I" (.int zt) ∧ Fld Z h zp "com/example/term_unifier/termunifier/IntPairStack" "used" "I" (.int zu) ∧ Fld Z h zp "com/example/term_unifier/termunifier/IntPairStack" "kept" "I" (.int zu) ∧ Fld Z h zp "com/example/term_unifier/termunifier/IntPairStack" "marks" "Lcom/example/term_unifier/termunifier/IntStack;" (.ref zm) ∧ Exa Z h zm "com/example/term_unifier/termunifier/IntStack" ∧ Fld Z h zm "com/example/term_unifier/termunifier/IntStack" "items" "[I" (.ref zq) ∧ Fld Z h zm "com/example/term_unifier/termunifier/IntStack" "size" "I" (.int (3 : Int32)) ∧ own_IA Z h zq .int 16 (own_upd (own_upd (own_upd zw 0 zt) 1 zu) 2 zc)
set_option maxRecDepth 65536 in
set_option maxHeartbeats 40000000 in
theorem rm5 (l : Launch) (Z : State) (a0 : Array Value) (hw : ∀ d ∈ tables_1, d.before a0 Z = true) (ws : List Jvm.Cond) (zp : Addr) (z1 : Addr) (z2 : Addr) (z3 : Addr) (zm : Addr) (zq : Addr) (zt : Int32) (zu : Int32) (zc : Int32) (zw : Nat → Int32) (h0 : Heap) (n0 : Nat) (Z0 : n0 ≤ h0.size) (E_zp : Exa Z h0 zp "com/example/term_unifier/termunifier/IntPairStack") (F_zp_firsts : Fld Z h0 zp "com/example/term_unifier/termunifier/IntPairStack" "firsts" "[I" (.ref z1)) (F_zp_seconds : Fld Z h0 zp "com/example/term_unifier/termunifier/IntPairStack" "seconds" "[I" (.ref z2)) (F_zp_below : Fld Z h0 zp "com/example/term_unifier/termunifier/IntPairStack" "below" "[I" (.ref z3)) (F_zp_top : Fld Z h0 zp "com/example/term_unifier/termunifier/IntPairStack" "top" "I" (.int zt)) (F_zp_used : Fld Z h0 zp "com/example/term_unifier/termunifier/IntPairStack" "used" "I" (.int zu)) (F_zp_kept : Fld Z h0 zp "com/example/term_unifier/termunifier/IntPairStack" "kept" "I" (.int zc)) (F_zp_marks : Fld Z h0 zp "com/example/term_unifier/termunifier/IntPairStack" "marks" "Lcom/example/term_unifier/termunifier/IntStack;" (.ref zm)) (E_zm : Exa Z h0 zm "com/example/term_unifier/termunifier/IntStack") (F_zm_items : Fld Z h0 zm "com/example/term_unifier/termunifier/IntStack" "items" "[I" (.ref zq)) (F_zm_size : Fld Z h0 zm "com/example/term_unifier/termunifier/IntStack" "size" "I" (.int (0 : Int32))) (V_zq : own_IA Z h0 zq .int 16 zw) (g_zp : n0 ≤ zp) (g_zm : n0 ≤ zm) (g_zq : n0 ≤ zq) (ne_zp_zm : zp ≠ zm) (ne_zp_zq : zp ≠ zq) (ne_zm_zq : zm ≠ zq) :
    MetFree l (⟨"com/example/term_unifier/termunifier/IntPairStack", "mark", "()V"⟩ : MethodName) (head1 (Jvm.Cond.code (⟨"com/example/term_unifier/termunifier/IntPairStack", "mark", "()V"⟩ : MethodName) prog_10_method_7_code 1 none :: ws) ({ frames := 1, cells := 0, slots := 0, locals := 13 } : Room)) (fun a U => a = #[(.ref zp)] ∧ Z.Warmed39 U.vm ∧ U.heap = h0) (fun _ _ _ _ _ => True) (fun _ U o U' => ∃ v L, o = .returned v ∧ own_Q5 Z zp z1 z2 z3 zm zq zt zu zc zw h0 n0 v U'.heap L ∧ FrameEnd U o U' L ({ frames := 1, cells := 0, slots := 0, locals := 13 } : Room).cells ({ frames := 1, cells := 0, slots := 0, locals := 13 } : Room).slots) := by
  refine MetFree.of_bodySF (plainFor_of_name pn_com_example_term_unifier_termunifier_IntPairStack) hisR ?_
  intro p e s m args below meth c s₁ Bd hml0 hP hK
  obtain ⟨rfl, hZ, hh⟩ := hP
  have hx := Bd.exec
  have hby := Bd.bytes
  have hml : c.maxLocals = 1 := hml0
  have hown : s.vm.findClass "com/example/term_unifier/termunifier/IntPairStack" = some m.cls := findClass_of_methodNamed Bd.named
  have hnm := (name_of_methodNamed Bd.named Bd.method).1
  have X0 : Stand p l e ({ frames := 1, cells := 0, slots := 0, locals := 13 } : Room) s m #[(.ref zp)] below meth c s₁ [] 0 0 := Stand.of_body Bd
  have e0 : s₁.heap = h0 := by rw [← hh, Bd.state]; rfl
  have N0 := Fr.nil n0
  have Zs := Z0
  have K : Keep h0 h0 [zp, zm, zq] := Keep.refl _ _
  show own_Goes p e below s (own_Q5 Z zp z1 z2 z3 zm zq zt zu zc zw h0 n0) ({ frames := 1, cells := 0, slots := 0, locals := 13 } : Room).cells ({ frames := 1, cells := 0, slots := 0, locals := 13 } : Room).slots _
  refine own_go (B := s₁.setTop (mkF m 0 #[.val (.ref zp)] [])) (fun t k => castTop (ef_5 m zp) k) ?_
  refine own_go (B := s₁.setTop (mkF m 1 #[.val (.ref zp)] [(.ref zp)])) (fun t k => XS.aloadN X0.here hx rfl (Jvm.hb hby d5_0) rfl rfl k) ?_
  obtain ⟨T43, X43, e43, st43⟩ := getF X0 hx hZ hown (host := "") (Or.inl (own_w hw 27 rfl)) Via.refl e0 F_zp_marks (g := (mkF m 1 #[.val (.ref zp)] [(.ref zp)])) rfl rfl (Jvm.hb hby d5_1)
  refine own_go (B := T43.setTop (mkF m 4 #[.val (.ref zp)] [(.ref zm)])) (fun t k => st43 _ k) ?_
  refine own_go (B := T43.setTop (mkF m 5 #[.val (.ref zp)] [(.ref zp), (.ref zm)])) (fun t k => XS.aloadN X43.here hx rfl (Jvm.hb hby d5_4) rfl rfl k) ?_
  obtain ⟨T44, X44, e44, st44⟩ := getF X43 hx hZ hown (host := "") (Or.inl (own_w hw 16 rfl)) Via.refl e43 F_zp_top (g := (mkF m 5 #[.val (.ref zp)] [(.ref zp), (.ref zm)])) rfl rfl (Jvm.hb hby d5_5)
  refine own_go (B := T44.setTop (mkF m 8 #[.val (.ref zp)] [(.int zt), (.ref zm)])) (fun t k => st44 _ k) ?_
  obtain ⟨cq45, kq45, q45a, q45b, q45c⟩ := isOf hZ e44 E_zm
  obtain ⟨_, _, ⟨T45, La45, ka45, na45⟩, -, X45, ⟨Lc45, hQ45, l45, y45, z45⟩, st45⟩ := X44.virtualBack hx (y := (⟨"com/example/term_unifier/termunifier/IntStack", "push", "(I)V"⟩ : MethodName)) (z := (⟨"com/example/term_unifier/termunifier/IntStack", "push", "(I)V"⟩ : MethodName)) hown (mvT hZ (own_w hw 41 rfl)) (mvT hZ (own_w hw 42 rfl)) (notFace_of_selects (args := #[]) (mvT hZ (own_w hw 44 rfl))) (mvT hZ (own_w hw 44 rfl)) (mvT hZ (own_w hw 43 rfl)) (by decide) (backOf (W := 0) (rm6 l Z a0 hw [] zm zt zq (0 : Int32) (1 : Int32) 0 zw h0 n0 Zs E_zm F_zm_items F_zm_size V_zq g_zm g_zq ne_zm_zq (by decide) (by decide) (by decide) (by decide) (by decide)) hZ (own_w hw 45 rfl) (own_w hw 20 rfl) (by decide) (by decide)) q45a q45c (g := (mkF m 8 #[.val (.ref zp)] [(.int zt), (.ref zm)])) rfl (by rw [hml]; rfl) (Steps.refl _) (argsL := [(.int zt)]) (rest := []) (lenOf pd_1 rfl) rfl (by show 2 * 0 + _ ≤ _; exact Nat.le_of_eq rfl) (Jvm.hb hby d5_8) (fun _ _ => ⟨rfl, e44, (by decide : 0 + 0 ≤ _), (by decide : 0 + 0 ≤ _)⟩)
  dsimp only [Pt.U, Pt.locs, Pt.cells, Pt.slots] at X45 l45 y45 z45 st45 hQ45
  have y45 : ka45 = 0 := y45
  have z45 : na45 = 0 := z45
  subst y45 z45
  obtain ⟨rfl, N45q, Kc45, E_zm_q, F_zm_items_q, F_zm_size_q, V_zq_q⟩ := hQ45
  have N45 : Fr n0 La45 := by rw [l45]; exact Fr.app N0 N45q
  have E_zp := E_zp.keep Kc45
  have F_zp_firsts := F_zp_firsts.keep Kc45 (ninS ne_zp_zm (ninS ne_zp_zq nin0))
  have F_zp_seconds := F_zp_seconds.keep Kc45 (ninS ne_zp_zm (ninS ne_zp_zq nin0))
  have F_zp_below := F_zp_below.keep Kc45 (ninS ne_zp_zm (ninS ne_zp_zq nin0))
  have F_zp_top := F_zp_top.keep Kc45 (ninS ne_zp_zm (ninS ne_zp_zq nin0))
  have F_zp_used := F_zp_used.keep Kc45 (ninS ne_zp_zm (ninS ne_zp_zq nin0))
  have F_zp_kept := F_zp_kept.keep Kc45 (ninS ne_zp_zm (ninS ne_zp_zq nin0))
  have F_zp_marks := F_zp_marks.keep Kc45 (ninS ne_zp_zm (ninS ne_zp_zq nin0))
  have K := K.trans Kc45 (allS (Or.inl (List.mem_of_getElem? (i := 1) rfl)) (allS (Or.inl (List.mem_of_getElem? (i := 2) rfl)) all0))
  have Zs := Nat.le_trans Zs Kc45.1
  have E_zm := E_zm_q
  have F_zm_items := F_zm_items_q
  have F_zm_size := F_zm_size_q
  have V_zq := V_zq_q
  refine own_go (B := T45.setTop (mkF m 11 #[.val (.ref zp)] [])) (fun t k => own_st st45 k) ?_
  refine own_go (B := T45.setTop (mkF m 12 #[.val (.ref zp)] [(.ref zp)])) (fun t k => XS.aloadN X45.here hx rfl (Jvm.hb hby d5_11) rfl rfl k) ?_
  obtain ⟨T46, X46, e46, st46⟩ := getF X45 hx hZ hown (host := "") (Or.inl (own_w hw 27 rfl)) Via.refl rfl F_zp_marks (g := (mkF m 12 #[.val (.ref zp)] [(.ref zp)])) rfl rfl (Jvm.hb hby d5_12)
  refine own_go (B := T46.setTop (mkF m 15 #[.val (.ref zp)] [(.ref zm)])) (fun t k => st46 _ k) ?_
  refine own_go (B := T46.setTop (mkF m 16 #[.val (.ref zp)] [(.ref zp), (.ref zm)])) (fun t k => XS.aloadN X46.here hx rfl (Jvm.hb hby d5_15) rfl rfl k) ?_
  obtain ⟨T47, X47, e47, st47⟩ := getF X46 hx hZ hown (host := "") (Or.inl (own_w hw 34 rfl)) Via.refl e46 F_zp_used (g := (mkF m 16 #[.val (.ref zp)] [(.ref zp), (.ref zm)])) rfl rfl (Jvm.hb hby d5_16)
  refine own_go (B := T47.setTop (mkF m 19 #[.val (.ref zp)] [(.int zu), (.ref zm)])) (fun t k => st47 _ k) ?_
  obtain ⟨cq48, kq48, q48a, q48b, q48c⟩ := isOf hZ e47 E_zm
  obtain ⟨_, _, ⟨T48, La48, ka48, na48⟩, -, X48, ⟨Lc48, hQ48, l48, y48, z48⟩, st48⟩ := X47.virtualBack hx (y := (⟨"com/example/term_unifier/termunifier/IntStack", "push", "(I)V"⟩ : MethodName)) (z := (⟨"com/example/term_unifier/termunifier/IntStack", "push", "(I)V"⟩ : MethodName)) hown (mvT hZ (own_w hw 41 rfl)) (mvT hZ (own_w hw 42 rfl)) (notFace_of_selects (args := #[]) (mvT hZ (own_w hw 44 rfl))) (mvT hZ (own_w hw 44 rfl)) (mvT hZ (own_w hw 43 rfl)) (by decide) (backOf (W := 0) (rm6 l Z a0 hw [] zm zu zq (1 : Int32) (2 : Int32) 1 (own_upd zw 0 zt) T45.heap n0 Zs E_zm F_zm_items F_zm_size V_zq g_zm g_zq ne_zm_zq (by decide) (by decide) (by decide) (by decide) (by decide)) hZ (own_w hw 45 rfl) (own_w hw 20 rfl) (by decide) (by decide)) q48a q48c (g := (mkF m 19 #[.val (.ref zp)] [(.int zu), (.ref zm)])) rfl (by rw [hml]; rfl) (Steps.refl _) (argsL := [(.int zu)]) (rest := []) (lenOf pd_1 rfl) rfl (by show 2 * 0 + _ ≤ _; exact Nat.le_of_eq rfl) (Jvm.hb hby d5_19) (fun _ _ => ⟨rfl, e47, (by decide : 0 + 0 ≤ _), (by decide : 0 + 0 ≤ _)⟩)
  dsimp only [Pt.U, Pt.locs, Pt.cells, Pt.slots] at X48 l48 y48 z48 st48 hQ48
  have y48 : ka48 = 0 := y48
  have z48 : na48 = 0 := z48
  subst y48 z48
  obtain ⟨rfl, N48q, Kc48, E_zm_q, F_zm_items_q, F_zm_size_q, V_zq_q⟩ := hQ48
  have N48 : Fr n0 La48 := by rw [l48]; exact Fr.app N45 N48q
  have E_zp := E_zp.keep Kc48
  have F_zp_firsts := F_zp_firsts.keep Kc48 (ninS ne_zp_zm (ninS ne_zp_zq nin0))
  have F_zp_seconds := F_zp_seconds.keep Kc48 (ninS ne_zp_zm (ninS ne_zp_zq nin0))
  have F_zp_below := F_zp_below.keep Kc48 (ninS ne_zp_zm (ninS ne_zp_zq nin0))
  have F_zp_top := F_zp_top.keep Kc48 (ninS ne_zp_zm (ninS ne_zp_zq nin0))
  have F_zp_used := F_zp_used.keep Kc48 (ninS ne_zp_zm (ninS ne_zp_zq nin0))
  have F_zp_kept := F_zp_kept.keep Kc48 (ninS ne_zp_zm (ninS ne_zp_zq nin0))
  have F_zp_marks := F_zp_marks.keep Kc48 (ninS ne_zp_zm (ninS ne_zp_zq nin0))
  have K := K.trans Kc48 (allS (Or.inl (List.mem_of_getElem? (i := 1) rfl)) (allS (Or.inl (List.mem_of_getElem? (i := 2) rfl)) all0))
  have Zs := Nat.le_trans Zs Kc48.1
  have E_zm := E_zm_q
  have F_zm_items := F_zm_items_q
  have F_zm_size := F_zm_size_q
  have V_zq := V_zq_q
  refine own_go (B := T48.setTop (mkF m 22 #[.val (.ref zp)] [])) (fun t k => own_st st48 k) ?_
  refine own_go (B := T48.setTop (mkF m 23 #[.val (.ref zp)] [(.ref zp)])) (fun t k => XS.aloadN X48.here hx rfl (Jvm.hb hby d5_22) rfl rfl k) ?_
  obtain ⟨T49, X49, e49, st49⟩ := getF X48 hx hZ hown (host := "") (Or.inl (own_w hw 27 rfl)) Via.refl rfl F_zp_marks (g := (mkF m 23 #[.val (.ref zp)] [(.ref zp)])) rfl rfl (Jvm.hb hby d5_23)
  refine own_go (B := T49.setTop (mkF m 26 #[.val (.ref zp)] [(.ref zm)])) (fun t k => st49 _ k) ?_
  refine own_go (B := T49.setTop (mkF m 27 #[.val (.ref zp)] [(.ref zp), (.ref zm)])) (fun t k => XS.aloadN X49.here hx rfl (Jvm.hb hby d5_26) rfl rfl k) ?_
  obtain ⟨T50, X50, e50, st50⟩ := getF X49 hx hZ hown (host := "") (Or.inl (own_w hw 48 rfl)) Via.refl e49 F_zp_kept (g := (mkF m 27 #[.val (.ref zp)] [(.ref zp), (.ref zm)])) rfl rfl (Jvm.hb hby d5_27)
  refine own_go (B := T50.setTop (mkF m 30 #[.val (.ref zp)] [(.int zc), (.ref zm)])) (fun t k => st50 _ k) ?_
  obtain ⟨cq51, kq51, q51a, q51b, q51c⟩ := isOf hZ e50 E_zm
  obtain ⟨_, _, ⟨T51, La51, ka51, na51⟩, -, X51, ⟨Lc51, hQ51, l51, y51, z51⟩, st51⟩ := X50.virtualBack hx (y := (⟨"com/example/term_unifier/termunifier/IntStack", "push", "(I)V"⟩ : MethodName)) (z := (⟨"com/example/term_unifier/termunifier/IntStack", "push", "(I)V"⟩ : MethodName)) hown (mvT hZ (own_w hw 41 rfl)) (mvT hZ (own_w hw 42 rfl)) (notFace_of_selects (args := #[]) (mvT hZ (own_w hw 44 rfl))) (mvT hZ (own_w hw 44 rfl)) (mvT hZ (own_w hw 43 rfl)) (by decide) (backOf (W := 0) (rm6 l Z a0 hw [] zm zc zq (2 : Int32) (3 : Int32) 2 (own_upd (own_upd zw 0 zt) 1 zu) T48.heap n0 Zs E_zm F_zm_items F_zm_size V_zq g_zm g_zq ne_zm_zq (by decide) (by decide) (by decide) (by decide) (by decide)) hZ (own_w hw 45 rfl) (own_w hw 20 rfl) (by decide) (by decide)) q51a q51c (g := (mkF m 30 #[.val (.ref zp)] [(.int zc), (.ref zm)])) rfl (by rw [hml]; rfl) (Steps.refl _) (argsL := [(.int zc)]) (rest := []) (lenOf pd_1 rfl) rfl (by show 2 * 0 + _ ≤ _; exact Nat.le_of_eq rfl) (Jvm.hb hby d5_30) (fun _ _ => ⟨rfl, e50, (by decide : 0 + 0 ≤ _), (by decide : 0 + 0 ≤ _)⟩)
  dsimp only [Pt.U, Pt.locs, Pt.cells, Pt.slots] at X51 l51 y51 z51 st51 hQ51
  have y51 : ka51 = 0 := y51
  have z51 : na51 = 0 := z51
  subst y51 z51
  obtain ⟨rfl, N51q, Kc51, E_zm_q, F_zm_items_q, F_zm_size_q, V_zq_q⟩ := hQ51
  have N51 : Fr n0 La51 := by rw [l51]; exact Fr.app N48 N51q
  have E_zp := E_zp.keep Kc51
  have F_zp_firsts := F_zp_firsts.keep Kc51 (ninS ne_zp_zm (ninS ne_zp_zq nin0))
  have F_zp_seconds := F_zp_seconds.keep Kc51 (ninS ne_zp_zm (ninS ne_zp_zq nin0))
  have F_zp_below := F_zp_below.keep Kc51 (ninS ne_zp_zm (ninS ne_zp_zq nin0))
  have F_zp_top := F_zp_top.keep Kc51 (ninS ne_zp_zm (ninS ne_zp_zq nin0))
  have F_zp_used := F_zp_used.keep Kc51 (ninS ne_zp_zm (ninS ne_zp_zq nin0))
  have F_zp_kept := F_zp_kept.keep Kc51 (ninS ne_zp_zm (ninS ne_zp_zq nin0))
  have F_zp_marks := F_zp_marks.keep Kc51 (ninS ne_zp_zm (ninS ne_zp_zq nin0))
  have K := K.trans Kc51 (allS (Or.inl (List.mem_of_getElem? (i := 1) rfl)) (allS (Or.inl (List.mem_of_getElem? (i := 2) rfl)) all0))
  have Zs := Nat.le_trans Zs Kc51.1
  have E_zm := E_zm_q
  have F_zm_items := F_zm_items_q
  have F_zm_size := F_zm_size_q
  have V_zq := V_zq_q
  refine own_go (B := T51.setTop (mkF m 33 #[.val (.ref zp)] [])) (fun t k => own_st st51 k) ?_
  refine own_go (B := T51.setTop (mkF m 34 #[.val (.ref zp)] [(.ref zp)])) (fun t k => XS.aloadN X51.here hx rfl (Jvm.hb hby d5_33) rfl rfl k) ?_
  refine own_go (B := T51.setTop (mkF m 35 #[.val (.ref zp)] [(.ref zp), (.ref zp)])) (fun t k => XS.aloadN X51.here hx rfl (Jvm.hb hby d5_34) rfl rfl k) ?_
  obtain ⟨T52, X52, e52, st52⟩ := getF X51 hx hZ hown (host := "") (Or.inl (own_w hw 34 rfl)) Via.refl rfl F_zp_used (g := (mkF m 35 #[.val (.ref zp)] [(.ref zp), (.ref zp)])) rfl rfl (Jvm.hb hby d5_35)
  refine own_go (B := T52.setTop (mkF m 38 #[.val (.ref zp)] [(.int zu), (.ref zp)])) (fun t k => st52 _ k) ?_
  obtain ⟨T53, h53, X53, e53, W53, st53⟩ := putF X52 hx hZ hown (host := "") (Or.inl (own_w hw 48 rfl)) Via.refl e52 F_zp_kept E_zp (Or.inl (own_w hw 49 rfl)) (own_w hw 1 rfl) (ty := .int) (by decide) rfl rfl (g := (mkF m 38 #[.val (.ref zp)] [(.int zu), (.ref zp)])) rfl rfl (Jvm.hb hby d5_38)
  have N53 := Fr.snoc X53 N51 g_zp
  have E_zp := E_zp.wr W53
  have F_zp_firsts := F_zp_firsts.other W53 (Or.inr (slot_ne (Or.inl (own_w hw 11 rfl)) (Or.inl (own_w hw 49 rfl)) (by decide) (t := (.array .int)) (t' := .int) (by decide) (by decide)))
  have F_zp_seconds := F_zp_seconds.other W53 (Or.inr (slot_ne (Or.inl (own_w hw 13 rfl)) (Or.inl (own_w hw 49 rfl)) (by decide) (t := (.array .int)) (t' := .int) (by decide) (by decide)))
  have F_zp_below := F_zp_below.other W53 (Or.inr (slot_ne (Or.inl (own_w hw 15 rfl)) (Or.inl (own_w hw 49 rfl)) (by decide) (t := (.array .int)) (t' := .int) (by decide) (by decide)))
  have F_zp_top := F_zp_top.other W53 (Or.inr (slot_ne (Or.inl (own_w hw 17 rfl)) (Or.inl (own_w hw 49 rfl)) (by decide) (t := .int) (t' := .int) (by decide) (by decide)))
  have F_zp_used := F_zp_used.other W53 (Or.inr (slot_ne (Or.inl (own_w hw 35 rfl)) (Or.inl (own_w hw 49 rfl)) (by decide) (t := .int) (t' := .int) (by decide) (by decide)))
  have F_zp_kept := F_zp_kept.same W53
  have F_zp_marks := F_zp_marks.other W53 (Or.inr (slot_ne (Or.inr (own_w hw 28 rfl)) (Or.inl (own_w hw 49 rfl)) (by decide) (t := (.object "com/example/term_unifier/termunifier/IntStack")) (t' := .int) (by decide) (by decide)))
  have E_zm := E_zm.wr W53
  have F_zm_items := F_zm_items.other W53 (Or.inl (Ne.symm ne_zp_zm))
  have F_zm_size := F_zm_size.other W53 (Or.inl (Ne.symm ne_zp_zm))
  have V_zq := V_zq.other W53 (Ne.symm ne_zp_zq)
  have K := K.wr W53 (Or.inl (List.mem_of_getElem? (i := 0) rfl))
  have Zs := Nat.le_trans Zs (Keep.of_wr W53).1
  refine own_go (B := T53.setTop (mkF m 41 #[.val (.ref zp)] [])) (fun t k => st53 _ k) ?_
  refine own_out X53 (v := none) (fun _ => rfl) Bd.notSynchronized (fun fs hr => X53.returnOut hx Bd.returns (Jvm.hb hby d5_41) hr) ?_ (by decide) (by decide)
  show own_Q5 Z zp z1 z2 z3 zm zq zt zu zc zw h0 n0 none T53.heap _
  rw [e53]
  exact ⟨rfl, N53, K, E_zp, F_zp_firsts, F_zp_seconds, F_zp_below, F_zp_top, F_zp_used, F_zp_kept, F_zp_marks, E_zm, F_zm_items, F_zm_size, V_zq⟩
theorem d11_0 : decode prog_10_method_8_code 0 = .ok (.aload_n 0, 1) := by decide +kernel
theorem d11_1 : decode prog_10_method_8_code 1 = .ok (.aload_n 0, 1) := by decide +kernel
theorem d11_2 : decode prog_10_method_8_code 2 = .ok (.getfield 26, 3) := by decide +kernel
theorem d11_5 : decode prog_10_method_8_code 5 = .ok (.invokevirtual 46, 3) := by decide +kernel
theorem d11_8 : decode prog_10_method_8_code 8 = .ok (.putfield 39, 3) := by decide +kernel
theorem d11_11 : decode prog_10_method_8_code 11 = .ok (.aload_n 0, 1) := by decide +kernel
theorem d11_12 : decode prog_10_method_8_code 12 = .ok (.aload_n 0, 1) := by decide +kernel
theorem d11_13 : decode prog_10_method_8_code 13 = .ok (.getfield 26, 3) := by decide +kernel
theorem d11_16 : decode prog_10_method_8_code 16 = .ok (.invokevirtual 46, 3) := by decide +kernel
theorem d11_19 : decode prog_10_method_8_code 19 = .ok (.putfield 30, 3) := by decide +kernel
theorem d11_22 : decode prog_10_method_8_code 22 = .ok (.aload_n 0, 1) := by decide +kernel
theorem d11_23 : decode prog_10_method_8_code 23 = .ok (.aload_n 0, 1) := by decide +kernel
theorem d11_24 : decode prog_10_method_8_code 24 = .ok (.getfield 26, 3) := by decide +kernel
theorem d11_27 : decode prog_10_method_8_code 27 = .ok (.invokevirtual 46, 3) := by decide +kernel
theorem d11_30 : decode prog_10_method_8_code 30 = .ok (.putfield 19, 3) := by decide +kernel
theorem d11_33 : decode prog_10_method_8_code 33 = .ok (.return_, 1) := by decide +kernel
theorem pd_2 : parseMethodDescriptor "()I" = some ⟨[], some .int⟩ := by decide +kernel
theorem ef_11 (m : MethodId) (x0 : Addr) : entryFrame m #[(.ref x0)] 1 = mkF m 0 #[.val (.ref x0)] [] := by first | (simp [entryFrame, mkF, argsToLocals, Value.category]; done) | rfl
def own_Q11 (Z : State) (zp : Addr) (z1 : Addr) (z2 : Addr) (z3 : Addr) (zm : Addr) (zq : Addr) (zt : Int32) (zu : Int32) (zc : Int32) (za : Int32) (zb : Int32) (zd : Int32) (zw : Nat → Int32) (h0 : Heap) (n0 : Nat) (v : Option Value) (h : Heap) (L : List Loc) : Prop := v = none ∧ Fr n0 L ∧ Keep h0 h [zp, zm] ∧ Exa Z h zp "com/example/term_unifier/termunifier/IntPairStack" ∧ Fld Z h zp "com/example/term_unifier/termunifier/IntPairStack" "firsts" "[I" (.ref z1) ∧ Fld Z h zp "com/example/term_unifier/termunifier/IntPairStack" "seconds" "[I" (.ref z2) ∧ Fld Z h zp "com/example/term_unifier/termunifier/IntPairStack" "below" "[I" (.ref z3) ∧ Fld Z h zp "com/example/term_unifier/termunifier/IntPairStack" "top" "I" (.int zd) ∧ Fld Z h zp "com/example/term_unifier/termunifier/IntPairStack" "used" "I" (.int zb) ∧ Fld Z h zp "com/example/term_unifier/termunifier/IntPairStack" "kept" "I" (.int za) ∧ Fld Z h zp "com/example/term_unifier/termunifier/IntPairStack" "marks" "Lcom/example/term_unifier/termunifier/IntStack;" (.ref zm) ∧ Exa Z h zm "com/example/term_unifier/termunifier/IntStack" ∧ Fld Z h zm "com/example/term_unifier/termunifier/IntStack" "items" "[I" (.ref zq) ∧ Fld Z h zm "com/example/term_unifier/termunifier/IntStack" "size" "I" (.int (0 : Int32)) ∧ own_IA Z h zq .int 16 zw
set_option maxRecDepth 65536 in
set_option maxHeartbeats 40000000 in
theorem rm11 (l : Launch) (Z : State) (a0 : Array Value) (hw : ∀ d ∈ tables_1, d.before a0 Z = true) (ws : List Jvm.Cond) (zp : Addr) (z1 : Addr) (z2 : Addr) (z3 : Addr) (zm : Addr) (zq : Addr) (zt : Int32) (zu : Int32) (zc : Int32) (za : Int32) (zb : Int32) (zd : Int32) (zw : Nat → Int32) (h0 : Heap) (n0 : Nat) (Z0 : n0 ≤ h0.size) (E_zp : Exa Z h0 zp "com/example/term_unifier/termunifier/IntPairStack") (F_zp_firsts : Fld Z h0 zp "com/example/term_unifier/termunifier/IntPairStack" "firsts" "[I" (.ref z1)) (F_zp_seconds : Fld Z h0 zp "com/example/term_unifier/termunifier/IntPairStack" "seconds" "[I" (.ref z2)) (F_zp_below : Fld Z h0 zp "com/example/term_unifier/termunifier/IntPairStack" "below" "[I" (.ref z3)) (F_zp_top : Fld Z h0 zp "com/example/term_unifier/termunifier/IntPairStack" "top" "I" (.int zt)) (F_zp_used : Fld Z h0 zp "com/example/term_unifier/termunifier/IntPairStack" "used" "I" (.int zu)) (F_zp_kept : Fld Z h0 zp "com/example/term_unifier/termunifier/IntPairStack" "kept" "I" (.int zc)) (F_zp_marks : Fld Z h0 zp "com/example/term_unifier/termunifier/IntPairStack" "marks" "Lcom/example/term_unifier/termunifier/IntStack;" (.ref zm)) (E_zm : Exa Z h0 zm "com/example/term_unifier/termunifier/IntStack") (F_zm_items : Fld Z h0 zm "com/example/term_unifier/termunifier/IntStack" "items" "[I" (.ref zq)) (F_zm_size : Fld Z h0 zm "com/example/term_unifier/termunifier/IntStack" "size" "I" (.int (3 : Int32))) (V_zq : own_IA Z h0 zq .int 16 zw) (g_zp : n0 ≤ zp) (g_zm : n0 ≤ zm) (ne_zp_zm : zp ≠ zm) (ne_zp_zq : zp ≠ zq) (ne_zm_zq : zm ≠ zq) (ha : zw 2 = za) (hb_ : zw 1 = zb) (hd_ : zw 0 = zd) :
    MetFree l (⟨"com/example/term_unifier/termunifier/IntPairStack", "returnToMark", "()V"⟩ : MethodName) (head1 (Jvm.Cond.code (⟨"com/example/term_unifier/termunifier/IntPairStack", "returnToMark", "()V"⟩ : MethodName) prog_10_method_8_code 1 none :: ws) ({ frames := 1, cells := 0, slots := 0, locals := 13 } : Room)) (fun a U => a = #[(.ref zp)] ∧ Z.Warmed39 U.vm ∧ U.heap = h0) (fun _ _ _ _ _ => True) (fun _ U o U' => ∃ v L, o = .returned v ∧ own_Q11 Z zp z1 z2 z3 zm zq zt zu zc za zb zd zw h0 n0 v U'.heap L ∧ FrameEnd U o U' L ({ frames := 1, cells := 0, slots := 0, locals := 13 } : Room).cells ({ frames := 1, cells := 0, slots := 0, locals := 13 } : Room).slots) := by
  refine MetFree.of_bodySF (plainFor_of_name pn_com_example_term_unifier_termunifier_IntPairStack) hisR ?_
  intro p e s m args below meth c s₁ Bd hml0 hP hK
  obtain ⟨rfl, hZ, hh⟩ := hP
  have hx := Bd.exec
  have hby := Bd.bytes
  have hml : c.maxLocals = 1 := hml0
  have hown : s.vm.findClass "com/example/term_unifier/termunifier/IntPairStack" = some m.cls := findClass_of_methodNamed Bd.named
  have hnm := (name_of_methodNamed Bd.named Bd.method).1
  have X0 : Stand p l e ({ frames := 1, cells := 0, slots := 0, locals := 13 } : Room) s m #[(.ref zp)] below meth c s₁ [] 0 0 := Stand.of_body Bd
  have e0 : s₁.heap = h0 := by rw [← hh, Bd.state]; rfl
  have N0 := Fr.nil n0
  have Zs := Z0
  have K : Keep h0 h0 [zp, zm] := Keep.refl _ _
  show own_Goes p e below s (own_Q11 Z zp z1 z2 z3 zm zq zt zu zc za zb zd zw h0 n0) ({ frames := 1, cells := 0, slots := 0, locals := 13 } : Room).cells ({ frames := 1, cells := 0, slots := 0, locals := 13 } : Room).slots _
  refine own_go (B := s₁.setTop (mkF m 0 #[.val (.ref zp)] [])) (fun t k => castTop (ef_11 m zp) k) ?_
  refine own_go (B := s₁.setTop (mkF m 1 #[.val (.ref zp)] [(.ref zp)])) (fun t k => XS.aloadN X0.here hx rfl (Jvm.hb hby d11_0) rfl rfl k) ?_
  refine own_go (B := s₁.setTop (mkF m 2 #[.val (.ref zp)] [(.ref zp), (.ref zp)])) (fun t k => XS.aloadN X0.here hx rfl (Jvm.hb hby d11_1) rfl rfl k) ?_
  obtain ⟨T54, X54, e54, st54⟩ := getF X0 hx hZ hown (host := "") (Or.inl (own_w hw 27 rfl)) Via.refl e0 F_zp_marks (g := (mkF m 2 #[.val (.ref zp)] [(.ref zp), (.ref zp)])) rfl rfl (Jvm.hb hby d11_2)
  refine own_go (B := T54.setTop (mkF m 5 #[.val (.ref zp)] [(.ref zm), (.ref zp)])) (fun t k => st54 _ k) ?_
  obtain ⟨cq55, kq55, q55a, q55b, q55c⟩ := isOf hZ e54 E_zm
  obtain ⟨_, _, ⟨T55, La55, ka55, na55⟩, -, X55, ⟨Lc55, hQ55, l55, y55, z55⟩, st55⟩ := X54.virtualBack hx (y := (⟨"com/example/term_unifier/termunifier/IntStack", "pop", "()I"⟩ : MethodName)) (z := (⟨"com/example/term_unifier/termunifier/IntStack", "pop", "()I"⟩ : MethodName)) hown (mvT hZ (own_w hw 75 rfl)) (mvT hZ (own_w hw 76 rfl)) (notFace_of_selects (args := #[]) (mvT hZ (own_w hw 78 rfl))) (mvT hZ (own_w hw 78 rfl)) (mvT hZ (own_w hw 77 rfl)) (by decide) (backOf (W := 1) (rm12 l Z a0 hw [] zm zq (3 : Int32) (2 : Int32) 2 zw h0 n0 Zs E_zm F_zm_items F_zm_size V_zq g_zm ne_zm_zq (by decide) (by decide) (by decide) (by decide)) hZ (own_w hw 79 rfl) (own_w hw 20 rfl) (by decide) (by decide)) q55a q55c (g := (mkF m 5 #[.val (.ref zp)] [(.ref zm), (.ref zp)])) rfl (by rw [hml]; rfl) (Steps.refl _) (argsL := []) (rest := [(.ref zp)]) (lenOf pd_2 rfl) rfl (by show 2 * 0 + _ ≤ _; exact Nat.le_of_eq rfl) (Jvm.hb hby d11_5) (fun _ _ => ⟨rfl, e54, (by decide : 0 + 0 ≤ _), (by decide : 0 + 0 ≤ _)⟩)
  dsimp only [Pt.U, Pt.locs, Pt.cells, Pt.slots] at X55 l55 y55 z55 st55 hQ55
  have y55 : ka55 = 0 := y55
  have z55 : na55 = 0 := z55
  subst y55 z55
  obtain ⟨rfl, N55q, Kc55, E_zm_q, F_zm_items_q, F_zm_size_q, V_zq_q⟩ := hQ55
  have N55 : Fr n0 La55 := by rw [l55]; exact Fr.app N0 N55q
  have E_zp := E_zp.keep Kc55
  have F_zp_firsts := F_zp_firsts.keep Kc55 (ninS ne_zp_zm nin0)
  have F_zp_seconds := F_zp_seconds.keep Kc55 (ninS ne_zp_zm nin0)
  have F_zp_below := F_zp_below.keep Kc55 (ninS ne_zp_zm nin0)
  have F_zp_top := F_zp_top.keep Kc55 (ninS ne_zp_zm nin0)
  have F_zp_used := F_zp_used.keep Kc55 (ninS ne_zp_zm nin0)
  have F_zp_kept := F_zp_kept.keep Kc55 (ninS ne_zp_zm nin0)
  have F_zp_marks := F_zp_marks.keep Kc55 (ninS ne_zp_zm nin0)
  have K := K.trans Kc55 (allS (Or.inl (List.mem_of_getElem? (i := 1) rfl)) all0)
  have Zs := Nat.le_trans Zs Kc55.1
  have E_zm := E_zm_q
  have F_zm_items := F_zm_items_q
  have F_zm_size := F_zm_size_q
  have V_zq := V_zq_q
  refine own_go (B := T55.setTop (mkF m 8 #[.val (.ref zp)] [(.int (zw 2)), (.ref zp)])) (fun t k => own_st st55 k) ?_
  obtain ⟨T56, h56, X56, e56, W56, st56⟩ := putF X55 hx hZ hown (host := "") (Or.inl (own_w hw 48 rfl)) Via.refl rfl F_zp_kept E_zp (Or.inl (own_w hw 49 rfl)) (own_w hw 1 rfl) (ty := .int) (by decide) rfl rfl (g := (mkF m 8 #[.val (.ref zp)] [(.int (zw 2)), (.ref zp)])) rfl rfl (Jvm.hb hby d11_8)
  have N56 := Fr.snoc X56 N55 g_zp
  have E_zp := E_zp.wr W56
  have F_zp_firsts := F_zp_firsts.other W56 (Or.inr (slot_ne (Or.inl (own_w hw 11 rfl)) (Or.inl (own_w hw 49 rfl)) (by decide) (t := (.array .int)) (t' := .int) (by decide) (by decide)))
  have F_zp_seconds := F_zp_seconds.other W56 (Or.inr (slot_ne (Or.inl (own_w hw 13 rfl)) (Or.inl (own_w hw 49 rfl)) (by decide) (t := (.array .int)) (t' := .int) (by decide) (by decide)))
  have F_zp_below := F_zp_below.other W56 (Or.inr (slot_ne (Or.inl (own_w hw 15 rfl)) (Or.inl (own_w hw 49 rfl)) (by decide) (t := (.array .int)) (t' := .int) (by decide) (by decide)))
  have F_zp_top := F_zp_top.other W56 (Or.inr (slot_ne (Or.inl (own_w hw 17 rfl)) (Or.inl (own_w hw 49 rfl)) (by decide) (t := .int) (t' := .int) (by decide) (by decide)))
  have F_zp_used := F_zp_used.other W56 (Or.inr (slot_ne (Or.inl (own_w hw 35 rfl)) (Or.inl (own_w hw 49 rfl)) (by decide) (t := .int) (t' := .int) (by decide) (by decide)))
  have F_zp_kept := F_zp_kept.same W56
  have F_zp_marks := F_zp_marks.other W56 (Or.inr (slot_ne (Or.inr (own_w hw 28 rfl)) (Or.inl (own_w hw 49 rfl)) (by decide) (t := (.object "com/example/term_unifier/termunifier/IntStack")) (t' := .int) (by decide) (by decide)))
  have E_zm := E_zm.wr W56
  have F_zm_items := F_zm_items.other W56 (Or.inl (Ne.symm ne_zp_zm))
  have F_zm_size := F_zm_size.other W56 (Or.inl (Ne.symm ne_zp_zm))
  have V_zq := V_zq.other W56 (Ne.symm ne_zp_zq)
  have K := K.wr W56 (Or.inl (List.mem_of_getElem? (i := 0) rfl))
  have Zs := Nat.le_trans Zs (Keep.of_wr W56).1
  refine own_go (B := T56.setTop (mkF m 11 #[.val (.ref zp)] [])) (fun t k => st56 _ k) ?_
  refine own_go (B := T56.setTop (mkF m 12 #[.val (.ref zp)] [(.ref zp)])) (fun t k => XS.aloadN X56.here hx rfl (Jvm.hb hby d11_11) rfl rfl k) ?_
  refine own_go (B := T56.setTop (mkF m 13 #[.val (.ref zp)] [(.ref zp), (.ref zp)])) (fun t k => XS.aloadN X56.here hx rfl (Jvm.hb hby d11_12) rfl rfl k) ?_
  obtain ⟨T57, X57, e57, st57⟩ := getF X56 hx hZ hown (host := "") (Or.inl (own_w hw 27 rfl)) Via.refl e56 F_zp_marks (g := (mkF m 13 #[.val (.ref zp)] [(.ref zp), (.ref zp)])) rfl rfl (Jvm.hb hby d11_13)
  refine own_go (B := T57.setTop (mkF m 16 #[.val (.ref zp)] [(.ref zm), (.ref zp)])) (fun t k => st57 _ k) ?_
  obtain ⟨cq58, kq58, q58a, q58b, q58c⟩ := isOf hZ e57 E_zm
  obtain ⟨_, _, ⟨T58, La58, ka58, na58⟩, -, X58, ⟨Lc58, hQ58, l58, y58, z58⟩, st58⟩ := X57.virtualBack hx (y := (⟨"com/example/term_unifier/termunifier/IntStack", "pop", "()I"⟩ : MethodName)) (z := (⟨"com/example/term_unifier/termunifier/IntStack", "pop", "()I"⟩ : MethodName)) hown (mvT hZ (own_w hw 75 rfl)) (mvT hZ (own_w hw 76 rfl)) (notFace_of_selects (args := #[]) (mvT hZ (own_w hw 78 rfl))) (mvT hZ (own_w hw 78 rfl)) (mvT hZ (own_w hw 77 rfl)) (by decide) (backOf (W := 1) (rm12 l Z a0 hw [] zm zq (2 : Int32) (1 : Int32) 1 zw h56 n0 Zs E_zm F_zm_items F_zm_size V_zq g_zm ne_zm_zq (by decide) (by decide) (by decide) (by decide)) hZ (own_w hw 79 rfl) (own_w hw 20 rfl) (by decide) (by decide)) q58a q58c (g := (mkF m 16 #[.val (.ref zp)] [(.ref zm), (.ref zp)])) rfl (by rw [hml]; rfl) (Steps.refl _) (argsL := []) (rest := [(.ref zp)]) (lenOf pd_2 rfl) rfl (by show 2 * 0 + _ ≤ _; exact Nat.le_of_eq rfl) (Jvm.hb hby d11_16) (fun _ _ => ⟨rfl, e57, (by decide : 0 + 0 ≤ _), (by decide : 0 + 0 ≤ _)⟩)
  dsimp only [Pt.U, Pt.locs, Pt.cells, Pt.slots] at X58 l58 y58 z58 st58 hQ58
  have y58 : ka58 = 0 := y58
  have z58 : na58 = 0 := z58
  subst y58 z58
  obtain ⟨rfl, N58q, Kc58, E_zm_q, F_zm_items_q, F_zm_size_q, V_zq_q⟩ := hQ58
  have N58 : Fr n0 La58 := by rw [l58]; exact Fr.app N56 N58q
  have E_zp := E_zp.keep Kc58
  have F_zp_firsts := F_zp_firsts.keep Kc58 (ninS ne_zp_zm nin0)
  have F_zp_seconds := F_zp_seconds.keep Kc58 (ninS ne_zp_zm nin0)
  have F_zp_below := F_zp_below.keep Kc58 (ninS ne_zp_zm nin0)
  have F_zp_top := F_zp_top.keep Kc58 (ninS ne_zp_zm nin0)
  have F_zp_used := F_zp_used.keep Kc58 (ninS ne_zp_zm nin0)
  have F_zp_kept := F_zp_kept.keep Kc58 (ninS ne_zp_zm nin0)
  have F_zp_marks := F_zp_marks.keep Kc58 (ninS ne_zp_zm nin0)
  have K := K.trans Kc58 (allS (Or.inl (List.mem_of_getElem? (i := 1) rfl)) all0)
  have Zs := Nat.le_trans Zs Kc58.1
  have E_zm := E_zm_q
  have F_zm_items := F_zm_items_q
  have F_zm_size := F_zm_size_q
  have V_zq := V_zq_q
  refine own_go (B := T58.setTop (mkF m 19 #[.val (.ref zp)] [(.int (zw 1)), (.ref zp)])) (fun t k => own_st st58 k) ?_
  obtain ⟨T59, h59, X59, e59, W59, st59⟩ := putF X58 hx hZ hown (host := "") (Or.inl (own_w hw 34 rfl)) Via.refl rfl F_zp_used E_zp (Or.inl (own_w hw 35 rfl)) (own_w hw 1 rfl) (ty := .int) (by decide) rfl rfl (g := (mkF m 19 #[.val (.ref zp)] [(.int (zw 1)), (.ref zp)])) rfl rfl (Jvm.hb hby d11_19)
  have N59 := Fr.snoc X59 N58 g_zp
  have E_zp := E_zp.wr W59
  have F_zp_firsts := F_zp_firsts.other W59 (Or.inr (slot_ne (Or.inl (own_w hw 11 rfl)) (Or.inl (own_w hw 35 rfl)) (by decide) (t := (.array .int)) (t' := .int) (by decide) (by decide)))
  have F_zp_seconds := F_zp_seconds.other W59 (Or.inr (slot_ne (Or.inl (own_w hw 13 rfl)) (Or.inl (own_w hw 35 rfl)) (by decide) (t := (.array .int)) (t' := .int) (by decide) (by decide)))
  have F_zp_below := F_zp_below.other W59 (Or.inr (slot_ne (Or.inl (own_w hw 15 rfl)) (Or.inl (own_w hw 35 rfl)) (by decide) (t := (.array .int)) (t' := .int) (by decide) (by decide)))
  have F_zp_top := F_zp_top.other W59 (Or.inr (slot_ne (Or.inl (own_w hw 17 rfl)) (Or.inl (own_w hw 35 rfl)) (by decide) (t := .int) (t' := .int) (by decide) (by decide)))
  have F_zp_used := F_zp_used.same W59
  have F_zp_kept := F_zp_kept.other W59 (Or.inr (slot_ne (Or.inl (own_w hw 49 rfl)) (Or.inl (own_w hw 35 rfl)) (by decide) (t := .int) (t' := .int) (by decide) (by decide)))
  have F_zp_marks := F_zp_marks.other W59 (Or.inr (slot_ne (Or.inr (own_w hw 28 rfl)) (Or.inl (own_w hw 35 rfl)) (by decide) (t := (.object "com/example/term_unifier/termunifier/IntStack")) (t' := .int) (by decide) (by decide)))
  have E_zm := E_zm.wr W59
  have F_zm_items := F_zm_items.other W59 (Or.inl (Ne.symm ne_zp_zm))
  have F_zm_size := F_zm_size.other W59 (Or.inl (Ne.symm ne_zp_zm))
  have V_zq := V_zq.other W59 (Ne.symm ne_zp_zq)
  have K := K.wr W59 (Or.inl (List.mem_of_getElem? (i := 0) rfl))
  have Zs := Nat.le_trans Zs (Keep.of_wr W59).1
  refine own_go (B := T59.setTop (mkF m 22 #[.val (.ref zp)] [])) (fun t k => st59 _ k) ?_
  refine own_go (B := T59.setTop (mkF m 23 #[.val (.ref zp)] [(.ref zp)])) (fun t k => XS.aloadN X59.here hx rfl (Jvm.hb hby d11_22) rfl rfl k) ?_
  refine own_go (B := T59.setTop (mkF m 24 #[.val (.ref zp)] [(.ref zp), (.ref zp)])) (fun t k => XS.aloadN X59.here hx rfl (Jvm.hb hby d11_23) rfl rfl k) ?_
  obtain ⟨T60, X60, e60, st60⟩ := getF X59 hx hZ hown (host := "") (Or.inl (own_w hw 27 rfl)) Via.refl e59 F_zp_marks (g := (mkF m 24 #[.val (.ref zp)] [(.ref zp), (.ref zp)])) rfl rfl (Jvm.hb hby d11_24)
  refine own_go (B := T60.setTop (mkF m 27 #[.val (.ref zp)] [(.ref zm), (.ref zp)])) (fun t k => st60 _ k) ?_
  obtain ⟨cq61, kq61, q61a, q61b, q61c⟩ := isOf hZ e60 E_zm
  obtain ⟨_, _, ⟨T61, La61, ka61, na61⟩, -, X61, ⟨Lc61, hQ61, l61, y61, z61⟩, st61⟩ := X60.virtualBack hx (y := (⟨"com/example/term_unifier/termunifier/IntStack", "pop", "()I"⟩ : MethodName)) (z := (⟨"com/example/term_unifier/termunifier/IntStack", "pop", "()I"⟩ : MethodName)) hown (mvT hZ (own_w hw 75 rfl)) (mvT hZ (own_w hw 76 rfl)) (notFace_of_selects (args := #[]) (mvT hZ (own_w hw 78 rfl))) (mvT hZ (own_w hw 78 rfl)) (mvT hZ (own_w hw 77 rfl)) (by decide) (backOf (W := 1) (rm12 l Z a0 hw [] zm zq (1 : Int32) (0 : Int32) 0 zw h59 n0 Zs E_zm F_zm_items F_zm_size V_zq g_zm ne_zm_zq (by decide) (by decide) (by decide) (by decide)) hZ (own_w hw 79 rfl) (own_w hw 20 rfl) (by decide) (by decide)) q61a q61c (g := (mkF m 27 #[.val (.ref zp)] [(.ref zm), (.ref zp)])) rfl (by rw [hml]; rfl) (Steps.refl _) (argsL := []) (rest := [(.ref zp)]) (lenOf pd_2 rfl) rfl (by show 2 * 0 + _ ≤ _; exact Nat.le_of_eq rfl) (Jvm.hb hby d11_27) (fun _ _ => ⟨rfl, e60, (by decide : 0 + 0 ≤ _), (by decide : 0 + 0 ≤ _)⟩)
  dsimp only [Pt.U, Pt.locs, Pt.cells, Pt.slots] at X61 l61 y61 z61 st61 hQ61
  have y61 : ka61 = 0 := y61
  have z61 : na61 = 0 := z61
  subst y61 z61
  obtain ⟨rfl, N61q, Kc61, E_zm_q, F_zm_items_q, F_zm_size_q, V_zq_q⟩ := hQ61
  have N61 : Fr n0 La61 := by rw [l61]; exact Fr.app N59 N61q
  have E_zp := E_zp.keep Kc61
  have F_zp_firsts := F_zp_firsts.keep Kc61 (ninS ne_zp_zm nin0)
  have F_zp_seconds := F_zp_seconds.keep Kc61 (ninS ne_zp_zm nin0)
  have F_zp_below := F_zp_below.keep Kc61 (ninS ne_zp_zm nin0)
  have F_zp_top := F_zp_top.keep Kc61 (ninS ne_zp_zm nin0)
  have F_zp_used := F_zp_used.keep Kc61 (ninS ne_zp_zm nin0)
  have F_zp_kept := F_zp_kept.keep Kc61 (ninS ne_zp_zm nin0)
  have F_zp_marks := F_zp_marks.keep Kc61 (ninS ne_zp_zm nin0)
  have K := K.trans Kc61 (allS (Or.inl (List.mem_of_getElem? (i := 1) rfl)) all0)
  have Zs := Nat.le_trans Zs Kc61.1
  have E_zm := E_zm_q
  have F_zm_items := F_zm_items_q
  have F_zm_size := F_zm_size_q
  have V_zq := V_zq_q
  refine own_go (B := T61.setTop (mkF m 30 #[.val (.ref zp)] [(.int (zw 0)), (.ref zp)])) (fun t k => own_st st61 k) ?_
  obtain ⟨T62, h62, X62, e62, W62, st62⟩ := putF X61 hx hZ hown (host := "") (Or.inl (own_w hw 16 rfl)) Via.refl rfl F_zp_top E_zp (Or.inl (own_w hw 17 rfl)) (own_w hw 1 rfl) (ty := .int) (by decide) rfl rfl (g := (mkF m 30 #[.val (.ref zp)] [(.int (zw 0)), (.ref zp)])) rfl rfl (Jvm.hb hby d11_30)
  have N62 := Fr.snoc X62 N61 g_zp
  have E_zp := E_zp.wr W62
  have F_zp_firsts := F_zp_firsts.other W62 (Or.inr (slot_ne (Or.inl (own_w hw 11 rfl)) (Or.inl (own_w hw 17 rfl)) (by decide) (t := (.array .int)) (t' := .int) (by decide) (by decide)))
  have F_zp_seconds := F_zp_seconds.other W62 (Or.inr (slot_ne (Or.inl (own_w hw 13 rfl)) (Or.inl (own_w hw 17 rfl)) (by decide) (t := (.array .int)) (t' := .int) (by decide) (by decide)))
  have F_zp_below := F_zp_below.other W62 (Or.inr (slot_ne (Or.inl (own_w hw 15 rfl)) (Or.inl (own_w hw 17 rfl)) (by decide) (t := (.array .int)) (t' := .int) (by decide) (by decide)))
  have F_zp_top := F_zp_top.same W62
  have F_zp_used := F_zp_used.other W62 (Or.inr (slot_ne (Or.inl (own_w hw 35 rfl)) (Or.inl (own_w hw 17 rfl)) (by decide) (t := .int) (t' := .int) (by decide) (by decide)))
  have F_zp_kept := F_zp_kept.other W62 (Or.inr (slot_ne (Or.inl (own_w hw 49 rfl)) (Or.inl (own_w hw 17 rfl)) (by decide) (t := .int) (t' := .int) (by decide) (by decide)))
  have F_zp_marks := F_zp_marks.other W62 (Or.inr (slot_ne (Or.inr (own_w hw 28 rfl)) (Or.inl (own_w hw 17 rfl)) (by decide) (t := (.object "com/example/term_unifier/termunifier/IntStack")) (t' := .int) (by decide) (by decide)))
  have E_zm := E_zm.wr W62
  have F_zm_items := F_zm_items.other W62 (Or.inl (Ne.symm ne_zp_zm))
  have F_zm_size := F_zm_size.other W62 (Or.inl (Ne.symm ne_zp_zm))
  have V_zq := V_zq.other W62 (Ne.symm ne_zp_zq)
  have K := K.wr W62 (Or.inl (List.mem_of_getElem? (i := 0) rfl))
  have Zs := Nat.le_trans Zs (Keep.of_wr W62).1
  refine own_go (B := T62.setTop (mkF m 33 #[.val (.ref zp)] [])) (fun t k => st62 _ k) ?_
  refine own_out X62 (v := none) (fun _ => rfl) Bd.notSynchronized (fun fs hr => X62.returnOut hx Bd.returns (Jvm.hb hby d11_33) hr) ?_ (by decide) (by decide)
  show own_Q11 Z zp z1 z2 z3 zm zq zt zu zc za zb zd zw h0 n0 none T62.heap _
  rw [e62]
  exact ⟨rfl, N62, K, E_zp, F_zp_firsts, F_zp_seconds, F_zp_below, (by rw [← hd_]; exact F_zp_top), (by rw [← hb_]; exact F_zp_used), (by rw [← ha]; exact F_zp_kept), F_zp_marks, E_zm, F_zm_items, F_zm_size, V_zq⟩
theorem d7_0 : decode prog_10_method_5_code 0 = .ok (.aload_n 0, 1) := by decide +kernel
theorem d7_1 : decode prog_10_method_5_code 1 = .ok (.getfield 19, 3) := by decide +kernel
theorem d7_4 : decode prog_10_method_5_code 4 = .ok (.istore_n 1, 1) := by decide +kernel
theorem d7_5 : decode prog_10_method_5_code 5 = .ok (.aload_n 0, 1) := by decide +kernel
theorem d7_6 : decode prog_10_method_5_code 6 = .ok (.aload_n 0, 1) := by decide +kernel
theorem d7_7 : decode prog_10_method_5_code 7 = .ok (.getfield 16, 3) := by decide +kernel
theorem d7_10 : decode prog_10_method_5_code 10 = .ok (.iload_n 1, 1) := by decide +kernel
theorem d7_11 : decode prog_10_method_5_code 11 = .ok (.iaload, 1) := by decide +kernel
theorem d7_12 : decode prog_10_method_5_code 12 = .ok (.putfield 19, 3) := by decide +kernel
theorem d7_15 : decode prog_10_method_5_code 15 = .ok (.iload_n 1, 1) := by decide +kernel
theorem d7_16 : decode prog_10_method_5_code 16 = .ok (.aload_n 0, 1) := by decide +kernel
theorem d7_17 : decode prog_10_method_5_code 17 = .ok (.getfield 30, 3) := by decide +kernel
theorem d7_20 : decode prog_10_method_5_code 20 = .ok (.iconst 1, 1) := by decide +kernel
theorem d7_21 : decode prog_10_method_5_code 21 = .ok (.isub, 1) := by decide +kernel
theorem d7_22 : decode prog_10_method_5_code 22 = .ok (.if_icmp .ne 21, 3) := by decide +kernel
theorem d7_25 : decode prog_10_method_5_code 25 = .ok (.iload_n 1, 1) := by decide +kernel
theorem d7_26 : decode prog_10_method_5_code 26 = .ok (.aload_n 0, 1) := by decide +kernel
theorem d7_27 : decode prog_10_method_5_code 27 = .ok (.getfield 39, 3) := by decide +kernel
theorem d7_30 : decode prog_10_method_5_code 30 = .ok (.if_icmp .lt 13, 3) := by decide +kernel
theorem d7_33 : decode prog_10_method_5_code 33 = .ok (.aload_n 0, 1) := by decide +kernel
theorem d7_34 : decode prog_10_method_5_code 34 = .ok (.dup, 1) := by decide +kernel
theorem d7_35 : decode prog_10_method_5_code 35 = .ok (.getfield 30, 3) := by decide +kernel
theorem d7_38 : decode prog_10_method_5_code 38 = .ok (.iconst 1, 1) := by decide +kernel
theorem d7_39 : decode prog_10_method_5_code 39 = .ok (.isub, 1) := by decide +kernel
theorem d7_40 : decode prog_10_method_5_code 40 = .ok (.putfield 30, 3) := by decide +kernel
theorem d7_43 : decode prog_10_method_5_code 43 = .ok (.return_, 1) := by decide +kernel
theorem ef_7_popd (m : MethodId) (x0 : Addr) : entryFrame m #[(.ref x0)] 2 = mkF m 0 #[.val (.ref x0), .unset] [] := by first | (simp [entryFrame, mkF, argsToLocals, Value.category]; done) | rfl
def own_Q7_popd (Z : State) (zp : Addr) (z1 : Addr) (z2 : Addr) (z3 : Addr) (zm : Addr) (zt : Int32) (zu : Int32) (zc : Int32) (zn : Int32) (zv : Int32) (zk : Nat) (zh : Nat → Int32) (h0 : Heap) (n0 : Nat) (v : Option Value) (h : Heap) (L : List Loc) : Prop := v = none ∧ Fr n0 L ∧ Keep h0 h [zp] ∧ Exa Z h zp "com/example/term_unifier/termunifier/IntPairStack" ∧ Fld Z h zp "com/example/term_unifier/termunifier/IntPairStack" "firsts" "[I" (.ref z1) ∧ Fld Z h zp "com/example/term_unifier/termunifier/IntPairStack" "seconds" "[I" (.ref z2) ∧ Fld Z h zp "com/example/term_unifier/termunifier/IntPairStack" "below" "[I" (.ref z3) ∧ Fld Z h zp "com/example/term_unifier/termunifier/IntPairStack" "top" "I" (.int zn) ∧ Fld Z h zp "com/example/term_unifier/termunifier/IntPairStack" "used" "I" (.int zv) ∧ Fld Z h zp "com/example/term_unifier/termunifier/IntPairStack" "kept" "I" (.int zc) ∧ Fld Z h zp "com/example/term_unifier/termunifier/IntPairStack" "marks" "Lcom/example/term_unifier/termunifier/IntStack;" (.ref zm)
set_option maxRecDepth 65536 in
set_option maxHeartbeats 40000000 in
theorem rm_popd (l : Launch) (Z : State) (a0 : Array Value) (hw : ∀ d ∈ tables_1, d.before a0 Z = true) (ws : List Jvm.Cond) (zp : Addr) (z1 : Addr) (z2 : Addr) (z3 : Addr) (zm : Addr) (zt : Int32) (zu : Int32) (zc : Int32) (zn : Int32) (zv : Int32) (zk : Nat) (zh : Nat → Int32) (h0 : Heap) (n0 : Nat) (Z0 : n0 ≤ h0.size) (E_zp : Exa Z h0 zp "com/example/term_unifier/termunifier/IntPairStack") (F_zp_firsts : Fld Z h0 zp "com/example/term_unifier/termunifier/IntPairStack" "firsts" "[I" (.ref z1)) (F_zp_seconds : Fld Z h0 zp "com/example/term_unifier/termunifier/IntPairStack" "seconds" "[I" (.ref z2)) (F_zp_below : Fld Z h0 zp "com/example/term_unifier/termunifier/IntPairStack" "below" "[I" (.ref z3)) (F_zp_top : Fld Z h0 zp "com/example/term_unifier/termunifier/IntPairStack" "top" "I" (.int zt)) (F_zp_used : Fld Z h0 zp "com/example/term_unifier/termunifier/IntPairStack" "used" "I" (.int zu)) (F_zp_kept : Fld Z h0 zp "com/example/term_unifier/termunifier/IntPairStack" "kept" "I" (.int zc)) (F_zp_marks : Fld Z h0 zp "com/example/term_unifier/termunifier/IntPairStack" "marks" "Lcom/example/term_unifier/termunifier/IntStack;" (.ref zm)) (V_z3 : own_IA Z h0 z3 .int 16 zh) (g_zp : n0 ≤ zp) (ne_zp_z3 : zp ≠ z3) (hk0 : ¬ (zt < 0)) (hk : zt.toNatClampNeg = zk) (hk1 : zk < 16) (hn : zh zk = zn) (hv : (zu - (1 : Int32)) = zv) (hA : zt = (zu - (1 : Int32))) (hB : ¬ (zt < zc)) :
    MetFree l (⟨"com/example/term_unifier/termunifier/IntPairStack", "pop", "()V"⟩ : MethodName) (head1 (Jvm.Cond.code (⟨"com/example/term_unifier/termunifier/IntPairStack", "pop", "()V"⟩ : MethodName) prog_10_method_5_code 2 none :: ws) ({ frames := 0, cells := 0, slots := 0, locals := 0 } : Room)) (fun a U => a = #[(.ref zp)] ∧ Z.Warmed39 U.vm ∧ U.heap = h0) (fun _ _ _ _ _ => True) (fun _ U o U' => ∃ v L, o = .returned v ∧ own_Q7_popd Z zp z1 z2 z3 zm zt zu zc zn zv zk zh h0 n0 v U'.heap L ∧ FrameEnd U o U' L ({ frames := 0, cells := 0, slots := 0, locals := 0 } : Room).cells ({ frames := 0, cells := 0, slots := 0, locals := 0 } : Room).slots) := by
  refine MetFree.of_bodySF (plainFor_of_name pn_com_example_term_unifier_termunifier_IntPairStack) hisR ?_
  intro p e s m args below meth c s₁ Bd hml0 hP hK
  obtain ⟨rfl, hZ, hh⟩ := hP
  have hx := Bd.exec
  have hby := Bd.bytes
  have hml : c.maxLocals = 2 := hml0
  have hown : s.vm.findClass "com/example/term_unifier/termunifier/IntPairStack" = some m.cls := findClass_of_methodNamed Bd.named
  have hnm := (name_of_methodNamed Bd.named Bd.method).1
  have X0 : Stand p l e ({ frames := 0, cells := 0, slots := 0, locals := 0 } : Room) s m #[(.ref zp)] below meth c s₁ [] 0 0 := Stand.of_body Bd
  have e0 : s₁.heap = h0 := by rw [← hh, Bd.state]; rfl
  have N0 := Fr.nil n0
  have Zs := Z0
  have K : Keep h0 h0 [zp] := Keep.refl _ _
  show own_Goes p e below s (own_Q7_popd Z zp z1 z2 z3 zm zt zu zc zn zv zk zh h0 n0) ({ frames := 0, cells := 0, slots := 0, locals := 0 } : Room).cells ({ frames := 0, cells := 0, slots := 0, locals := 0 } : Room).slots _
  refine own_go (B := s₁.setTop (mkF m 0 #[.val (.ref zp), .unset] [])) (fun t k => castTop (ef_7_popd m zp) k) ?_
  refine own_go (B := s₁.setTop (mkF m 1 #[.val (.ref zp), .unset] [(.ref zp)])) (fun t k => XS.aloadN X0.here hx rfl (Jvm.hb hby d7_0) rfl rfl k) ?_
  obtain ⟨T63, X63, e63, st63⟩ := getF X0 hx hZ hown (host := "") (Or.inl (own_w hw 16 rfl)) Via.refl e0 F_zp_top (g := (mkF m 1 #[.val (.ref zp), .unset] [(.ref zp)])) rfl rfl (Jvm.hb hby d7_1)
  refine own_go (B := T63.setTop (mkF m 4 #[.val (.ref zp), .unset] [(.int zt)])) (fun t k => st63 _ k) ?_
  refine own_go (B := T63.setTop (mkF m 5 #[.val (.ref zp), .val (.int zt)] [])) (fun t k => XS.istoreN X63.here hx rfl (Jvm.hb hby d7_4) rfl (l' := #[.val (.ref zp), .val (.int zt)]) rfl k) ?_
  refine own_go (B := T63.setTop (mkF m 6 #[.val (.ref zp), .val (.int zt)] [(.ref zp)])) (fun t k => XS.aloadN X63.here hx rfl (Jvm.hb hby d7_5) rfl rfl k) ?_
  refine own_go (B := T63.setTop (mkF m 7 #[.val (.ref zp), .val (.int zt)] [(.ref zp), (.ref zp)])) (fun t k => XS.aloadN X63.here hx rfl (Jvm.hb hby d7_6) rfl rfl k) ?_
  obtain ⟨T64, X64, e64, st64⟩ := getF X63 hx hZ hown (host := "") (Or.inl (own_w hw 14 rfl)) Via.refl e63 F_zp_below (g := (mkF m 7 #[.val (.ref zp), .val (.int zt)] [(.ref zp), (.ref zp)])) rfl rfl (Jvm.hb hby d7_7)
  refine own_go (B := T64.setTop (mkF m 10 #[.val (.ref zp), .val (.int zt)] [(.ref z3), (.ref zp)])) (fun t k => st64 _ k) ?_
  refine own_go (B := T64.setTop (mkF m 11 #[.val (.ref zp), .val (.int zt)] [(.int zt), (.ref z3), (.ref zp)])) (fun t k => XS.iloadN X64.here hx rfl (Jvm.hb hby d7_10) rfl k) ?_
  refine own_go (B := T64.setTop (mkF m 12 #[.val (.ref zp), .val (.int zt)] [(.int (zh zk)), (.ref zp)])) (fun t k => own_iaload X64 hx hZ e64 V_z3 (j := zt) (k := zk) hk0 hk hk1 (Jvm.hb hby d7_11) t k) ?_
  obtain ⟨T65, h65, X65, e65, W65, st65⟩ := putF X64 hx hZ hown (host := "") (Or.inl (own_w hw 16 rfl)) Via.refl e64 F_zp_top E_zp (Or.inl (own_w hw 17 rfl)) (own_w hw 1 rfl) (ty := .int) (by decide) rfl rfl (g := (mkF m 12 #[.val (.ref zp), .val (.int zt)] [(.int (zh zk)), (.ref zp)])) rfl rfl (Jvm.hb hby d7_12)
  have N65 := Fr.snoc X65 N0 g_zp
  have E_zp := E_zp.wr W65
  have F_zp_firsts := F_zp_firsts.other W65 (Or.inr (slot_ne (Or.inl (own_w hw 11 rfl)) (Or.inl (own_w hw 17 rfl)) (by decide) (t := (.array .int)) (t' := .int) (by decide) (by decide)))
  have F_zp_seconds := F_zp_seconds.other W65 (Or.inr (slot_ne (Or.inl (own_w hw 13 rfl)) (Or.inl (own_w hw 17 rfl)) (by decide) (t := (.array .int)) (t' := .int) (by decide) (by decide)))
  have F_zp_below := F_zp_below.other W65 (Or.inr (slot_ne (Or.inl (own_w hw 15 rfl)) (Or.inl (own_w hw 17 rfl)) (by decide) (t := (.array .int)) (t' := .int) (by decide) (by decide)))
  have F_zp_top := F_zp_top.same W65
  have F_zp_used := F_zp_used.other W65 (Or.inr (slot_ne (Or.inl (own_w hw 35 rfl)) (Or.inl (own_w hw 17 rfl)) (by decide) (t := .int) (t' := .int) (by decide) (by decide)))
  have F_zp_kept := F_zp_kept.other W65 (Or.inr (slot_ne (Or.inl (own_w hw 49 rfl)) (Or.inl (own_w hw 17 rfl)) (by decide) (t := .int) (t' := .int) (by decide) (by decide)))
  have F_zp_marks := F_zp_marks.other W65 (Or.inr (slot_ne (Or.inr (own_w hw 28 rfl)) (Or.inl (own_w hw 17 rfl)) (by decide) (t := (.object "com/example/term_unifier/termunifier/IntStack")) (t' := .int) (by decide) (by decide)))
  have V_z3 := V_z3.other W65 (Ne.symm ne_zp_z3)
  have K := K.wr W65 (Or.inl (List.mem_of_getElem? (i := 0) rfl))
  have Zs := Nat.le_trans Zs (Keep.of_wr W65).1
  refine own_go (B := T65.setTop (mkF m 15 #[.val (.ref zp), .val (.int zt)] [])) (fun t k => st65 _ k) ?_
  refine own_go (B := T65.setTop (mkF m 16 #[.val (.ref zp), .val (.int zt)] [(.int zt)])) (fun t k => XS.iloadN X65.here hx rfl (Jvm.hb hby d7_15) rfl k) ?_
  refine own_go (B := T65.setTop (mkF m 17 #[.val (.ref zp), .val (.int zt)] [(.ref zp), (.int zt)])) (fun t k => XS.aloadN X65.here hx rfl (Jvm.hb hby d7_16) rfl rfl k) ?_
  obtain ⟨T66, X66, e66, st66⟩ := getF X65 hx hZ hown (host := "") (Or.inl (own_w hw 34 rfl)) Via.refl e65 F_zp_used (g := (mkF m 17 #[.val (.ref zp), .val (.int zt)] [(.ref zp), (.int zt)])) rfl rfl (Jvm.hb hby d7_17)
  refine own_go (B := T66.setTop (mkF m 20 #[.val (.ref zp), .val (.int zt)] [(.int zu), (.int zt)])) (fun t k => st66 _ k) ?_
  refine own_go (B := T66.setTop (mkF m 21 #[.val (.ref zp), .val (.int zt)] [(.int (1 : Int32)), (.int zu), (.int zt)])) (fun t k => XS.iconst X66.here hx rfl (Jvm.hb hby d7_20) k) ?_
  refine own_go (B := T66.setTop (mkF m 22 #[.val (.ref zp), .val (.int zt)] [(.int (zu - (1 : Int32))), (.int zt)])) (fun t k => XS.isub X66.here hx rfl (Jvm.hb hby d7_21) rfl k) ?_
  refine own_go (B := T66.setTop (mkF m 25 #[.val (.ref zp), .val (.int zt)] [])) (fun t k => XS.icmpNo X66.here hx rfl (Jvm.hb hby d7_22) rfl (teq hA).2 k) ?_
  refine own_go (B := T66.setTop (mkF m 26 #[.val (.ref zp), .val (.int zt)] [(.int zt)])) (fun t k => XS.iloadN X66.here hx rfl (Jvm.hb hby d7_25) rfl k) ?_
  refine own_go (B := T66.setTop (mkF m 27 #[.val (.ref zp), .val (.int zt)] [(.ref zp), (.int zt)])) (fun t k => XS.aloadN X66.here hx rfl (Jvm.hb hby d7_26) rfl rfl k) ?_
  obtain ⟨T67, X67, e67, st67⟩ := getF X66 hx hZ hown (host := "") (Or.inl (own_w hw 48 rfl)) Via.refl e66 F_zp_kept (g := (mkF m 27 #[.val (.ref zp), .val (.int zt)] [(.ref zp), (.int zt)])) rfl rfl (Jvm.hb hby d7_27)
  refine own_go (B := T67.setTop (mkF m 30 #[.val (.ref zp), .val (.int zt)] [(.int zc), (.int zt)])) (fun t k => st67 _ k) ?_
  refine own_go (B := T67.setTop (mkF m 33 #[.val (.ref zp), .val (.int zt)] [])) (fun t k => XS.icmpNo X67.here hx rfl (Jvm.hb hby d7_30) rfl (flt hB).1 k) ?_
  refine own_go (B := T67.setTop (mkF m 34 #[.val (.ref zp), .val (.int zt)] [(.ref zp)])) (fun t k => XS.aloadN X67.here hx rfl (Jvm.hb hby d7_33) rfl rfl k) ?_
  refine own_go (B := T67.setTop (mkF m 35 #[.val (.ref zp), .val (.int zt)] [(.ref zp), (.ref zp)])) (fun t k => XS.dup X67.here hx rfl (Jvm.hb hby d7_34) rfl rfl k) ?_
  obtain ⟨T68, X68, e68, st68⟩ := getF X67 hx hZ hown (host := "") (Or.inl (own_w hw 34 rfl)) Via.refl e67 F_zp_used (g := (mkF m 35 #[.val (.ref zp), .val (.int zt)] [(.ref zp), (.ref zp)])) rfl rfl (Jvm.hb hby d7_35)
  refine own_go (B := T68.setTop (mkF m 38 #[.val (.ref zp), .val (.int zt)] [(.int zu), (.ref zp)])) (fun t k => st68 _ k) ?_
  refine own_go (B := T68.setTop (mkF m 39 #[.val (.ref zp), .val (.int zt)] [(.int (1 : Int32)), (.int zu), (.ref zp)])) (fun t k => XS.iconst X68.here hx rfl (Jvm.hb hby d7_38) k) ?_
  refine own_go (B := T68.setTop (mkF m 40 #[.val (.ref zp), .val (.int zt)] [(.int (zu - (1 : Int32))), (.ref zp)])) (fun t k => XS.isub X68.here hx rfl (Jvm.hb hby d7_39) rfl k) ?_
  obtain ⟨T69, h69, X69, e69, W69, st69⟩ := putF X68 hx hZ hown (host := "") (Or.inl (own_w hw 34 rfl)) Via.refl e68 F_zp_used E_zp (Or.inl (own_w hw 35 rfl)) (own_w hw 1 rfl) (ty := .int) (by decide) rfl rfl (g := (mkF m 40 #[.val (.ref zp), .val (.int zt)] [(.int (zu - (1 : Int32))), (.ref zp)])) rfl rfl (Jvm.hb hby d7_40)
  have N69 := Fr.snoc X69 N65 g_zp
  have E_zp := E_zp.wr W69
  have F_zp_firsts := F_zp_firsts.other W69 (Or.inr (slot_ne (Or.inl (own_w hw 11 rfl)) (Or.inl (own_w hw 35 rfl)) (by decide) (t := (.array .int)) (t' := .int) (by decide) (by decide)))
  have F_zp_seconds := F_zp_seconds.other W69 (Or.inr (slot_ne (Or.inl (own_w hw 13 rfl)) (Or.inl (own_w hw 35 rfl)) (by decide) (t := (.array .int)) (t' := .int) (by decide) (by decide)))
  have F_zp_below := F_zp_below.other W69 (Or.inr (slot_ne (Or.inl (own_w hw 15 rfl)) (Or.inl (own_w hw 35 rfl)) (by decide) (t := (.array .int)) (t' := .int) (by decide) (by decide)))
  have F_zp_top := F_zp_top.other W69 (Or.inr (slot_ne (Or.inl (own_w hw 17 rfl)) (Or.inl (own_w hw 35 rfl)) (by decide) (t := .int) (t' := .int) (by decide) (by decide)))
  have F_zp_used := F_zp_used.same W69
  have F_zp_kept := F_zp_kept.other W69 (Or.inr (slot_ne (Or.inl (own_w hw 49 rfl)) (Or.inl (own_w hw 35 rfl)) (by decide) (t := .int) (t' := .int) (by decide) (by decide)))
  have F_zp_marks := F_zp_marks.other W69 (Or.inr (slot_ne (Or.inr (own_w hw 28 rfl)) (Or.inl (own_w hw 35 rfl)) (by decide) (t := (.object "com/example/term_unifier/termunifier/IntStack")) (t' := .int) (by decide) (by decide)))
  have V_z3 := V_z3.other W69 (Ne.symm ne_zp_z3)
  have K := K.wr W69 (Or.inl (List.mem_of_getElem? (i := 0) rfl))
  have Zs := Nat.le_trans Zs (Keep.of_wr W69).1
  refine own_go (B := T69.setTop (mkF m 43 #[.val (.ref zp), .val (.int zt)] [])) (fun t k => st69 _ k) ?_
  refine own_out X69 (v := none) (fun _ => rfl) Bd.notSynchronized (fun fs hr => X69.returnOut hx Bd.returns (Jvm.hb hby d7_43) hr) ?_ (by decide) (by decide)
  show own_Q7_popd Z zp z1 z2 z3 zm zt zu zc zn zv zk zh h0 n0 none T69.heap _
  rw [e69]
  exact ⟨rfl, N69, K, E_zp, F_zp_firsts, F_zp_seconds, F_zp_below, (by rw [← hn]; exact F_zp_top), (by rw [← hv]; exact F_zp_used), F_zp_kept, F_zp_marks⟩
theorem ef_7_popk (m : MethodId) (x0 : Addr) : entryFrame m #[(.ref x0)] 2 = mkF m 0 #[.val (.ref x0), .unset] [] := by first | (simp [entryFrame, mkF, argsToLocals, Value.category]; done) | rfl
def own_Q7_popk (Z : State) (zp : Addr) (z1 : Addr) (z2 : Addr) (z3 : Addr) (zm : Addr) (zt : Int32) (zu : Int32) (zc : Int32) (zn : Int32) (zv : Int32) (zk : Nat) (zh : Nat → Int32) (h0 : Heap) (n0 : Nat) (v : Option Value) (h : Heap) (L : List Loc) : Prop := v = none ∧ Fr n0 L ∧ Keep h0 h [zp] ∧ Exa Z h zp "com/example/term_unifier/termunifier/IntPairStack" ∧ Fld Z h zp "com/example/term_unifier/termunifier/IntPairStack" "firsts" "[I" (.ref z1) ∧ Fld Z h zp "com/example/term_unifier/termunifier/IntPairStack" "seconds" "[I" (.ref z2) ∧ Fld Z h zp "com/example/term_unifier/termunifier/IntPairStack" "below" "[I" (.ref z3) ∧ Fld Z h zp "com/example/term_unifier/termunifier/IntPairStack" "top" "I" (.int zn) ∧ Fld Z h zp "com/example/term_unifier/termunifier/IntPairStack" "used" "I" (.int zu) ∧ Fld Z h zp "com/example/term_unifier/termunifier/IntPairStack" "kept" "I" (.int zc) ∧ Fld Z h zp "com/example/term_unifier/termunifier/IntPairStack" "marks" "Lcom/example/term_unifier/termunifier/IntStack;" (.ref zm)
set_option maxRecDepth 65536 in
set_option maxHeartbeats 40000000 in
theorem rm_popk (l : Launch) (Z : State) (a0 : Array Value) (hw : ∀ d ∈ tables_1, d.before a0 Z = true) (ws : List Jvm.Cond) (zp : Addr) (z1 : Addr) (z2 : Addr) (z3 : Addr) (zm : Addr) (zt : Int32) (zu : Int32) (zc : Int32) (zn : Int32) (zv : Int32) (zk : Nat) (zh : Nat → Int32) (h0 : Heap) (n0 : Nat) (Z0 : n0 ≤ h0.size) (E_zp : Exa Z h0 zp "com/example/term_unifier/termunifier/IntPairStack") (F_zp_firsts : Fld Z h0 zp "com/example/term_unifier/termunifier/IntPairStack" "firsts" "[I" (.ref z1)) (F_zp_seconds : Fld Z h0 zp "com/example/term_unifier/termunifier/IntPairStack" "seconds" "[I" (.ref z2)) (F_zp_below : Fld Z h0 zp "com/example/term_unifier/termunifier/IntPairStack" "below" "[I" (.ref z3)) (F_zp_top : Fld Z h0 zp "com/example/term_unifier/termunifier/IntPairStack" "top" "I" (.int zt)) (F_zp_used : Fld Z h0 zp "com/example/term_unifier/termunifier/IntPairStack" "used" "I" (.int zu)) (F_zp_kept : Fld Z h0 zp "com/example/term_unifier/termunifier/IntPairStack" "kept" "I" (.int zc)) (F_zp_marks : Fld Z h0 zp "com/example/term_unifier/termunifier/IntPairStack" "marks" "Lcom/example/term_unifier/termunifier/IntStack;" (.ref zm)) (V_z3 : own_IA Z h0 z3 .int 16 zh) (g_zp : n0 ≤ zp) (ne_zp_z3 : zp ≠ z3) (hk0 : ¬ (zt < 0)) (hk : zt.toNatClampNeg = zk) (hk1 : zk < 16) (hn : zh zk = zn) (hv : (zu - (1 : Int32)) = zv) (hA : zt = (zu - (1 : Int32))) (hB : zt < zc) :
    MetFree l (⟨"com/example/term_unifier/termunifier/IntPairStack", "pop", "()V"⟩ : MethodName) (head1 (Jvm.Cond.code (⟨"com/example/term_unifier/termunifier/IntPairStack", "pop", "()V"⟩ : MethodName) prog_10_method_5_code 2 none :: ws) ({ frames := 0, cells := 0, slots := 0, locals := 0 } : Room)) (fun a U => a = #[(.ref zp)] ∧ Z.Warmed39 U.vm ∧ U.heap = h0) (fun _ _ _ _ _ => True) (fun _ U o U' => ∃ v L, o = .returned v ∧ own_Q7_popk Z zp z1 z2 z3 zm zt zu zc zn zv zk zh h0 n0 v U'.heap L ∧ FrameEnd U o U' L ({ frames := 0, cells := 0, slots := 0, locals := 0 } : Room).cells ({ frames := 0, cells := 0, slots := 0, locals := 0 } : Room).slots) := by
  refine MetFree.of_bodySF (plainFor_of_name pn_com_example_term_unifier_termunifier_IntPairStack) hisR ?_
  intro p e s m args below meth c s₁ Bd hml0 hP hK
  obtain ⟨rfl, hZ, hh⟩ := hP
  have hx := Bd.exec
  have hby := Bd.bytes
  have hml : c.maxLocals = 2 := hml0
  have hown : s.vm.findClass "com/example/term_unifier/termunifier/IntPairStack" = some m.cls := findClass_of_methodNamed Bd.named
  have hnm := (name_of_methodNamed Bd.named Bd.method).1
  have X0 : Stand p l e ({ frames := 0, cells := 0, slots := 0, locals := 0 } : Room) s m #[(.ref zp)] below meth c s₁ [] 0 0 := Stand.of_body Bd
  have e0 : s₁.heap = h0 := by rw [← hh, Bd.state]; rfl
  have N0 := Fr.nil n0
  have Zs := Z0
  have K : Keep h0 h0 [zp] := Keep.refl _ _
  show own_Goes p e below s (own_Q7_popk Z zp z1 z2 z3 zm zt zu zc zn zv zk zh h0 n0) ({ frames := 0, cells := 0, slots := 0, locals := 0 } : Room).cells ({ frames := 0, cells := 0, slots := 0, locals := 0 } : Room).slots _
  refine own_go (B := s₁.setTop (mkF m 0 #[.val (.ref zp), .unset] [])) (fun t k => castTop (ef_7_popk m zp) k) ?_
  refine own_go (B := s₁.setTop (mkF m 1 #[.val (.ref zp), .unset] [(.ref zp)])) (fun t k => XS.aloadN X0.here hx rfl (Jvm.hb hby d7_0) rfl rfl k) ?_
  obtain ⟨T70, X70, e70, st70⟩ := getF X0 hx hZ hown (host := "") (Or.inl (own_w hw 16 rfl)) Via.refl e0 F_zp_top (g := (mkF m 1 #[.val (.ref zp), .unset] [(.ref zp)])) rfl rfl (Jvm.hb hby d7_1)
  refine own_go (B := T70.setTop (mkF m 4 #[.val (.ref zp), .unset] [(.int zt)])) (fun t k => st70 _ k) ?_
  refine own_go (B := T70.setTop (mkF m 5 #[.val (.ref zp), .val (.int zt)] [])) (fun t k => XS.istoreN X70.here hx rfl (Jvm.hb hby d7_4) rfl (l' := #[.val (.ref zp), .val (.int zt)]) rfl k) ?_
  refine own_go (B := T70.setTop (mkF m 6 #[.val (.ref zp), .val (.int zt)] [(.ref zp)])) (fun t k => XS.aloadN X70.here hx rfl (Jvm.hb hby d7_5) rfl rfl k) ?_
  refine own_go (B := T70.setTop (mkF m 7 #[.val (.ref zp), .val (.int zt)] [(.ref zp), (.ref zp)])) (fun t k => XS.aloadN X70.here hx rfl (Jvm.hb hby d7_6) rfl rfl k) ?_
  obtain ⟨T71, X71, e71, st71⟩ := getF X70 hx hZ hown (host := "") (Or.inl (own_w hw 14 rfl)) Via.refl e70 F_zp_below (g := (mkF m 7 #[.val (.ref zp), .val (.int zt)] [(.ref zp), (.ref zp)])) rfl rfl (Jvm.hb hby d7_7)
  refine own_go (B := T71.setTop (mkF m 10 #[.val (.ref zp), .val (.int zt)] [(.ref z3), (.ref zp)])) (fun t k => st71 _ k) ?_
  refine own_go (B := T71.setTop (mkF m 11 #[.val (.ref zp), .val (.int zt)] [(.int zt), (.ref z3), (.ref zp)])) (fun t k => XS.iloadN X71.here hx rfl (Jvm.hb hby d7_10) rfl k) ?_
  refine own_go (B := T71.setTop (mkF m 12 #[.val (.ref zp), .val (.int zt)] [(.int (zh zk)), (.ref zp)])) (fun t k => own_iaload X71 hx hZ e71 V_z3 (j := zt) (k := zk) hk0 hk hk1 (Jvm.hb hby d7_11) t k) ?_
  obtain ⟨T72, h72, X72, e72, W72, st72⟩ := putF X71 hx hZ hown (host := "") (Or.inl (own_w hw 16 rfl)) Via.refl e71 F_zp_top E_zp (Or.inl (own_w hw 17 rfl)) (own_w hw 1 rfl) (ty := .int) (by decide) rfl rfl (g := (mkF m 12 #[.val (.ref zp), .val (.int zt)] [(.int (zh zk)), (.ref zp)])) rfl rfl (Jvm.hb hby d7_12)
  have N72 := Fr.snoc X72 N0 g_zp
  have E_zp := E_zp.wr W72
  have F_zp_firsts := F_zp_firsts.other W72 (Or.inr (slot_ne (Or.inl (own_w hw 11 rfl)) (Or.inl (own_w hw 17 rfl)) (by decide) (t := (.array .int)) (t' := .int) (by decide) (by decide)))
  have F_zp_seconds := F_zp_seconds.other W72 (Or.inr (slot_ne (Or.inl (own_w hw 13 rfl)) (Or.inl (own_w hw 17 rfl)) (by decide) (t := (.array .int)) (t' := .int) (by decide) (by decide)))
  have F_zp_below := F_zp_below.other W72 (Or.inr (slot_ne (Or.inl (own_w hw 15 rfl)) (Or.inl (own_w hw 17 rfl)) (by decide) (t := (.array .int)) (t' := .int) (by decide) (by decide)))
  have F_zp_top := F_zp_top.same W72
  have F_zp_used := F_zp_used.other W72 (Or.inr (slot_ne (Or.inl (own_w hw 35 rfl)) (Or.inl (own_w hw 17 rfl)) (by decide) (t := .int) (t' := .int) (by decide) (by decide)))
  have F_zp_kept := F_zp_kept.other W72 (Or.inr (slot_ne (Or.inl (own_w hw 49 rfl)) (Or.inl (own_w hw 17 rfl)) (by decide) (t := .int) (t' := .int) (by decide) (by decide)))
  have F_zp_marks := F_zp_marks.other W72 (Or.inr (slot_ne (Or.inr (own_w hw 28 rfl)) (Or.inl (own_w hw 17 rfl)) (by decide) (t := (.object "com/example/term_unifier/termunifier/IntStack")) (t' := .int) (by decide) (by decide)))
  have V_z3 := V_z3.other W72 (Ne.symm ne_zp_z3)
  have K := K.wr W72 (Or.inl (List.mem_of_getElem? (i := 0) rfl))
  have Zs := Nat.le_trans Zs (Keep.of_wr W72).1
  refine own_go (B := T72.setTop (mkF m 15 #[.val (.ref zp), .val (.int zt)] [])) (fun t k => st72 _ k) ?_
  refine own_go (B := T72.setTop (mkF m 16 #[.val (.ref zp), .val (.int zt)] [(.int zt)])) (fun t k => XS.iloadN X72.here hx rfl (Jvm.hb hby d7_15) rfl k) ?_
  refine own_go (B := T72.setTop (mkF m 17 #[.val (.ref zp), .val (.int zt)] [(.ref zp), (.int zt)])) (fun t k => XS.aloadN X72.here hx rfl (Jvm.hb hby d7_16) rfl rfl k) ?_
  obtain ⟨T73, X73, e73, st73⟩ := getF X72 hx hZ hown (host := "") (Or.inl (own_w hw 34 rfl)) Via.refl e72 F_zp_used (g := (mkF m 17 #[.val (.ref zp), .val (.int zt)] [(.ref zp), (.int zt)])) rfl rfl (Jvm.hb hby d7_17)
  refine own_go (B := T73.setTop (mkF m 20 #[.val (.ref zp), .val (.int zt)] [(.int zu), (.int zt)])) (fun t k => st73 _ k) ?_
  refine own_go (B := T73.setTop (mkF m 21 #[.val (.ref zp), .val (.int zt)] [(.int (1 : Int32)), (.int zu), (.int zt)])) (fun t k => XS.iconst X73.here hx rfl (Jvm.hb hby d7_20) k) ?_
  refine own_go (B := T73.setTop (mkF m 22 #[.val (.ref zp), .val (.int zt)] [(.int (zu - (1 : Int32))), (.int zt)])) (fun t k => XS.isub X73.here hx rfl (Jvm.hb hby d7_21) rfl k) ?_
  refine own_go (B := T73.setTop (mkF m 25 #[.val (.ref zp), .val (.int zt)] [])) (fun t k => XS.icmpNo X73.here hx rfl (Jvm.hb hby d7_22) rfl (teq hA).2 k) ?_
  refine own_go (B := T73.setTop (mkF m 26 #[.val (.ref zp), .val (.int zt)] [(.int zt)])) (fun t k => XS.iloadN X73.here hx rfl (Jvm.hb hby d7_25) rfl k) ?_
  refine own_go (B := T73.setTop (mkF m 27 #[.val (.ref zp), .val (.int zt)] [(.ref zp), (.int zt)])) (fun t k => XS.aloadN X73.here hx rfl (Jvm.hb hby d7_26) rfl rfl k) ?_
  obtain ⟨T74, X74, e74, st74⟩ := getF X73 hx hZ hown (host := "") (Or.inl (own_w hw 48 rfl)) Via.refl e73 F_zp_kept (g := (mkF m 27 #[.val (.ref zp), .val (.int zt)] [(.ref zp), (.int zt)])) rfl rfl (Jvm.hb hby d7_27)
  refine own_go (B := T74.setTop (mkF m 30 #[.val (.ref zp), .val (.int zt)] [(.int zc), (.int zt)])) (fun t k => st74 _ k) ?_
  refine own_go (B := T74.setTop (mkF m 43 #[.val (.ref zp), .val (.int zt)] [])) (fun t k => XS.icmpYes X74.here hx rfl (pc0 := 30) (pc' := 43) rfl (Jvm.hb hby d7_30) rfl (tlt hB).1 (by decide) (by decide) k) ?_
  refine own_out X74 (v := none) (fun _ => rfl) Bd.notSynchronized (fun fs hr => X74.returnOut hx Bd.returns (Jvm.hb hby d7_43) hr) ?_ (by decide) (by decide)
  show own_Q7_popk Z zp z1 z2 z3 zm zt zu zc zn zv zk zh h0 n0 none T74.heap _
  rw [e74]
  exact ⟨rfl, N72, K, E_zp, F_zp_firsts, F_zp_seconds, F_zp_below, (by rw [← hn]; exact F_zp_top), F_zp_used, F_zp_kept, F_zp_marks⟩
theorem ef_7_popn (m : MethodId) (x0 : Addr) : entryFrame m #[(.ref x0)] 2 = mkF m 0 #[.val (.ref x0), .unset] [] := by first | (simp [entryFrame, mkF, argsToLocals, Value.category]; done) | rfl
def own_Q7_popn (Z : State) (zp : Addr) (z1 : Addr) (z2 : Addr) (z3 : Addr) (zm : Addr) (zt : Int32) (zu : Int32) (zc : Int32) (zn : Int32) (zv : Int32) (zk : Nat) (zh : Nat → Int32) (h0 : Heap) (n0 : Nat) (v : Option Value) (h : Heap) (L : List Loc) : Prop := v = none ∧ Fr n0 L ∧ Keep h0 h [zp] ∧ Exa Z h zp "com/example/term_unifier/termunifier/IntPairStack" ∧ Fld Z h zp "com/example/term_unifier/termunifier/IntPairStack" "firsts" "[I" (.ref z1) ∧ Fld Z h zp "com/example/term_unifier/termunifier/IntPairStack" "seconds" "[I" (.ref z2) ∧ Fld Z h zp "com/example/term_unifier/termunifier/IntPairStack" "below" "[I" (.ref z3) ∧ Fld Z h zp "com/example/term_unifier/termunifier/IntPairStack" "top" "I" (.int zn) ∧ Fld Z h zp "com/example/term_unifier/termunifier/IntPairStack" "used" "I" (.int zu) ∧ Fld Z h zp "com/example/term_unifier/termunifier/IntPairStack" "kept" "I" (.int zc) ∧ Fld Z h zp "com/example/term_unifier/termunifier/IntPairStack" "marks" "Lcom/example/term_unifier/termunifier/IntStack;" (.ref zm)
set_option maxRecDepth 65536 in
set_option maxHeartbeats 40000000 in
theorem rm_popn (l : Launch) (Z : State) (a0 : Array Value) (hw : ∀ d ∈ tables_1, d.before a0 Z = true) (ws : List Jvm.Cond) (zp : Addr) (z1 : Addr) (z2 : Addr) (z3 : Addr) (zm : Addr) (zt : Int32) (zu : Int32) (zc : Int32) (zn : Int32) (zv : Int32) (zk : Nat) (zh : Nat → Int32) (h0 : Heap) (n0 : Nat) (Z0 : n0 ≤ h0.size) (E_zp : Exa Z h0 zp "com/example/term_unifier/termunifier/IntPairStack") (F_zp_firsts : Fld Z h0 zp "com/example/term_unifier/termunifier/IntPairStack" "firsts" "[I" (.ref z1)) (F_zp_seconds : Fld Z h0 zp "com/example/term_unifier/termunifier/IntPairStack" "seconds" "[I" (.ref z2)) (F_zp_below : Fld Z h0 zp "com/example/term_unifier/termunifier/IntPairStack" "below" "[I" (.ref z3)) (F_zp_top : Fld Z h0 zp "com/example/term_unifier/termunifier/IntPairStack" "top" "I" (.int zt)) (F_zp_used : Fld Z h0 zp "com/example/term_unifier/termunifier/IntPairStack" "used" "I" (.int zu)) (F_zp_kept : Fld Z h0 zp "com/example/term_unifier/termunifier/IntPairStack" "kept" "I" (.int zc)) (F_zp_marks : Fld Z h0 zp "com/example/term_unifier/termunifier/IntPairStack" "marks" "Lcom/example/term_unifier/termunifier/IntStack;" (.ref zm)) (V_z3 : own_IA Z h0 z3 .int 16 zh) (g_zp : n0 ≤ zp) (ne_zp_z3 : zp ≠ z3) (hk0 : ¬ (zt < 0)) (hk : zt.toNatClampNeg = zk) (hk1 : zk < 16) (hn : zh zk = zn) (hv : (zu - (1 : Int32)) = zv) (hA : ¬ (zt = (zu - (1 : Int32)))) :
    MetFree l (⟨"com/example/term_unifier/termunifier/IntPairStack", "pop", "()V"⟩ : MethodName) (head1 (Jvm.Cond.code (⟨"com/example/term_unifier/termunifier/IntPairStack", "pop", "()V"⟩ : MethodName) prog_10_method_5_code 2 none :: ws) ({ frames := 0, cells := 0, slots := 0, locals := 0 } : Room)) (fun a U => a = #[(.ref zp)] ∧ Z.Warmed39 U.vm ∧ U.heap = h0) (fun _ _ _ _ _ => True) (fun _ U o U' => ∃ v L, o = .returned v ∧ own_Q7_popn Z zp z1 z2 z3 zm zt zu zc zn zv zk zh h0 n0 v U'.heap L ∧ FrameEnd U o U' L ({ frames := 0, cells := 0, slots := 0, locals := 0 } : Room).cells ({ frames := 0, cells := 0, slots := 0, locals := 0 } : Room).slots) := by
  refine MetFree.of_bodySF (plainFor_of_name pn_com_example_term_unifier_termunifier_IntPairStack) hisR ?_
  intro p e s m args below meth c s₁ Bd hml0 hP hK
  obtain ⟨rfl, hZ, hh⟩ := hP
  have hx := Bd.exec
  have hby := Bd.bytes
  have hml : c.maxLocals = 2 := hml0
  have hown : s.vm.findClass "com/example/term_unifier/termunifier/IntPairStack" = some m.cls := findClass_of_methodNamed Bd.named
  have hnm := (name_of_methodNamed Bd.named Bd.method).1
  have X0 : Stand p l e ({ frames := 0, cells := 0, slots := 0, locals := 0 } : Room) s m #[(.ref zp)] below meth c s₁ [] 0 0 := Stand.of_body Bd
  have e0 : s₁.heap = h0 := by rw [← hh, Bd.state]; rfl
  have N0 := Fr.nil n0
  have Zs := Z0
  have K : Keep h0 h0 [zp] := Keep.refl _ _
  show own_Goes p e below s (own_Q7_popn Z zp z1 z2 z3 zm zt zu zc zn zv zk zh h0 n0) ({ frames := 0, cells := 0, slots := 0, locals := 0 } : Room).cells ({ frames := 0, cells := 0, slots := 0, locals := 0 } : Room).slots _
  refine own_go (B := s₁.setTop (mkF m 0 #[.val (.ref zp), .unset] [])) (fun t k => castTop (ef_7_popn m zp) k) ?_
  refine own_go (B := s₁.setTop (mkF m 1 #[.val (.ref zp), .unset] [(.ref zp)])) (fun t k => XS.aloadN X0.here hx rfl (Jvm.hb hby d7_0) rfl rfl k) ?_
  obtain ⟨T75, X75, e75, st75⟩ := getF X0 hx hZ hown (host := "") (Or.inl (own_w hw 16 rfl)) Via.refl e0 F_zp_top (g := (mkF m 1 #[.val (.ref zp), .unset] [(.ref zp)])) rfl rfl (Jvm.hb hby d7_1)
  refine own_go (B := T75.setTop (mkF m 4 #[.val (.ref zp), .unset] [(.int zt)])) (fun t k => st75 _ k) ?_
  refine own_go (B := T75.setTop (mkF m 5 #[.val (.ref zp), .val (.int zt)] [])) (fun t k => XS.istoreN X75.here hx rfl (Jvm.hb hby d7_4) rfl (l' := #[.val (.ref zp), .val (.int zt)]) rfl k) ?_
  refine own_go (B := T75.setTop (mkF m 6 #[.val (.ref zp), .val (.int zt)] [(.ref zp)])) (fun t k => XS.aloadN X75.here hx rfl (Jvm.hb hby d7_5) rfl rfl k) ?_
  refine own_go (B := T75.setTop (mkF m 7 #[.val (.ref zp), .val (.int zt)] [(.ref zp), (.ref zp)])) (fun t k => XS.aloadN X75.here hx rfl (Jvm.hb hby d7_6) rfl rfl k) ?_
  obtain ⟨T76, X76, e76, st76⟩ := getF X75 hx hZ hown (host := "") (Or.inl (own_w hw 14 rfl)) Via.refl e75 F_zp_below (g := (mkF m 7 #[.val (.ref zp), .val (.int zt)] [(.ref zp), (.ref zp)])) rfl rfl (Jvm.hb hby d7_7)
  refine own_go (B := T76.setTop (mkF m 10 #[.val (.ref zp), .val (.int zt)] [(.ref z3), (.ref zp)])) (fun t k => st76 _ k) ?_
  refine own_go (B := T76.setTop (mkF m 11 #[.val (.ref zp), .val (.int zt)] [(.int zt), (.ref z3), (.ref zp)])) (fun t k => XS.iloadN X76.here hx rfl (Jvm.hb hby d7_10) rfl k) ?_
  refine own_go (B := T76.setTop (mkF m 12 #[.val (.ref zp), .val (.int zt)] [(.int (zh zk)), (.ref zp)])) (fun t k => own_iaload X76 hx hZ e76 V_z3 (j := zt) (k := zk) hk0 hk hk1 (Jvm.hb hby d7_11) t k) ?_
  obtain ⟨T77, h77, X77, e77, W77, st77⟩ := putF X76 hx hZ hown (host := "") (Or.inl (own_w hw 16 rfl)) Via.refl e76 F_zp_top E_zp (Or.inl (own_w hw 17 rfl)) (own_w hw 1 rfl) (ty := .int) (by decide) rfl rfl (g := (mkF m 12 #[.val (.ref zp), .val (.int zt)] [(.int (zh zk)), (.ref zp)])) rfl rfl (Jvm.hb hby d7_12)
  have N77 := Fr.snoc X77 N0 g_zp
  have E_zp := E_zp.wr W77
  have F_zp_firsts := F_zp_firsts.other W77 (Or.inr (slot_ne (Or.inl (own_w hw 11 rfl)) (Or.inl (own_w hw 17 rfl)) (by decide) (t := (.array .int)) (t' := .int) (by decide) (by decide)))
  have F_zp_seconds := F_zp_seconds.other W77 (Or.inr (slot_ne (Or.inl (own_w hw 13 rfl)) (Or.inl (own_w hw 17 rfl)) (by decide) (t := (.array .int)) (t' := .int) (by decide) (by decide)))
  have F_zp_below := F_zp_below.other W77 (Or.inr (slot_ne (Or.inl (own_w hw 15 rfl)) (Or.inl (own_w hw 17 rfl)) (by decide) (t := (.array .int)) (t' := .int) (by decide) (by decide)))
  have F_zp_top := F_zp_top.same W77
  have F_zp_used := F_zp_used.other W77 (Or.inr (slot_ne (Or.inl (own_w hw 35 rfl)) (Or.inl (own_w hw 17 rfl)) (by decide) (t := .int) (t' := .int) (by decide) (by decide)))
  have F_zp_kept := F_zp_kept.other W77 (Or.inr (slot_ne (Or.inl (own_w hw 49 rfl)) (Or.inl (own_w hw 17 rfl)) (by decide) (t := .int) (t' := .int) (by decide) (by decide)))
  have F_zp_marks := F_zp_marks.other W77 (Or.inr (slot_ne (Or.inr (own_w hw 28 rfl)) (Or.inl (own_w hw 17 rfl)) (by decide) (t := (.object "com/example/term_unifier/termunifier/IntStack")) (t' := .int) (by decide) (by decide)))
  have V_z3 := V_z3.other W77 (Ne.symm ne_zp_z3)
  have K := K.wr W77 (Or.inl (List.mem_of_getElem? (i := 0) rfl))
  have Zs := Nat.le_trans Zs (Keep.of_wr W77).1
  refine own_go (B := T77.setTop (mkF m 15 #[.val (.ref zp), .val (.int zt)] [])) (fun t k => st77 _ k) ?_
  refine own_go (B := T77.setTop (mkF m 16 #[.val (.ref zp), .val (.int zt)] [(.int zt)])) (fun t k => XS.iloadN X77.here hx rfl (Jvm.hb hby d7_15) rfl k) ?_
  refine own_go (B := T77.setTop (mkF m 17 #[.val (.ref zp), .val (.int zt)] [(.ref zp), (.int zt)])) (fun t k => XS.aloadN X77.here hx rfl (Jvm.hb hby d7_16) rfl rfl k) ?_
  obtain ⟨T78, X78, e78, st78⟩ := getF X77 hx hZ hown (host := "") (Or.inl (own_w hw 34 rfl)) Via.refl e77 F_zp_used (g := (mkF m 17 #[.val (.ref zp), .val (.int zt)] [(.ref zp), (.int zt)])) rfl rfl (Jvm.hb hby d7_17)
  refine own_go (B := T78.setTop (mkF m 20 #[.val (.ref zp), .val (.int zt)] [(.int zu), (.int zt)])) (fun t k => st78 _ k) ?_
  refine own_go (B := T78.setTop (mkF m 21 #[.val (.ref zp), .val (.int zt)] [(.int (1 : Int32)), (.int zu), (.int zt)])) (fun t k => XS.iconst X78.here hx rfl (Jvm.hb hby d7_20) k) ?_
  refine own_go (B := T78.setTop (mkF m 22 #[.val (.ref zp), .val (.int zt)] [(.int (zu - (1 : Int32))), (.int zt)])) (fun t k => XS.isub X78.here hx rfl (Jvm.hb hby d7_21) rfl k) ?_
  refine own_go (B := T78.setTop (mkF m 43 #[.val (.ref zp), .val (.int zt)] [])) (fun t k => XS.icmpYes X78.here hx rfl (pc0 := 22) (pc' := 43) rfl (Jvm.hb hby d7_22) rfl (feq hA).2 (by decide) (by decide) k) ?_
  refine own_out X78 (v := none) (fun _ => rfl) Bd.notSynchronized (fun fs hr => X78.returnOut hx Bd.returns (Jvm.hb hby d7_43) hr) ?_ (by decide) (by decide)
  show own_Q7_popn Z zp z1 z2 z3 zm zt zu zc zn zv zk zh h0 n0 none T78.heap _
  rw [e78]
  exact ⟨rfl, N77, K, E_zp, F_zp_firsts, F_zp_seconds, F_zp_below, (by rw [← hn]; exact F_zp_top), F_zp_used, F_zp_kept, F_zp_marks⟩
theorem d8_0 : decode prog_10_method_6_code 0 = .ok (.aload_n 0, 1) := by decide +kernel
theorem d8_1 : decode prog_10_method_6_code 1 = .ok (.getfield 19, 3) := by decide +kernel
theorem d8_4 : decode prog_10_method_6_code 4 = .ok (.ifCond .ge 7, 3) := by decide +kernel
theorem d8_7 : decode prog_10_method_6_code 7 = .ok (.iconst 1, 1) := by decide +kernel
theorem d8_8 : decode prog_10_method_6_code 8 = .ok (.goto 4, 3) := by decide +kernel
theorem d8_11 : decode prog_10_method_6_code 11 = .ok (.iconst 0, 1) := by decide +kernel
theorem d8_12 : decode prog_10_method_6_code 12 = .ok (.ireturn, 1) := by decide +kernel
theorem ef_8 (m : MethodId) (x0 : Addr) : entryFrame m #[(.ref x0)] 1 = mkF m 0 #[.val (.ref x0)] [] := by first | (simp [entryFrame, mkF, argsToLocals, Value.category]; done) | rfl
def own_Q8 (Z : State) (zp : Addr) (zt : Int32) (zv : Int32) (h0 : Heap) (n0 : Nat) (v : Option Value) (h : Heap) (L : List Loc) : Prop := v = some (.int zv) ∧ Fr n0 L ∧ h = h0
set_option maxRecDepth 65536 in
set_option maxHeartbeats 40000000 in
theorem rm8 (l : Launch) (Z : State) (a0 : Array Value) (hw : ∀ d ∈ tables_1, d.before a0 Z = true) (ws : List Jvm.Cond) (zp : Addr) (zt : Int32) (zv : Int32) (h0 : Heap) (n0 : Nat) (Z0 : n0 ≤ h0.size) (F_zp_top : Fld Z h0 zp "com/example/term_unifier/termunifier/IntPairStack" "top" "I" (.int zt)) (hv : zv = if zt < (0 : Int32) then (1 : Int32) else (0 : Int32)) :
    MetFree l (⟨"com/example/term_unifier/termunifier/IntPairStack", "isEmpty", "()Z"⟩ : MethodName) (head1 (Jvm.Cond.code (⟨"com/example/term_unifier/termunifier/IntPairStack", "isEmpty", "()Z"⟩ : MethodName) prog_10_method_6_code 1 (some .boolean) :: ws) ({ frames := 0, cells := 0, slots := 0, locals := 0 } : Room)) (fun a U => a = #[(.ref zp)] ∧ Z.Warmed39 U.vm ∧ U.heap = h0) (fun _ _ _ _ _ => True) (fun _ U o U' => ∃ v L, o = .returned v ∧ own_Q8 Z zp zt zv h0 n0 v U'.heap L ∧ FrameEnd U o U' L ({ frames := 0, cells := 0, slots := 0, locals := 0 } : Room).cells ({ frames := 0, cells := 0, slots := 0, locals := 0 } : Room).slots) := by
  refine MetFree.of_bodySF (plainFor_of_name pn_com_example_term_unifier_termunifier_IntPairStack) hisR ?_
  intro p e s m args below meth c s₁ Bd hml0 hP hK
  obtain ⟨rfl, hZ, hh⟩ := hP
  have hx := Bd.exec
  have hby := Bd.bytes
  have hml : c.maxLocals = 1 := hml0
  have hown : s.vm.findClass "com/example/term_unifier/termunifier/IntPairStack" = some m.cls := findClass_of_methodNamed Bd.named
  have hnm := (name_of_methodNamed Bd.named Bd.method).1
  have X0 : Stand p l e ({ frames := 0, cells := 0, slots := 0, locals := 0 } : Room) s m #[(.ref zp)] below meth c s₁ [] 0 0 := Stand.of_body Bd
  have e0 : s₁.heap = h0 := by rw [← hh, Bd.state]; rfl
  have N0 := Fr.nil n0
  have Zs := Z0
  show own_Goes p e below s (own_Q8 Z zp zt zv h0 n0) ({ frames := 0, cells := 0, slots := 0, locals := 0 } : Room).cells ({ frames := 0, cells := 0, slots := 0, locals := 0 } : Room).slots _
  refine own_go (B := s₁.setTop (mkF m 0 #[.val (.ref zp)] [])) (fun t k => castTop (ef_8 m zp) k) ?_
  refine own_go (B := s₁.setTop (mkF m 1 #[.val (.ref zp)] [(.ref zp)])) (fun t k => XS.aloadN X0.here hx rfl (Jvm.hb hby d8_0) rfl rfl k) ?_
  obtain ⟨T79, X79, e79, st79⟩ := getF X0 hx hZ hown (host := "") (Or.inl (own_w hw 16 rfl)) Via.refl e0 F_zp_top (g := (mkF m 1 #[.val (.ref zp)] [(.ref zp)])) rfl rfl (Jvm.hb hby d8_1)
  refine own_go (B := T79.setTop (mkF m 4 #[.val (.ref zp)] [(.int zt)])) (fun t k => st79 _ k) ?_
  by_cases hc4_80 : zt < (0 : Int32)
  · refine own_go (B := T79.setTop (mkF m 7 #[.val (.ref zp)] [])) (fun t k => XS.ifNo X79.here hx rfl (Jvm.hb hby d8_4) rfl ((if0 _ _).trans (tlt hc4_80).2.1) k) ?_
    refine own_go (B := T79.setTop (mkF m 8 #[.val (.ref zp)] [(.int (1 : Int32))])) (fun t k => XS.iconst X79.here hx rfl (Jvm.hb hby d8_7) k) ?_
    refine own_go (B := T79.setTop (mkF m 12 #[.val (.ref zp)] [(.int (1 : Int32))])) (fun t k => XS.goto X79.here hx rfl (pc0 := 8) (pc' := 12) rfl (Jvm.hb hby d8_8) (by decide) (by decide) k) ?_
    refine own_out X79 (v := (some (.int (1 : Int32)))) (fun h => by rw [Bd.returns] at h; cases h) Bd.notSynchronized (fun fs hr => retOut X79 hx (t := .boolean) Bd.returns rfl (by first | exact Or.inl ⟨rfl, by simp, _, rfl⟩) (Jvm.hb hby d8_12) hr) ?_ (by decide) (by decide)
    show own_Q8 Z zp zt zv h0 n0 (some (.int (1 : Int32))) T79.heap _
    rw [e79]
    exact ⟨(by rw [hv, if_pos hc4_80]), N0, rfl⟩
  · refine own_go (B := T79.setTop (mkF m 11 #[.val (.ref zp)] [])) (fun t k => XS.ifYes X79.here hx rfl (pc0 := 4) (pc' := 11) rfl (Jvm.hb hby d8_4) rfl ((if0 _ _).trans (flt hc4_80).2.1) (by decide) (by decide) k) ?_
    refine own_go (B := T79.setTop (mkF m 12 #[.val (.ref zp)] [(.int (0 : Int32))])) (fun t k => XS.iconst X79.here hx rfl (Jvm.hb hby d8_11) k) ?_
    refine own_out X79 (v := (some (.int (0 : Int32)))) (fun h => by rw [Bd.returns] at h; cases h) Bd.notSynchronized (fun fs hr => retOut X79 hx (t := .boolean) Bd.returns rfl (by first | exact Or.inl ⟨rfl, by simp, _, rfl⟩) (Jvm.hb hby d8_12) hr) ?_ (by decide) (by decide)
    show own_Q8 Z zp zt zv h0 n0 (some (.int (0 : Int32))) T79.heap _
    rw [e79]
    exact ⟨(by rw [hv, if_neg hc4_80]), N0, rfl⟩
theorem d9_0 : decode prog_10_method_3_code 0 = .ok (.aload_n 0, 1) := by decide +kernel
theorem d9_1 : decode prog_10_method_3_code 1 = .ok (.getfield 7, 3) := by decide +kernel
theorem d9_4 : decode prog_10_method_3_code 4 = .ok (.aload_n 0, 1) := by decide +kernel
theorem d9_5 : decode prog_10_method_3_code 5 = .ok (.getfield 19, 3) := by decide +kernel
theorem d9_8 : decode prog_10_method_3_code 8 = .ok (.iaload, 1) := by decide +kernel
theorem d9_9 : decode prog_10_method_3_code 9 = .ok (.ireturn, 1) := by decide +kernel
theorem ef_9 (m : MethodId) (x0 : Addr) : entryFrame m #[(.ref x0)] 1 = mkF m 0 #[.val (.ref x0)] [] := by first | (simp [entryFrame, mkF, argsToLocals, Value.category]; done) | rfl
def own_Q9 (Z : State) (zp : Addr) (z1 : Addr) (zt : Int32) (zk : Nat) (zf : Nat → Int32) (zv : Int32) (h0 : Heap) (n0 : Nat) (v : Option Value) (h : Heap) (L : List Loc) : Prop := v = some (.int zv) ∧ Fr n0 L ∧ h = h0
set_option maxRecDepth 65536 in
set_option maxHeartbeats 40000000 in
theorem rm9 (l : Launch) (Z : State) (a0 : Array Value) (hw : ∀ d ∈ tables_1, d.before a0 Z = true) (ws : List Jvm.Cond) (zp : Addr) (z1 : Addr) (zt : Int32) (zk : Nat) (zf : Nat → Int32) (zv : Int32) (h0 : Heap) (n0 : Nat) (Z0 : n0 ≤ h0.size) (F_zp_firsts : Fld Z h0 zp "com/example/term_unifier/termunifier/IntPairStack" "firsts" "[I" (.ref z1)) (F_zp_top : Fld Z h0 zp "com/example/term_unifier/termunifier/IntPairStack" "top" "I" (.int zt)) (V_z1 : own_IA Z h0 z1 .int 16 zf) (hk0 : ¬ (zt < 0)) (hk : zt.toNatClampNeg = zk) (hk1 : zk < 16) (hv : zf zk = zv) :
    MetFree l (⟨"com/example/term_unifier/termunifier/IntPairStack", "first", "()I"⟩ : MethodName) (head1 (Jvm.Cond.code (⟨"com/example/term_unifier/termunifier/IntPairStack", "first", "()I"⟩ : MethodName) prog_10_method_3_code 1 (some .int) :: ws) ({ frames := 0, cells := 0, slots := 0, locals := 0 } : Room)) (fun a U => a = #[(.ref zp)] ∧ Z.Warmed39 U.vm ∧ U.heap = h0) (fun _ _ _ _ _ => True) (fun _ U o U' => ∃ v L, o = .returned v ∧ own_Q9 Z zp z1 zt zk zf zv h0 n0 v U'.heap L ∧ FrameEnd U o U' L ({ frames := 0, cells := 0, slots := 0, locals := 0 } : Room).cells ({ frames := 0, cells := 0, slots := 0, locals := 0 } : Room).slots) := by
  refine MetFree.of_bodySF (plainFor_of_name pn_com_example_term_unifier_termunifier_IntPairStack) hisR ?_
  intro p e s m args below meth c s₁ Bd hml0 hP hK
  obtain ⟨rfl, hZ, hh⟩ := hP
  have hx := Bd.exec
  have hby := Bd.bytes
  have hml : c.maxLocals = 1 := hml0
  have hown : s.vm.findClass "com/example/term_unifier/termunifier/IntPairStack" = some m.cls := findClass_of_methodNamed Bd.named
  have hnm := (name_of_methodNamed Bd.named Bd.method).1
  have X0 : Stand p l e ({ frames := 0, cells := 0, slots := 0, locals := 0 } : Room) s m #[(.ref zp)] below meth c s₁ [] 0 0 := Stand.of_body Bd
  have e0 : s₁.heap = h0 := by rw [← hh, Bd.state]; rfl
  have N0 := Fr.nil n0
  have Zs := Z0
  show own_Goes p e below s (own_Q9 Z zp z1 zt zk zf zv h0 n0) ({ frames := 0, cells := 0, slots := 0, locals := 0 } : Room).cells ({ frames := 0, cells := 0, slots := 0, locals := 0 } : Room).slots _
  refine own_go (B := s₁.setTop (mkF m 0 #[.val (.ref zp)] [])) (fun t k => castTop (ef_9 m zp) k) ?_
  refine own_go (B := s₁.setTop (mkF m 1 #[.val (.ref zp)] [(.ref zp)])) (fun t k => XS.aloadN X0.here hx rfl (Jvm.hb hby d9_0) rfl rfl k) ?_
  obtain ⟨T81, X81, e81, st81⟩ := getF X0 hx hZ hown (host := "") (Or.inl (own_w hw 10 rfl)) Via.refl e0 F_zp_firsts (g := (mkF m 1 #[.val (.ref zp)] [(.ref zp)])) rfl rfl (Jvm.hb hby d9_1)
  refine own_go (B := T81.setTop (mkF m 4 #[.val (.ref zp)] [(.ref z1)])) (fun t k => st81 _ k) ?_
  refine own_go (B := T81.setTop (mkF m 5 #[.val (.ref zp)] [(.ref zp), (.ref z1)])) (fun t k => XS.aloadN X81.here hx rfl (Jvm.hb hby d9_4) rfl rfl k) ?_
  obtain ⟨T82, X82, e82, st82⟩ := getF X81 hx hZ hown (host := "") (Or.inl (own_w hw 16 rfl)) Via.refl e81 F_zp_top (g := (mkF m 5 #[.val (.ref zp)] [(.ref zp), (.ref z1)])) rfl rfl (Jvm.hb hby d9_5)
  refine own_go (B := T82.setTop (mkF m 8 #[.val (.ref zp)] [(.int zt), (.ref z1)])) (fun t k => st82 _ k) ?_
  refine own_go (B := T82.setTop (mkF m 9 #[.val (.ref zp)] [(.int (zf zk))])) (fun t k => own_iaload X82 hx hZ e82 V_z1 (j := zt) (k := zk) hk0 hk hk1 (Jvm.hb hby d9_8) t k) ?_
  refine own_out X82 (v := (some (.int (zf zk)))) (fun h => by rw [Bd.returns] at h; cases h) Bd.notSynchronized (fun fs hr => retOut X82 hx (t := .int) Bd.returns rfl (Or.inl ⟨rfl, Or.inl rfl, _, rfl⟩) (Jvm.hb hby d9_9) hr) ?_ (by decide) (by decide)
  show own_Q9 Z zp z1 zt zk zf zv h0 n0 (some (.int (zf zk))) T82.heap _
  rw [e82]
  exact ⟨(by rw [hv]), N0, rfl⟩
theorem d10_0 : decode prog_10_method_4_code 0 = .ok (.aload_n 0, 1) := by decide +kernel
theorem d10_1 : decode prog_10_method_4_code 1 = .ok (.getfield 13, 3) := by decide +kernel
theorem d10_4 : decode prog_10_method_4_code 4 = .ok (.aload_n 0, 1) := by decide +kernel
theorem d10_5 : decode prog_10_method_4_code 5 = .ok (.getfield 19, 3) := by decide +kernel
theorem d10_8 : decode prog_10_method_4_code 8 = .ok (.iaload, 1) := by decide +kernel
theorem d10_9 : decode prog_10_method_4_code 9 = .ok (.ireturn, 1) := by decide +kernel
theorem ef_10 (m : MethodId) (x0 : Addr) : entryFrame m #[(.ref x0)] 1 = mkF m 0 #[.val (.ref x0)] [] := by first | (simp [entryFrame, mkF, argsToLocals, Value.category]; done) | rfl
def own_Q10 (Z : State) (zp : Addr) (z2 : Addr) (zt : Int32) (zk : Nat) (zg : Nat → Int32) (zv : Int32) (h0 : Heap) (n0 : Nat) (v : Option Value) (h : Heap) (L : List Loc) : Prop := v = some (.int zv) ∧ Fr n0 L ∧ h = h0
set_option maxRecDepth 65536 in
set_option maxHeartbeats 40000000 in
theorem rm10 (l : Launch) (Z : State) (a0 : Array Value) (hw : ∀ d ∈ tables_1, d.before a0 Z = true) (ws : List Jvm.Cond) (zp : Addr) (z2 : Addr) (zt : Int32) (zk : Nat) (zg : Nat → Int32) (zv : Int32) (h0 : Heap) (n0 : Nat) (Z0 : n0 ≤ h0.size) (F_zp_seconds : Fld Z h0 zp "com/example/term_unifier/termunifier/IntPairStack" "seconds" "[I" (.ref z2)) (F_zp_top : Fld Z h0 zp "com/example/term_unifier/termunifier/IntPairStack" "top" "I" (.int zt)) (V_z2 : own_IA Z h0 z2 .int 16 zg) (hk0 : ¬ (zt < 0)) (hk : zt.toNatClampNeg = zk) (hk1 : zk < 16) (hv : zg zk = zv) :
    MetFree l (⟨"com/example/term_unifier/termunifier/IntPairStack", "second", "()I"⟩ : MethodName) (head1 (Jvm.Cond.code (⟨"com/example/term_unifier/termunifier/IntPairStack", "second", "()I"⟩ : MethodName) prog_10_method_4_code 1 (some .int) :: ws) ({ frames := 0, cells := 0, slots := 0, locals := 0 } : Room)) (fun a U => a = #[(.ref zp)] ∧ Z.Warmed39 U.vm ∧ U.heap = h0) (fun _ _ _ _ _ => True) (fun _ U o U' => ∃ v L, o = .returned v ∧ own_Q10 Z zp z2 zt zk zg zv h0 n0 v U'.heap L ∧ FrameEnd U o U' L ({ frames := 0, cells := 0, slots := 0, locals := 0 } : Room).cells ({ frames := 0, cells := 0, slots := 0, locals := 0 } : Room).slots) := by
  refine MetFree.of_bodySF (plainFor_of_name pn_com_example_term_unifier_termunifier_IntPairStack) hisR ?_
  intro p e s m args below meth c s₁ Bd hml0 hP hK
  obtain ⟨rfl, hZ, hh⟩ := hP
  have hx := Bd.exec
  have hby := Bd.bytes
  have hml : c.maxLocals = 1 := hml0
  have hown : s.vm.findClass "com/example/term_unifier/termunifier/IntPairStack" = some m.cls := findClass_of_methodNamed Bd.named
  have hnm := (name_of_methodNamed Bd.named Bd.method).1
  have X0 : Stand p l e ({ frames := 0, cells := 0, slots := 0, locals := 0 } : Room) s m #[(.ref zp)] below meth c s₁ [] 0 0 := Stand.of_body Bd
  have e0 : s₁.heap = h0 := by rw [← hh, Bd.state]; rfl
  have N0 := Fr.nil n0
  have Zs := Z0
  show own_Goes p e below s (own_Q10 Z zp z2 zt zk zg zv h0 n0) ({ frames := 0, cells := 0, slots := 0, locals := 0 } : Room).cells ({ frames := 0, cells := 0, slots := 0, locals := 0 } : Room).slots _
  refine own_go (B := s₁.setTop (mkF m 0 #[.val (.ref zp)] [])) (fun t k => castTop (ef_10 m zp) k) ?_
  refine own_go (B := s₁.setTop (mkF m 1 #[.val (.ref zp)] [(.ref zp)])) (fun t k => XS.aloadN X0.here hx rfl (Jvm.hb hby d10_0) rfl rfl k) ?_
  obtain ⟨T83, X83, e83, st83⟩ := getF X0 hx hZ hown (host := "") (Or.inl (own_w hw 12 rfl)) Via.refl e0 F_zp_seconds (g := (mkF m 1 #[.val (.ref zp)] [(.ref zp)])) rfl rfl (Jvm.hb hby d10_1)
  refine own_go (B := T83.setTop (mkF m 4 #[.val (.ref zp)] [(.ref z2)])) (fun t k => st83 _ k) ?_
  refine own_go (B := T83.setTop (mkF m 5 #[.val (.ref zp)] [(.ref zp), (.ref z2)])) (fun t k => XS.aloadN X83.here hx rfl (Jvm.hb hby d10_4) rfl rfl k) ?_
  obtain ⟨T84, X84, e84, st84⟩ := getF X83 hx hZ hown (host := "") (Or.inl (own_w hw 16 rfl)) Via.refl e83 F_zp_top (g := (mkF m 5 #[.val (.ref zp)] [(.ref zp), (.ref z2)])) rfl rfl (Jvm.hb hby d10_5)
  refine own_go (B := T84.setTop (mkF m 8 #[.val (.ref zp)] [(.int zt), (.ref z2)])) (fun t k => st84 _ k) ?_
  refine own_go (B := T84.setTop (mkF m 9 #[.val (.ref zp)] [(.int (zg zk))])) (fun t k => own_iaload X84 hx hZ e84 V_z2 (j := zt) (k := zk) hk0 hk hk1 (Jvm.hb hby d10_8) t k) ?_
  refine own_out X84 (v := (some (.int (zg zk)))) (fun h => by rw [Bd.returns] at h; cases h) Bd.notSynchronized (fun fs hr => retOut X84 hx (t := .int) Bd.returns rfl (Or.inl ⟨rfl, Or.inl rfl, _, rfl⟩) (Jvm.hb hby d10_9) hr) ?_ (by decide) (by decide)
  show own_Q10 Z zp z2 zt zk zg zv h0 n0 (some (.int (zg zk))) T84.heap _
  rw [e84]
  exact ⟨(by rw [hv]), N0, rfl⟩
theorem own_k3 (x k : Int32) (h : k = x &&& (3 : Int32)) (h1 : ¬ k = (1 : Int32)) (h2 : ¬ k = (2 : Int32)) (h3 : ¬ k = (3 : Int32)) : k = (0 : Int32) := by
  have a := c_and x 3 (by decide)
  have e : (3 : Int32).toInt = 3 := rfl
  have e1 : (1 : Int32).toInt = 1 := rfl
  have e2 : (2 : Int32).toInt = 2 := rfl
  have e0 : (0 : Int32).toInt = 0 := rfl
  rw [← h, e] at a
  rw [← Int32.toInt_inj] at *
  omega
def own_Q0 (Z : State) (p1 : Int32) (p2 : Int32) (p3 : Int32) (p4 : Int32) (p5 : Int32) (p6 : Int32) (h0 : Heap) (n0 : Nat) (v : Option Value) (h : Heap) (L : List Loc) : Prop := v = some (.int 1) ∧ Fr n0 L
theorem pn_com_example_term_unifier_termunifier_IntPairStackPopPinLaw : plainName "com/example/term_unifier/termunifier/IntPairStackPopPinLaw" = true := by first | (simp [plainName, overriddenIn]; done) | decide +kernel
theorem pd_3 : parseMethodDescriptor "(II)V" = some ⟨[.int, .int], none⟩ := by decide +kernel
theorem pd_4 : parseMethodDescriptor "()Z" = some ⟨[], some .boolean⟩ := by decide +kernel
theorem ef_0_01 (m : MethodId) (x0 : Int32) (x1 : Int32) (x2 : Int32) (x3 : Int32) (x4 : Int32) (x5 : Int32) : entryFrame m #[(.int x0), (.int x1), (.int x2), (.int x3), (.int x4), (.int x5)] maxLocals = mkF m 0 #[.val (.int x0), .val (.int x1), .val (.int x2), .val (.int x3), .val (.int x4), .val (.int x5), .unset, .unset, .unset, .unset] [] := by first | (simp [entryFrame, mkF, argsToLocals, Value.category, maxLocals]; done) | rfl
set_option maxRecDepth 65536 in
set_option maxHeartbeats 40000000 in
theorem rm0_01 (l : Launch) (Z : State) (a0 : Array Value) (hw : ∀ d ∈ tables_1, d.before a0 Z = true) (ws : List Jvm.Cond) (p1 : Int32) (p2 : Int32) (p3 : Int32) (p4 : Int32) (p5 : Int32) (p6 : Int32) (h0 : Heap) (n0 : Nat) (Z0 : n0 ≤ h0.size) (hk : (p6 &&& (3 : Int32)) = (0 : Int32)) (ht : (p6 &&& (4 : Int32)) = (0 : Int32)) :
    MetFree l x (head1 (Jvm.Cond.code x code maxLocals ret :: ws) room_1) (fun a U => a = #[(.int p1), (.int p2), (.int p3), (.int p4), (.int p5), (.int p6)] ∧ Z.Warmed39 U.vm ∧ U.heap = h0) (fun _ _ _ _ _ => True) (fun _ U o U' => ∃ v L, o = .returned v ∧ own_Q0 Z p1 p2 p3 p4 p5 p6 h0 n0 v U'.heap L ∧ FrameEnd U o U' L room_1.cells room_1.slots) := by
  refine MetFree.of_bodySF (plainFor_of_name pn_com_example_term_unifier_termunifier_IntPairStackPopPinLaw) hisR ?_
  intro p e s m args below meth c s₁ Bd hml0 hP hK
  obtain ⟨rfl, hZ, hh⟩ := hP
  have hx := Bd.exec
  have hby := Bd.bytes
  have hml : c.maxLocals = 10 := hml0
  have hown : s.vm.findClass "com/example/term_unifier/termunifier/IntPairStackPopPinLaw" = some m.cls := findClass_of_methodNamed Bd.named
  have hnm := (name_of_methodNamed Bd.named Bd.method).1
  have X0 : Stand p l e room_1 s m #[(.int p1), (.int p2), (.int p3), (.int p4), (.int p5), (.int p6)] below meth c s₁ [] 0 0 := Stand.of_body Bd
  have e0 : s₁.heap = h0 := by rw [← hh, Bd.state]; rfl
  have N0 := Fr.nil n0
  have Zs := Z0
  show own_Goes p e below s (own_Q0 Z p1 p2 p3 p4 p5 p6 h0 n0) room_1.cells room_1.slots _
  refine own_go (B := s₁.setTop (mkF m 0 #[.val (.int p1), .val (.int p2), .val (.int p3), .val (.int p4), .val (.int p5), .val (.int p6), .unset, .unset, .unset, .unset] [])) (fun t k => castTop (ef_0_01 m p1 p2 p3 p4 p5 p6) k) ?_
  refine own_go (B := s₁.setTop (mkF m 2 #[.val (.int p1), .val (.int p2), .val (.int p3), .val (.int p4), .val (.int p5), .val (.int p6), .unset, .unset, .unset, .unset] [(.int p6)])) (fun t k => XS.iload X0.here hx rfl (Jvm.hb hby at_0) rfl k) ?_
  refine own_go (B := s₁.setTop (mkF m 3 #[.val (.int p1), .val (.int p2), .val (.int p3), .val (.int p4), .val (.int p5), .val (.int p6), .unset, .unset, .unset, .unset] [(.int (3 : Int32)), (.int p6)])) (fun t k => XS.iconst X0.here hx rfl (Jvm.hb hby at_2) k) ?_
  refine own_go (B := s₁.setTop (mkF m 4 #[.val (.int p1), .val (.int p2), .val (.int p3), .val (.int p4), .val (.int p5), .val (.int p6), .unset, .unset, .unset, .unset] [(.int (p6 &&& (3 : Int32)))])) (fun t k => XS.iand X0.here hx rfl (Jvm.hb hby at_3) rfl k) ?_
  obtain ⟨vk, hvk⟩ : ∃ z : Int32, z = (p6 &&& (3 : Int32)) := ⟨_, rfl⟩
  rw [← hvk]
  refine own_go (B := s₁.setTop (mkF m 6 #[.val (.int p1), .val (.int p2), .val (.int p3), .val (.int p4), .val (.int p5), .val (.int p6), .val (.int vk), .unset, .unset, .unset] [])) (fun t k => XS.istore X0.here hx rfl (Jvm.hb hby at_4) rfl (l' := #[.val (.int p1), .val (.int p2), .val (.int p3), .val (.int p4), .val (.int p5), .val (.int p6), .val (.int vk), .unset, .unset, .unset]) rfl k) ?_
  refine own_go (B := s₁.setTop (mkF m 8 #[.val (.int p1), .val (.int p2), .val (.int p3), .val (.int p4), .val (.int p5), .val (.int p6), .val (.int vk), .unset, .unset, .unset] [(.int p6)])) (fun t k => XS.iload X0.here hx rfl (Jvm.hb hby at_6) rfl k) ?_
  refine own_go (B := s₁.setTop (mkF m 9 #[.val (.int p1), .val (.int p2), .val (.int p3), .val (.int p4), .val (.int p5), .val (.int p6), .val (.int vk), .unset, .unset, .unset] [(.int (4 : Int32)), (.int p6)])) (fun t k => XS.iconst X0.here hx rfl (Jvm.hb hby at_8) k) ?_
  refine own_go (B := s₁.setTop (mkF m 10 #[.val (.int p1), .val (.int p2), .val (.int p3), .val (.int p4), .val (.int p5), .val (.int p6), .val (.int vk), .unset, .unset, .unset] [(.int (p6 &&& (4 : Int32)))])) (fun t k => XS.iand X0.here hx rfl (Jvm.hb hby at_9) rfl k) ?_
  refine own_go (B := s₁.setTop (mkF m 17 #[.val (.int p1), .val (.int p2), .val (.int p3), .val (.int p4), .val (.int p5), .val (.int p6), .val (.int vk), .unset, .unset, .unset] [])) (fun t k => XS.ifYes X0.here hx rfl (pc0 := 10) (pc' := 17) rfl (Jvm.hb hby at_10) rfl ((if0 _ _).trans (teq ht).1) (by decide) (by decide) k) ?_
  refine own_go (B := s₁.setTop (mkF m 18 #[.val (.int p1), .val (.int p2), .val (.int p3), .val (.int p4), .val (.int p5), .val (.int p6), .val (.int vk), .unset, .unset, .unset] [(.int (0 : Int32))])) (fun t k => XS.iconst X0.here hx rfl (Jvm.hb hby at_17) k) ?_
  refine own_go (B := s₁.setTop (mkF m 20 #[.val (.int p1), .val (.int p2), .val (.int p3), .val (.int p4), .val (.int p5), .val (.int p6), .val (.int vk), .val (.int (0 : Int32)), .unset, .unset] [])) (fun t k => XS.istore X0.here hx rfl (Jvm.hb hby at_18) rfl (l' := #[.val (.int p1), .val (.int p2), .val (.int p3), .val (.int p4), .val (.int p5), .val (.int p6), .val (.int vk), .val (.int (0 : Int32)), .unset, .unset]) rfl k) ?_
  obtain ⟨T85, h85, X85, e85, E85, A85, D85, -, st85⟩ := newO X0 hx hZ hown (own_w hw 0 rfl) (own_w hw 1 rfl) (own_w hw 2 rfl) e0 (g := (mkF m 20 #[.val (.int p1), .val (.int p2), .val (.int p3), .val (.int p4), .val (.int p5), .val (.int p6), .val (.int vk), .val (.int (0 : Int32)), .unset, .unset] [])) rfl (Jvm.hb hby at_20) (by decide) (by decide)
  obtain ⟨b85, g85⟩ : ∃ z, z = h0.size := ⟨_, rfl⟩
  rw [← g85] at A85 D85 st85
  have g_b85 : n0 ≤ b85 := Nat.le_trans Zs (Nat.le_of_eq g85.symm)
  have Zs := Nat.le_trans Zs E85.1
  have E_b85 := A85
  have F_b85_firsts : Fld Z h85 b85 "com/example/term_unifier/termunifier/IntPairStack" "firsts" "[I" .null := D85 (Or.inl (own_w hw 11 rfl)) (ty := (.array .int)) (by decide)
  have F_b85_seconds : Fld Z h85 b85 "com/example/term_unifier/termunifier/IntPairStack" "seconds" "[I" .null := D85 (Or.inl (own_w hw 13 rfl)) (ty := (.array .int)) (by decide)
  have F_b85_below : Fld Z h85 b85 "com/example/term_unifier/termunifier/IntPairStack" "below" "[I" .null := D85 (Or.inl (own_w hw 15 rfl)) (ty := (.array .int)) (by decide)
  have F_b85_top : Fld Z h85 b85 "com/example/term_unifier/termunifier/IntPairStack" "top" "I" (.int (0 : Int32)) := D85 (Or.inl (own_w hw 17 rfl)) (ty := .int) (by decide)
  have F_b85_marks : Fld Z h85 b85 "com/example/term_unifier/termunifier/IntPairStack" "marks" "Lcom/example/term_unifier/termunifier/IntStack;" .null := D85 (Or.inr (own_w hw 28 rfl)) (ty := (.object "com/example/term_unifier/termunifier/IntStack")) (by decide)
  have F_b85_used : Fld Z h85 b85 "com/example/term_unifier/termunifier/IntPairStack" "used" "I" (.int (0 : Int32)) := D85 (Or.inl (own_w hw 35 rfl)) (ty := .int) (by decide)
  have F_b85_kept : Fld Z h85 b85 "com/example/term_unifier/termunifier/IntPairStack" "kept" "I" (.int (0 : Int32)) := D85 (Or.inl (own_w hw 49 rfl)) (ty := .int) (by decide)
  refine own_go (B := T85.setTop (mkF m 23 #[.val (.int p1), .val (.int p2), .val (.int p3), .val (.int p4), .val (.int p5), .val (.int p6), .val (.int vk), .val (.int (0 : Int32)), .unset, .unset] [(.ref b85)])) (fun t k => st85 _ k) ?_
  refine own_go (B := T85.setTop (mkF m 24 #[.val (.int p1), .val (.int p2), .val (.int p3), .val (.int p4), .val (.int p5), .val (.int p6), .val (.int vk), .val (.int (0 : Int32)), .unset, .unset] [(.ref b85), (.ref b85)])) (fun t k => XS.dup X85.here hx rfl (Jvm.hb hby at_23) rfl rfl k) ?_
  obtain ⟨_, _, ⟨T86, La86, ka86, na86⟩, -, X86, ⟨Lc86, hQ86, l86, y86, z86⟩, st86⟩ := X85.specialBack hx (y := (⟨"com/example/term_unifier/termunifier/IntPairStack", "<init>", "()V"⟩ : MethodName)) rfl hown (mvT hZ (own_w hw 3 rfl)) (mvT hZ (own_w hw 4 rfl)) (mvT hZ (own_w hw 5 rfl)) (by decide) (backOf (W := 1) (rm1 l Z a0 hw [] b85 h85 n0 Zs E_b85 F_b85_firsts F_b85_seconds F_b85_below F_b85_top F_b85_used F_b85_kept F_b85_marks g_b85) hZ (own_w hw 5 rfl) (own_w hw 2 rfl) (by decide) (by decide)) (g := (mkF m 24 #[.val (.int p1), .val (.int p2), .val (.int p3), .val (.int p4), .val (.int p5), .val (.int p6), .val (.int vk), .val (.int (0 : Int32)), .unset, .unset] [(.ref b85), (.ref b85)])) rfl (by rw [hml]; rfl) (Steps.refl _) (a := b85) (argsL := []) (rest := [(.ref b85)]) (lenOf pd_0 rfl) rfl (by show 2 * 0 + _ ≤ _; exact Nat.le_of_eq rfl) (Jvm.hb hby at_24) (fun _ _ => ⟨rfl, e85, (by decide : 1 + 5 ≤ _), (by decide : 7 + 66 ≤ _)⟩)
  dsimp only [Pt.U, Pt.locs, Pt.cells, Pt.slots] at X86 l86 y86 z86 st86 hQ86
  have y86 : ka86 = 6 := y86
  have z86 : na86 = 73 := z86
  subst y86 z86
  obtain ⟨rfl, N86q, b87, sq_b87, b88, sq_b88, b89, sq_b89, b90, sq_b90, b91, sq_b91, ne_b87_b88, ne_b87_b89, ne_b87_b90, ne_b87_b91, ne_b88_b89, ne_b88_b90, ne_b88_b91, ne_b89_b90, ne_b89_b91, ne_b90_b91, Kc86, E_b85_q, F_b85_firsts_q, F_b85_seconds_q, F_b85_below_q, F_b85_top_q, F_b85_used_q, F_b85_kept_q, F_b85_marks_q, V_b87_q, V_b88_q, V_b89_q, E_b90_q, F_b90_items_q, F_b90_size_q, V_b91_q⟩ := hQ86
  have g_b87 : n0 ≤ b87 := Nat.le_trans Zs sq_b87
  have ne_b85_b87 : b85 ≠ b87 := Nat.ne_of_lt (Nat.lt_of_lt_of_le E_b85.lt sq_b87)
  have g_b88 : n0 ≤ b88 := Nat.le_trans Zs sq_b88
  have ne_b85_b88 : b85 ≠ b88 := Nat.ne_of_lt (Nat.lt_of_lt_of_le E_b85.lt sq_b88)
  have g_b89 : n0 ≤ b89 := Nat.le_trans Zs sq_b89
  have ne_b85_b89 : b85 ≠ b89 := Nat.ne_of_lt (Nat.lt_of_lt_of_le E_b85.lt sq_b89)
  have g_b90 : n0 ≤ b90 := Nat.le_trans Zs sq_b90
  have ne_b85_b90 : b85 ≠ b90 := Nat.ne_of_lt (Nat.lt_of_lt_of_le E_b85.lt sq_b90)
  have g_b91 : n0 ≤ b91 := Nat.le_trans Zs sq_b91
  have ne_b85_b91 : b85 ≠ b91 := Nat.ne_of_lt (Nat.lt_of_lt_of_le E_b85.lt sq_b91)
  have N86 : Fr n0 La86 := by rw [l86]; exact Fr.app N0 N86q
  have Zs := Nat.le_trans Zs Kc86.1
  have E_b85 := E_b85_q
  have F_b85_firsts := F_b85_firsts_q
  have F_b85_seconds := F_b85_seconds_q
  have F_b85_below := F_b85_below_q
  have F_b85_top := F_b85_top_q
  have F_b85_used := F_b85_used_q
  have F_b85_kept := F_b85_kept_q
  have F_b85_marks := F_b85_marks_q
  have V_b87 := V_b87_q
  have V_b88 := V_b88_q
  have V_b89 := V_b89_q
  have E_b90 := E_b90_q
  have F_b90_items := F_b90_items_q
  have F_b90_size := F_b90_size_q
  have V_b91 := V_b91_q
  refine own_go (B := T86.setTop (mkF m 27 #[.val (.int p1), .val (.int p2), .val (.int p3), .val (.int p4), .val (.int p5), .val (.int p6), .val (.int vk), .val (.int (0 : Int32)), .unset, .unset] [(.ref b85)])) (fun t k => own_st st86 k) ?_
  refine own_go (B := T86.setTop (mkF m 29 #[.val (.int p1), .val (.int p2), .val (.int p3), .val (.int p4), .val (.int p5), .val (.int p6), .val (.int vk), .val (.int (0 : Int32)), .val (.ref b85), .unset] [])) (fun t k => XS.astore X86.here hx rfl (Jvm.hb hby at_27) rfl rfl (l' := #[.val (.int p1), .val (.int p2), .val (.int p3), .val (.int p4), .val (.int p5), .val (.int p6), .val (.int vk), .val (.int (0 : Int32)), .val (.ref b85), .unset]) rfl k) ?_
  refine own_go (B := T86.setTop (mkF m 31 #[.val (.int p1), .val (.int p2), .val (.int p3), .val (.int p4), .val (.int p5), .val (.int p6), .val (.int vk), .val (.int (0 : Int32)), .val (.ref b85), .unset] [(.int vk)])) (fun t k => XS.iload X86.here hx rfl (Jvm.hb hby at_29) rfl k) ?_
  refine own_go (B := T86.setTop (mkF m 32 #[.val (.int p1), .val (.int p2), .val (.int p3), .val (.int p4), .val (.int p5), .val (.int p6), .val (.int vk), .val (.int (0 : Int32)), .val (.ref b85), .unset] [(.int (1 : Int32)), (.int vk)])) (fun t k => XS.iconst X86.here hx rfl (Jvm.hb hby at_31) k) ?_
  refine own_go (B := T86.setTop (mkF m 40 #[.val (.int p1), .val (.int p2), .val (.int p3), .val (.int p4), .val (.int p5), .val (.int p6), .val (.int vk), .val (.int (0 : Int32)), .val (.ref b85), .unset] [])) (fun t k => XS.icmpYes X86.here hx rfl (pc0 := 32) (pc' := 40) rfl (Jvm.hb hby at_32) rfl (feq (by rw [hvk, hk]; decide)).2 (by decide) (by decide) k) ?_
  refine own_go (B := T86.setTop (mkF m 42 #[.val (.int p1), .val (.int p2), .val (.int p3), .val (.int p4), .val (.int p5), .val (.int p6), .val (.int vk), .val (.int (0 : Int32)), .val (.ref b85), .unset] [(.ref b85)])) (fun t k => XS.aload X86.here hx rfl (Jvm.hb hby at_40) rfl rfl k) ?_
  refine own_go (B := T86.setTop (mkF m 43 #[.val (.int p1), .val (.int p2), .val (.int p3), .val (.int p4), .val (.int p5), .val (.int p6), .val (.int vk), .val (.int (0 : Int32)), .val (.ref b85), .unset] [(.int p1), (.ref b85)])) (fun t k => XS.iloadN X86.here hx rfl (Jvm.hb hby at_42) rfl k) ?_
  refine own_go (B := T86.setTop (mkF m 44 #[.val (.int p1), .val (.int p2), .val (.int p3), .val (.int p4), .val (.int p5), .val (.int p6), .val (.int vk), .val (.int (0 : Int32)), .val (.ref b85), .unset] [(.int p2), (.int p1), (.ref b85)])) (fun t k => XS.iloadN X86.here hx rfl (Jvm.hb hby at_43) rfl k) ?_
  obtain ⟨cq92, kq92, q92a, q92b, q92c⟩ := isOf hZ rfl E_b85
  obtain ⟨_, _, ⟨T92, La92, ka92, na92⟩, -, X92, ⟨Lc92, hQ92, l92, y92, z92⟩, st92⟩ := X86.virtualBack hx (y := (⟨"com/example/term_unifier/termunifier/IntPairStack", "push", "(II)V"⟩ : MethodName)) (z := (⟨"com/example/term_unifier/termunifier/IntPairStack", "push", "(II)V"⟩ : MethodName)) hown (mvT hZ (own_w hw 29 rfl)) (mvT hZ (own_w hw 30 rfl)) (notFace_of_selects (args := #[]) (mvT hZ (own_w hw 32 rfl))) (mvT hZ (own_w hw 32 rfl)) (mvT hZ (own_w hw 31 rfl)) (by decide) (backOf (W := 0) (rm4 l Z a0 hw [] b85 p1 p2 b87 b88 b89 b90 (-1 : Int32) (0 : Int32) (0 : Int32) (1 : Int32) 0 (fun _ => 0) (fun _ => 0) (fun _ => 0) T86.heap n0 Zs E_b85 F_b85_firsts F_b85_seconds F_b85_below F_b85_top F_b85_used F_b85_kept F_b85_marks V_b87 V_b88 V_b89 g_b85 g_b87 g_b88 g_b89 ne_b85_b87 ne_b85_b88 ne_b85_b89 ne_b87_b88 ne_b87_b89 ne_b88_b89 (by decide) (by decide) (by decide) (by decide) (by decide)) hZ (own_w hw 33 rfl) (own_w hw 2 rfl) (by decide) (by decide)) q92a q92c (g := (mkF m 44 #[.val (.int p1), .val (.int p2), .val (.int p3), .val (.int p4), .val (.int p5), .val (.int p6), .val (.int vk), .val (.int (0 : Int32)), .val (.ref b85), .unset] [(.int p2), (.int p1), (.ref b85)])) rfl (by rw [hml]; rfl) (Steps.refl _) (argsL := [(.int p1), (.int p2)]) (rest := []) (lenOf pd_3 rfl) rfl (by show 2 * 0 + _ ≤ _; exact Nat.le_of_eq rfl) (Jvm.hb hby at_44) (fun _ _ => ⟨rfl, rfl, (by decide : 6 + 0 ≤ _), (by decide : 73 + 0 ≤ _)⟩)
  dsimp only [Pt.U, Pt.locs, Pt.cells, Pt.slots] at X92 l92 y92 z92 st92 hQ92
  have y92 : ka92 = 6 := y92
  have z92 : na92 = 73 := z92
  subst y92 z92
  obtain ⟨rfl, N92q, Kc92, E_b85_q, F_b85_firsts_q, F_b85_seconds_q, F_b85_below_q, F_b85_top_q, F_b85_used_q, F_b85_kept_q, F_b85_marks_q, V_b87_q, V_b88_q, V_b89_q⟩ := hQ92
  have N92 : Fr n0 La92 := by rw [l92]; exact Fr.app N86 N92q
  have E_b90 := E_b90.keep Kc92
  have F_b90_items := F_b90_items.keep Kc92 (ninS (Ne.symm ne_b85_b90) (ninS (Ne.symm ne_b87_b90) (ninS (Ne.symm ne_b88_b90) (ninS (Ne.symm ne_b89_b90) nin0))))
  have F_b90_size := F_b90_size.keep Kc92 (ninS (Ne.symm ne_b85_b90) (ninS (Ne.symm ne_b87_b90) (ninS (Ne.symm ne_b88_b90) (ninS (Ne.symm ne_b89_b90) nin0))))
  have V_b91 := V_b91.keep Kc92 (ninS (Ne.symm ne_b85_b91) (ninS (Ne.symm ne_b87_b91) (ninS (Ne.symm ne_b88_b91) (ninS (Ne.symm ne_b89_b91) nin0))))
  have Zs := Nat.le_trans Zs Kc92.1
  have E_b85 := E_b85_q
  have F_b85_firsts := F_b85_firsts_q
  have F_b85_seconds := F_b85_seconds_q
  have F_b85_below := F_b85_below_q
  have F_b85_top := F_b85_top_q
  have F_b85_used := F_b85_used_q
  have F_b85_kept := F_b85_kept_q
  have F_b85_marks := F_b85_marks_q
  have V_b87 := V_b87_q
  have V_b88 := V_b88_q
  have V_b89 := V_b89_q
  refine own_go (B := T92.setTop (mkF m 47 #[.val (.int p1), .val (.int p2), .val (.int p3), .val (.int p4), .val (.int p5), .val (.int p6), .val (.int vk), .val (.int (0 : Int32)), .val (.ref b85), .unset] [])) (fun t k => own_st st92 k) ?_
  refine own_go (B := T92.setTop (mkF m 49 #[.val (.int p1), .val (.int p2), .val (.int p3), .val (.int p4), .val (.int p5), .val (.int p6), .val (.int vk), .val (.int (0 : Int32)), .val (.ref b85), .unset] [(.int vk)])) (fun t k => XS.iload X92.here hx rfl (Jvm.hb hby at_47) rfl k) ?_
  refine own_go (B := T92.setTop (mkF m 50 #[.val (.int p1), .val (.int p2), .val (.int p3), .val (.int p4), .val (.int p5), .val (.int p6), .val (.int vk), .val (.int (0 : Int32)), .val (.ref b85), .unset] [(.int (2 : Int32)), (.int vk)])) (fun t k => XS.iconst X92.here hx rfl (Jvm.hb hby at_49) k) ?_
  refine own_go (B := T92.setTop (mkF m 58 #[.val (.int p1), .val (.int p2), .val (.int p3), .val (.int p4), .val (.int p5), .val (.int p6), .val (.int vk), .val (.int (0 : Int32)), .val (.ref b85), .unset] [])) (fun t k => XS.icmpYes X92.here hx rfl (pc0 := 50) (pc' := 58) rfl (Jvm.hb hby at_50) rfl (feq (by rw [hvk, hk]; decide)).2 (by decide) (by decide) k) ?_
  refine own_go (B := T92.setTop (mkF m 60 #[.val (.int p1), .val (.int p2), .val (.int p3), .val (.int p4), .val (.int p5), .val (.int p6), .val (.int vk), .val (.int (0 : Int32)), .val (.ref b85), .unset] [(.ref b85)])) (fun t k => XS.aload X92.here hx rfl (Jvm.hb hby at_58) rfl rfl k) ?_
  refine own_go (B := T92.setTop (mkF m 61 #[.val (.int p1), .val (.int p2), .val (.int p3), .val (.int p4), .val (.int p5), .val (.int p6), .val (.int vk), .val (.int (0 : Int32)), .val (.ref b85), .unset] [(.int p3), (.ref b85)])) (fun t k => XS.iloadN X92.here hx rfl (Jvm.hb hby at_60) rfl k) ?_
  refine own_go (B := T92.setTop (mkF m 62 #[.val (.int p1), .val (.int p2), .val (.int p3), .val (.int p4), .val (.int p5), .val (.int p6), .val (.int vk), .val (.int (0 : Int32)), .val (.ref b85), .unset] [(.int p4), (.int p3), (.ref b85)])) (fun t k => XS.iloadN X92.here hx rfl (Jvm.hb hby at_61) rfl k) ?_
  obtain ⟨cq93, kq93, q93a, q93b, q93c⟩ := isOf hZ rfl E_b85
  obtain ⟨_, _, ⟨T93, La93, ka93, na93⟩, -, X93, ⟨Lc93, hQ93, l93, y93, z93⟩, st93⟩ := X92.virtualBack hx (y := (⟨"com/example/term_unifier/termunifier/IntPairStack", "push", "(II)V"⟩ : MethodName)) (z := (⟨"com/example/term_unifier/termunifier/IntPairStack", "push", "(II)V"⟩ : MethodName)) hown (mvT hZ (own_w hw 29 rfl)) (mvT hZ (own_w hw 30 rfl)) (notFace_of_selects (args := #[]) (mvT hZ (own_w hw 32 rfl))) (mvT hZ (own_w hw 32 rfl)) (mvT hZ (own_w hw 31 rfl)) (by decide) (backOf (W := 0) (rm4 l Z a0 hw [] b85 p3 p4 b87 b88 b89 b90 (0 : Int32) (1 : Int32) (0 : Int32) (2 : Int32) 1 (own_upd (fun _ => 0) 0 p1) (own_upd (fun _ => 0) 0 p2) (own_upd (fun _ => 0) 0 (-1 : Int32)) T92.heap n0 Zs E_b85 F_b85_firsts F_b85_seconds F_b85_below F_b85_top F_b85_used F_b85_kept F_b85_marks V_b87 V_b88 V_b89 g_b85 g_b87 g_b88 g_b89 ne_b85_b87 ne_b85_b88 ne_b85_b89 ne_b87_b88 ne_b87_b89 ne_b88_b89 (by decide) (by decide) (by decide) (by decide) (by decide)) hZ (own_w hw 33 rfl) (own_w hw 2 rfl) (by decide) (by decide)) q93a q93c (g := (mkF m 62 #[.val (.int p1), .val (.int p2), .val (.int p3), .val (.int p4), .val (.int p5), .val (.int p6), .val (.int vk), .val (.int (0 : Int32)), .val (.ref b85), .unset] [(.int p4), (.int p3), (.ref b85)])) rfl (by rw [hml]; rfl) (Steps.refl _) (argsL := [(.int p3), (.int p4)]) (rest := []) (lenOf pd_3 rfl) rfl (by show 2 * 0 + _ ≤ _; exact Nat.le_of_eq rfl) (Jvm.hb hby at_62) (fun _ _ => ⟨rfl, rfl, (by decide : 6 + 0 ≤ _), (by decide : 73 + 0 ≤ _)⟩)
  dsimp only [Pt.U, Pt.locs, Pt.cells, Pt.slots] at X93 l93 y93 z93 st93 hQ93
  have y93 : ka93 = 6 := y93
  have z93 : na93 = 73 := z93
  subst y93 z93
  obtain ⟨rfl, N93q, Kc93, E_b85_q, F_b85_firsts_q, F_b85_seconds_q, F_b85_below_q, F_b85_top_q, F_b85_used_q, F_b85_kept_q, F_b85_marks_q, V_b87_q, V_b88_q, V_b89_q⟩ := hQ93
  have N93 : Fr n0 La93 := by rw [l93]; exact Fr.app N92 N93q
  have E_b90 := E_b90.keep Kc93
  have F_b90_items := F_b90_items.keep Kc93 (ninS (Ne.symm ne_b85_b90) (ninS (Ne.symm ne_b87_b90) (ninS (Ne.symm ne_b88_b90) (ninS (Ne.symm ne_b89_b90) nin0))))
  have F_b90_size := F_b90_size.keep Kc93 (ninS (Ne.symm ne_b85_b90) (ninS (Ne.symm ne_b87_b90) (ninS (Ne.symm ne_b88_b90) (ninS (Ne.symm ne_b89_b90) nin0))))
  have V_b91 := V_b91.keep Kc93 (ninS (Ne.symm ne_b85_b91) (ninS (Ne.symm ne_b87_b91) (ninS (Ne.symm ne_b88_b91) (ninS (Ne.symm ne_b89_b91) nin0))))
  have Zs := Nat.le_trans Zs Kc93.1
  have E_b85 := E_b85_q
  have F_b85_firsts := F_b85_firsts_q
  have F_b85_seconds := F_b85_seconds_q
  have F_b85_below := F_b85_below_q
  have F_b85_top := F_b85_top_q
  have F_b85_used := F_b85_used_q
  have F_b85_kept := F_b85_kept_q
  have F_b85_marks := F_b85_marks_q
  have V_b87 := V_b87_q
  have V_b88 := V_b88_q
  have V_b89 := V_b89_q
  refine own_go (B := T93.setTop (mkF m 65 #[.val (.int p1), .val (.int p2), .val (.int p3), .val (.int p4), .val (.int p5), .val (.int p6), .val (.int vk), .val (.int (0 : Int32)), .val (.ref b85), .unset] [])) (fun t k => own_st st93 k) ?_
  refine own_go (B := T93.setTop (mkF m 67 #[.val (.int p1), .val (.int p2), .val (.int p3), .val (.int p4), .val (.int p5), .val (.int p6), .val (.int vk), .val (.int (0 : Int32)), .val (.ref b85), .unset] [(.int vk)])) (fun t k => XS.iload X93.here hx rfl (Jvm.hb hby at_65) rfl k) ?_
  refine own_go (B := T93.setTop (mkF m 68 #[.val (.int p1), .val (.int p2), .val (.int p3), .val (.int p4), .val (.int p5), .val (.int p6), .val (.int vk), .val (.int (0 : Int32)), .val (.ref b85), .unset] [(.int (3 : Int32)), (.int vk)])) (fun t k => XS.iconst X93.here hx rfl (Jvm.hb hby at_67) k) ?_
  refine own_go (B := T93.setTop (mkF m 76 #[.val (.int p1), .val (.int p2), .val (.int p3), .val (.int p4), .val (.int p5), .val (.int p6), .val (.int vk), .val (.int (0 : Int32)), .val (.ref b85), .unset] [])) (fun t k => XS.icmpYes X93.here hx rfl (pc0 := 68) (pc' := 76) rfl (Jvm.hb hby at_68) rfl (feq (by rw [hvk, hk]; decide)).2 (by decide) (by decide) k) ?_
  refine own_go (B := T93.setTop (mkF m 78 #[.val (.int p1), .val (.int p2), .val (.int p3), .val (.int p4), .val (.int p5), .val (.int p6), .val (.int vk), .val (.int (0 : Int32)), .val (.ref b85), .unset] [(.ref b85)])) (fun t k => XS.aload X93.here hx rfl (Jvm.hb hby at_76) rfl rfl k) ?_
  obtain ⟨cq94, kq94, q94a, q94b, q94c⟩ := isOf hZ rfl E_b85
  obtain ⟨_, _, ⟨T94, La94, ka94, na94⟩, -, X94, ⟨Lc94, hQ94, l94, y94, z94⟩, st94⟩ := X93.virtualBack hx (y := (⟨"com/example/term_unifier/termunifier/IntPairStack", "pop", "()V"⟩ : MethodName)) (z := (⟨"com/example/term_unifier/termunifier/IntPairStack", "pop", "()V"⟩ : MethodName)) hown (mvT hZ (own_w hw 50 rfl)) (mvT hZ (own_w hw 51 rfl)) (notFace_of_selects (args := #[]) (mvT hZ (own_w hw 53 rfl))) (mvT hZ (own_w hw 53 rfl)) (mvT hZ (own_w hw 52 rfl)) (by decide) (backOf (W := 0) (rm_popd l Z a0 hw [] b85 b87 b88 b89 b90 (1 : Int32) (2 : Int32) (0 : Int32) (0 : Int32) (1 : Int32) 1 (own_upd (own_upd (fun _ => 0) 0 (-1 : Int32)) 1 (0 : Int32)) T93.heap n0 Zs E_b85 F_b85_firsts F_b85_seconds F_b85_below F_b85_top F_b85_used F_b85_kept F_b85_marks V_b89 g_b85 ne_b85_b89 (by decide) (by decide) (by decide) rfl (by decide) (by decide) (by decide)) hZ (own_w hw 54 rfl) (own_w hw 2 rfl) (by decide) (by decide)) q94a q94c (g := (mkF m 78 #[.val (.int p1), .val (.int p2), .val (.int p3), .val (.int p4), .val (.int p5), .val (.int p6), .val (.int vk), .val (.int (0 : Int32)), .val (.ref b85), .unset] [(.ref b85)])) rfl (by rw [hml]; rfl) (Steps.refl _) (argsL := []) (rest := []) (lenOf pd_0 rfl) rfl (by show 2 * 0 + _ ≤ _; exact Nat.le_of_eq rfl) (Jvm.hb hby at_78) (fun _ _ => ⟨rfl, rfl, (by decide : 6 + 0 ≤ _), (by decide : 73 + 0 ≤ _)⟩)
  dsimp only [Pt.U, Pt.locs, Pt.cells, Pt.slots] at X94 l94 y94 z94 st94 hQ94
  have y94 : ka94 = 6 := y94
  have z94 : na94 = 73 := z94
  subst y94 z94
  obtain ⟨rfl, N94q, Kc94, E_b85_q, F_b85_firsts_q, F_b85_seconds_q, F_b85_below_q, F_b85_top_q, F_b85_used_q, F_b85_kept_q, F_b85_marks_q⟩ := hQ94
  have N94 : Fr n0 La94 := by rw [l94]; exact Fr.app N93 N94q
  have E_b90 := E_b90.keep Kc94
  have F_b90_items := F_b90_items.keep Kc94 (ninS (Ne.symm ne_b85_b90) nin0)
  have F_b90_size := F_b90_size.keep Kc94 (ninS (Ne.symm ne_b85_b90) nin0)
  have V_b91 := V_b91.keep Kc94 (ninS (Ne.symm ne_b85_b91) nin0)
  have V_b87 := V_b87.keep Kc94 (ninS (Ne.symm ne_b85_b87) nin0)
  have V_b88 := V_b88.keep Kc94 (ninS (Ne.symm ne_b85_b88) nin0)
  have V_b89 := V_b89.keep Kc94 (ninS (Ne.symm ne_b85_b89) nin0)
  have Zs := Nat.le_trans Zs Kc94.1
  have E_b85 := E_b85_q
  have F_b85_firsts := F_b85_firsts_q
  have F_b85_seconds := F_b85_seconds_q
  have F_b85_below := F_b85_below_q
  have F_b85_top := F_b85_top_q
  have F_b85_used := F_b85_used_q
  have F_b85_kept := F_b85_kept_q
  have F_b85_marks := F_b85_marks_q
  refine own_go (B := T94.setTop (mkF m 81 #[.val (.int p1), .val (.int p2), .val (.int p3), .val (.int p4), .val (.int p5), .val (.int p6), .val (.int vk), .val (.int (0 : Int32)), .val (.ref b85), .unset] [])) (fun t k => own_st st94 k) ?_
  refine own_go (B := T94.setTop (mkF m 83 #[.val (.int p1), .val (.int p2), .val (.int p3), .val (.int p4), .val (.int p5), .val (.int p6), .val (.int vk), .val (.int (0 : Int32)), .val (.ref b85), .unset] [(.ref b85)])) (fun t k => XS.aload X94.here hx rfl (Jvm.hb hby at_81) rfl rfl k) ?_
  obtain ⟨cq95, kq95, q95a, q95b, q95c⟩ := isOf hZ rfl E_b85
  obtain ⟨_, _, ⟨T95, La95, ka95, na95⟩, -, X95, ⟨Lc95, hQ95, l95, y95, z95⟩, st95⟩ := X94.virtualBack hx (y := (⟨"com/example/term_unifier/termunifier/IntPairStack", "isEmpty", "()Z"⟩ : MethodName)) (z := (⟨"com/example/term_unifier/termunifier/IntPairStack", "isEmpty", "()Z"⟩ : MethodName)) hown (mvT hZ (own_w hw 55 rfl)) (mvT hZ (own_w hw 56 rfl)) (notFace_of_selects (args := #[]) (mvT hZ (own_w hw 58 rfl))) (mvT hZ (own_w hw 58 rfl)) (mvT hZ (own_w hw 57 rfl)) (by decide) (backOf (W := 0) (rm8 l Z a0 hw [] b85 (0 : Int32) (0 : Int32) T94.heap n0 Zs F_b85_top (by decide)) hZ (own_w hw 59 rfl) (own_w hw 2 rfl) (by decide) (by decide)) q95a q95c (g := (mkF m 83 #[.val (.int p1), .val (.int p2), .val (.int p3), .val (.int p4), .val (.int p5), .val (.int p6), .val (.int vk), .val (.int (0 : Int32)), .val (.ref b85), .unset] [(.ref b85)])) rfl (by rw [hml]; rfl) (Steps.refl _) (argsL := []) (rest := []) (lenOf pd_4 rfl) rfl (by show 2 * 0 + _ ≤ _; exact Nat.le_of_eq rfl) (Jvm.hb hby at_83) (fun _ _ => ⟨rfl, rfl, (by decide : 6 + 0 ≤ _), (by decide : 73 + 0 ≤ _)⟩)
  dsimp only [Pt.U, Pt.locs, Pt.cells, Pt.slots] at X95 l95 y95 z95 st95 hQ95
  have y95 : ka95 = 6 := y95
  have z95 : na95 = 73 := z95
  subst y95 z95
  obtain ⟨rfl, N95q, e95⟩ := hQ95
  have N95 : Fr n0 La95 := by rw [l95]; exact Fr.app N94 N95q
  refine own_go (B := T95.setTop (mkF m 86 #[.val (.int p1), .val (.int p2), .val (.int p3), .val (.int p4), .val (.int p5), .val (.int p6), .val (.int vk), .val (.int (0 : Int32)), .val (.ref b85), .unset] [(.int (0 : Int32))])) (fun t k => own_st st95 k) ?_
  refine own_go (B := T95.setTop (mkF m 89 #[.val (.int p1), .val (.int p2), .val (.int p3), .val (.int p4), .val (.int p5), .val (.int p6), .val (.int vk), .val (.int (0 : Int32)), .val (.ref b85), .unset] [])) (fun t k => XS.ifNo X95.here hx rfl (Jvm.hb hby at_86) rfl ((if0 _ _).trans (teq (by decide : (0 : Int32) = (0 : Int32))).2) k) ?_
  refine own_go (B := T95.setTop (mkF m 91 #[.val (.int p1), .val (.int p2), .val (.int p3), .val (.int p4), .val (.int p5), .val (.int p6), .val (.int vk), .val (.int (0 : Int32)), .val (.ref b85), .unset] [(.ref b85)])) (fun t k => XS.aload X95.here hx rfl (Jvm.hb hby at_89) rfl rfl k) ?_
  obtain ⟨cq96, kq96, q96a, q96b, q96c⟩ := isOf hZ e95 E_b85
  obtain ⟨_, _, ⟨T96, La96, ka96, na96⟩, -, X96, ⟨Lc96, hQ96, l96, y96, z96⟩, st96⟩ := X95.virtualBack hx (y := (⟨"com/example/term_unifier/termunifier/IntPairStack", "first", "()I"⟩ : MethodName)) (z := (⟨"com/example/term_unifier/termunifier/IntPairStack", "first", "()I"⟩ : MethodName)) hown (mvT hZ (own_w hw 60 rfl)) (mvT hZ (own_w hw 61 rfl)) (notFace_of_selects (args := #[]) (mvT hZ (own_w hw 63 rfl))) (mvT hZ (own_w hw 63 rfl)) (mvT hZ (own_w hw 62 rfl)) (by decide) (backOf (W := 0) (rm9 l Z a0 hw [] b85 b87 (0 : Int32) 0 (own_upd (own_upd (fun _ => 0) 0 p1) 1 p3) p1 T94.heap n0 Zs F_b85_firsts F_b85_top V_b87 (by decide) (by decide) (by decide) rfl) hZ (own_w hw 64 rfl) (own_w hw 2 rfl) (by decide) (by decide)) q96a q96c (g := (mkF m 91 #[.val (.int p1), .val (.int p2), .val (.int p3), .val (.int p4), .val (.int p5), .val (.int p6), .val (.int vk), .val (.int (0 : Int32)), .val (.ref b85), .unset] [(.ref b85)])) rfl (by rw [hml]; rfl) (Steps.refl _) (argsL := []) (rest := []) (lenOf pd_2 rfl) rfl (by show 2 * 0 + _ ≤ _; exact Nat.le_of_eq rfl) (Jvm.hb hby at_91) (fun _ _ => ⟨rfl, e95, (by decide : 6 + 0 ≤ _), (by decide : 73 + 0 ≤ _)⟩)
  dsimp only [Pt.U, Pt.locs, Pt.cells, Pt.slots] at X96 l96 y96 z96 st96 hQ96
  have y96 : ka96 = 6 := y96
  have z96 : na96 = 73 := z96
  subst y96 z96
  obtain ⟨rfl, N96q, e96⟩ := hQ96
  have N96 : Fr n0 La96 := by rw [l96]; exact Fr.app N95 N96q
  refine own_go (B := T96.setTop (mkF m 94 #[.val (.int p1), .val (.int p2), .val (.int p3), .val (.int p4), .val (.int p5), .val (.int p6), .val (.int vk), .val (.int (0 : Int32)), .val (.ref b85), .unset] [(.int p1)])) (fun t k => own_st st96 k) ?_
  refine own_go (B := T96.setTop (mkF m 95 #[.val (.int p1), .val (.int p2), .val (.int p3), .val (.int p4), .val (.int p5), .val (.int p6), .val (.int vk), .val (.int (0 : Int32)), .val (.ref b85), .unset] [(.int p1), (.int p1)])) (fun t k => XS.iloadN X96.here hx rfl (Jvm.hb hby at_94) rfl k) ?_
  refine own_go (B := T96.setTop (mkF m 98 #[.val (.int p1), .val (.int p2), .val (.int p3), .val (.int p4), .val (.int p5), .val (.int p6), .val (.int vk), .val (.int (0 : Int32)), .val (.ref b85), .unset] [])) (fun t k => XS.icmpNo X96.here hx rfl (Jvm.hb hby at_95) rfl (teq (rfl : p1 = p1)).2 k) ?_
  refine own_go (B := T96.setTop (mkF m 100 #[.val (.int p1), .val (.int p2), .val (.int p3), .val (.int p4), .val (.int p5), .val (.int p6), .val (.int vk), .val (.int (0 : Int32)), .val (.ref b85), .unset] [(.ref b85)])) (fun t k => XS.aload X96.here hx rfl (Jvm.hb hby at_98) rfl rfl k) ?_
  obtain ⟨cq97, kq97, q97a, q97b, q97c⟩ := isOf hZ e96 E_b85
  obtain ⟨_, _, ⟨T97, La97, ka97, na97⟩, -, X97, ⟨Lc97, hQ97, l97, y97, z97⟩, st97⟩ := X96.virtualBack hx (y := (⟨"com/example/term_unifier/termunifier/IntPairStack", "second", "()I"⟩ : MethodName)) (z := (⟨"com/example/term_unifier/termunifier/IntPairStack", "second", "()I"⟩ : MethodName)) hown (mvT hZ (own_w hw 65 rfl)) (mvT hZ (own_w hw 66 rfl)) (notFace_of_selects (args := #[]) (mvT hZ (own_w hw 68 rfl))) (mvT hZ (own_w hw 68 rfl)) (mvT hZ (own_w hw 67 rfl)) (by decide) (backOf (W := 0) (rm10 l Z a0 hw [] b85 b88 (0 : Int32) 0 (own_upd (own_upd (fun _ => 0) 0 p2) 1 p4) p2 T94.heap n0 Zs F_b85_seconds F_b85_top V_b88 (by decide) (by decide) (by decide) rfl) hZ (own_w hw 69 rfl) (own_w hw 2 rfl) (by decide) (by decide)) q97a q97c (g := (mkF m 100 #[.val (.int p1), .val (.int p2), .val (.int p3), .val (.int p4), .val (.int p5), .val (.int p6), .val (.int vk), .val (.int (0 : Int32)), .val (.ref b85), .unset] [(.ref b85)])) rfl (by rw [hml]; rfl) (Steps.refl _) (argsL := []) (rest := []) (lenOf pd_2 rfl) rfl (by show 2 * 0 + _ ≤ _; exact Nat.le_of_eq rfl) (Jvm.hb hby at_100) (fun _ _ => ⟨rfl, e96, (by decide : 6 + 0 ≤ _), (by decide : 73 + 0 ≤ _)⟩)
  dsimp only [Pt.U, Pt.locs, Pt.cells, Pt.slots] at X97 l97 y97 z97 st97 hQ97
  have y97 : ka97 = 6 := y97
  have z97 : na97 = 73 := z97
  subst y97 z97
  obtain ⟨rfl, N97q, e97⟩ := hQ97
  have N97 : Fr n0 La97 := by rw [l97]; exact Fr.app N96 N97q
  refine own_go (B := T97.setTop (mkF m 103 #[.val (.int p1), .val (.int p2), .val (.int p3), .val (.int p4), .val (.int p5), .val (.int p6), .val (.int vk), .val (.int (0 : Int32)), .val (.ref b85), .unset] [(.int p2)])) (fun t k => own_st st97 k) ?_
  refine own_go (B := T97.setTop (mkF m 104 #[.val (.int p1), .val (.int p2), .val (.int p3), .val (.int p4), .val (.int p5), .val (.int p6), .val (.int vk), .val (.int (0 : Int32)), .val (.ref b85), .unset] [(.int p2), (.int p2)])) (fun t k => XS.iloadN X97.here hx rfl (Jvm.hb hby at_103) rfl k) ?_
  refine own_go (B := T97.setTop (mkF m 107 #[.val (.int p1), .val (.int p2), .val (.int p3), .val (.int p4), .val (.int p5), .val (.int p6), .val (.int vk), .val (.int (0 : Int32)), .val (.ref b85), .unset] [])) (fun t k => XS.icmpNo X97.here hx rfl (Jvm.hb hby at_104) rfl (teq (rfl : p2 = p2)).2 k) ?_
  refine own_go (B := T97.setTop (mkF m 108 #[.val (.int p1), .val (.int p2), .val (.int p3), .val (.int p4), .val (.int p5), .val (.int p6), .val (.int vk), .val (.int (0 : Int32)), .val (.ref b85), .unset] [(.int (1 : Int32))])) (fun t k => XS.iconst X97.here hx rfl (Jvm.hb hby at_107) k) ?_
  refine own_go (B := T97.setTop (mkF m 112 #[.val (.int p1), .val (.int p2), .val (.int p3), .val (.int p4), .val (.int p5), .val (.int p6), .val (.int vk), .val (.int (0 : Int32)), .val (.ref b85), .unset] [(.int (1 : Int32))])) (fun t k => XS.goto X97.here hx rfl (pc0 := 108) (pc' := 112) rfl (Jvm.hb hby at_108) (by decide) (by decide) k) ?_
  refine own_go (B := T97.setTop (mkF m 114 #[.val (.int p1), .val (.int p2), .val (.int p3), .val (.int p4), .val (.int p5), .val (.int p6), .val (.int vk), .val (.int (0 : Int32)), .val (.ref b85), .val (.int (1 : Int32))] [])) (fun t k => XS.istore X97.here hx rfl (Jvm.hb hby at_112) rfl (l' := #[.val (.int p1), .val (.int p2), .val (.int p3), .val (.int p4), .val (.int p5), .val (.int p6), .val (.int vk), .val (.int (0 : Int32)), .val (.ref b85), .val (.int (1 : Int32))]) rfl k) ?_
  refine own_go (B := T97.setTop (mkF m 116 #[.val (.int p1), .val (.int p2), .val (.int p3), .val (.int p4), .val (.int p5), .val (.int p6), .val (.int vk), .val (.int (0 : Int32)), .val (.ref b85), .val (.int (1 : Int32))] [(.int (0 : Int32))])) (fun t k => XS.iload X97.here hx rfl (Jvm.hb hby at_114) rfl k) ?_
  refine own_go (B := T97.setTop (mkF m 144 #[.val (.int p1), .val (.int p2), .val (.int p3), .val (.int p4), .val (.int p5), .val (.int p6), .val (.int vk), .val (.int (0 : Int32)), .val (.ref b85), .val (.int (1 : Int32))] [])) (fun t k => XS.ifYes X97.here hx rfl (pc0 := 116) (pc' := 144) rfl (Jvm.hb hby at_116) rfl ((if0 _ _).trans (teq (by decide : (0 : Int32) = (0 : Int32))).1) (by decide) (by decide) k) ?_
  refine own_go (B := T97.setTop (mkF m 146 #[.val (.int p1), .val (.int p2), .val (.int p3), .val (.int p4), .val (.int p5), .val (.int p6), .val (.int vk), .val (.int (0 : Int32)), .val (.ref b85), .val (.int (1 : Int32))] [(.ref b85)])) (fun t k => XS.aload X97.here hx rfl (Jvm.hb hby at_144) rfl rfl k) ?_
  refine own_go (B := T97.setTop (mkF m 148 #[.val (.int p1), .val (.int p2), .val (.int p3), .val (.int p4), .val (.int p5), .val (.int p6), .val (.int vk), .val (.int (0 : Int32)), .val (.ref b85), .val (.int (1 : Int32))] [(.int p5), (.ref b85)])) (fun t k => XS.iload X97.here hx rfl (Jvm.hb hby at_146) rfl k) ?_
  refine own_go (B := T97.setTop (mkF m 150 #[.val (.int p1), .val (.int p2), .val (.int p3), .val (.int p4), .val (.int p5), .val (.int p6), .val (.int vk), .val (.int (0 : Int32)), .val (.ref b85), .val (.int (1 : Int32))] [(.int p5), (.int p5), (.ref b85)])) (fun t k => XS.iload X97.here hx rfl (Jvm.hb hby at_148) rfl k) ?_
  refine own_go (B := T97.setTop (mkF m 151 #[.val (.int p1), .val (.int p2), .val (.int p3), .val (.int p4), .val (.int p5), .val (.int p6), .val (.int vk), .val (.int (0 : Int32)), .val (.ref b85), .val (.int (1 : Int32))] [(.int (-1 : Int32)), (.int p5), (.int p5), (.ref b85)])) (fun t k => XS.iconst X97.here hx rfl (Jvm.hb hby at_150) k) ?_
  refine own_go (B := T97.setTop (mkF m 152 #[.val (.int p1), .val (.int p2), .val (.int p3), .val (.int p4), .val (.int p5), .val (.int p6), .val (.int vk), .val (.int (0 : Int32)), .val (.ref b85), .val (.int (1 : Int32))] [(.int (p5 ^^^ (-1 : Int32))), (.int p5), (.ref b85)])) (fun t k => XS.ixor X97.here hx rfl (Jvm.hb hby at_151) rfl k) ?_
  obtain ⟨cq98, kq98, q98a, q98b, q98c⟩ := isOf hZ e97 E_b85
  obtain ⟨_, _, ⟨T98, La98, ka98, na98⟩, -, X98, ⟨Lc98, hQ98, l98, y98, z98⟩, st98⟩ := X97.virtualBack hx (y := (⟨"com/example/term_unifier/termunifier/IntPairStack", "push", "(II)V"⟩ : MethodName)) (z := (⟨"com/example/term_unifier/termunifier/IntPairStack", "push", "(II)V"⟩ : MethodName)) hown (mvT hZ (own_w hw 29 rfl)) (mvT hZ (own_w hw 30 rfl)) (notFace_of_selects (args := #[]) (mvT hZ (own_w hw 32 rfl))) (mvT hZ (own_w hw 32 rfl)) (mvT hZ (own_w hw 31 rfl)) (by decide) (backOf (W := 0) (rm4 l Z a0 hw [] b85 p5 (p5 ^^^ (-1 : Int32)) b87 b88 b89 b90 (0 : Int32) (1 : Int32) (0 : Int32) (2 : Int32) 1 (own_upd (own_upd (fun _ => 0) 0 p1) 1 p3) (own_upd (own_upd (fun _ => 0) 0 p2) 1 p4) (own_upd (own_upd (fun _ => 0) 0 (-1 : Int32)) 1 (0 : Int32)) T94.heap n0 Zs E_b85 F_b85_firsts F_b85_seconds F_b85_below F_b85_top F_b85_used F_b85_kept F_b85_marks V_b87 V_b88 V_b89 g_b85 g_b87 g_b88 g_b89 ne_b85_b87 ne_b85_b88 ne_b85_b89 ne_b87_b88 ne_b87_b89 ne_b88_b89 (by decide) (by decide) (by decide) (by decide) (by decide)) hZ (own_w hw 33 rfl) (own_w hw 2 rfl) (by decide) (by decide)) q98a q98c (g := (mkF m 152 #[.val (.int p1), .val (.int p2), .val (.int p3), .val (.int p4), .val (.int p5), .val (.int p6), .val (.int vk), .val (.int (0 : Int32)), .val (.ref b85), .val (.int (1 : Int32))] [(.int (p5 ^^^ (-1 : Int32))), (.int p5), (.ref b85)])) rfl (by rw [hml]; rfl) (Steps.refl _) (argsL := [(.int p5), (.int (p5 ^^^ (-1 : Int32)))]) (rest := []) (lenOf pd_3 rfl) rfl (by show 2 * 0 + _ ≤ _; exact Nat.le_of_eq rfl) (Jvm.hb hby at_152) (fun _ _ => ⟨rfl, e97, (by decide : 6 + 0 ≤ _), (by decide : 73 + 0 ≤ _)⟩)
  dsimp only [Pt.U, Pt.locs, Pt.cells, Pt.slots] at X98 l98 y98 z98 st98 hQ98
  have y98 : ka98 = 6 := y98
  have z98 : na98 = 73 := z98
  subst y98 z98
  obtain ⟨rfl, N98q, Kc98, E_b85_q, F_b85_firsts_q, F_b85_seconds_q, F_b85_below_q, F_b85_top_q, F_b85_used_q, F_b85_kept_q, F_b85_marks_q, V_b87_q, V_b88_q, V_b89_q⟩ := hQ98
  have N98 : Fr n0 La98 := by rw [l98]; exact Fr.app N97 N98q
  have E_b90 := E_b90.keep Kc98
  have F_b90_items := F_b90_items.keep Kc98 (ninS (Ne.symm ne_b85_b90) (ninS (Ne.symm ne_b87_b90) (ninS (Ne.symm ne_b88_b90) (ninS (Ne.symm ne_b89_b90) nin0))))
  have F_b90_size := F_b90_size.keep Kc98 (ninS (Ne.symm ne_b85_b90) (ninS (Ne.symm ne_b87_b90) (ninS (Ne.symm ne_b88_b90) (ninS (Ne.symm ne_b89_b90) nin0))))
  have V_b91 := V_b91.keep Kc98 (ninS (Ne.symm ne_b85_b91) (ninS (Ne.symm ne_b87_b91) (ninS (Ne.symm ne_b88_b91) (ninS (Ne.symm ne_b89_b91) nin0))))
  have Zs := Nat.le_trans Zs Kc98.1
  have E_b85 := E_b85_q
  have F_b85_firsts := F_b85_firsts_q
  have F_b85_seconds := F_b85_seconds_q
  have F_b85_below := F_b85_below_q
  have F_b85_top := F_b85_top_q
  have F_b85_used := F_b85_used_q
  have F_b85_kept := F_b85_kept_q
  have F_b85_marks := F_b85_marks_q
  have V_b87 := V_b87_q
  have V_b88 := V_b88_q
  have V_b89 := V_b89_q
  refine own_go (B := T98.setTop (mkF m 155 #[.val (.int p1), .val (.int p2), .val (.int p3), .val (.int p4), .val (.int p5), .val (.int p6), .val (.int vk), .val (.int (0 : Int32)), .val (.ref b85), .val (.int (1 : Int32))] [])) (fun t k => own_st st98 k) ?_
  refine own_go (B := T98.setTop (mkF m 157 #[.val (.int p1), .val (.int p2), .val (.int p3), .val (.int p4), .val (.int p5), .val (.int p6), .val (.int vk), .val (.int (0 : Int32)), .val (.ref b85), .val (.int (1 : Int32))] [(.int (1 : Int32))])) (fun t k => XS.iload X98.here hx rfl (Jvm.hb hby at_155) rfl k) ?_
  refine own_go (B := T98.setTop (mkF m 160 #[.val (.int p1), .val (.int p2), .val (.int p3), .val (.int p4), .val (.int p5), .val (.int p6), .val (.int vk), .val (.int (0 : Int32)), .val (.ref b85), .val (.int (1 : Int32))] [])) (fun t k => XS.ifNo X98.here hx rfl (Jvm.hb hby at_157) rfl ((if0 _ _).trans (feq (by decide : ¬ ((1 : Int32) = (0 : Int32)))).1) k) ?_
  refine own_go (B := T98.setTop (mkF m 162 #[.val (.int p1), .val (.int p2), .val (.int p3), .val (.int p4), .val (.int p5), .val (.int p6), .val (.int vk), .val (.int (0 : Int32)), .val (.ref b85), .val (.int (1 : Int32))] [(.ref b85)])) (fun t k => XS.aload X98.here hx rfl (Jvm.hb hby at_160) rfl rfl k) ?_
  obtain ⟨cq99, kq99, q99a, q99b, q99c⟩ := isOf hZ rfl E_b85
  obtain ⟨_, _, ⟨T99, La99, ka99, na99⟩, -, X99, ⟨Lc99, hQ99, l99, y99, z99⟩, st99⟩ := X98.virtualBack hx (y := (⟨"com/example/term_unifier/termunifier/IntPairStack", "isEmpty", "()Z"⟩ : MethodName)) (z := (⟨"com/example/term_unifier/termunifier/IntPairStack", "isEmpty", "()Z"⟩ : MethodName)) hown (mvT hZ (own_w hw 55 rfl)) (mvT hZ (own_w hw 56 rfl)) (notFace_of_selects (args := #[]) (mvT hZ (own_w hw 58 rfl))) (mvT hZ (own_w hw 58 rfl)) (mvT hZ (own_w hw 57 rfl)) (by decide) (backOf (W := 0) (rm8 l Z a0 hw [] b85 (1 : Int32) (0 : Int32) T98.heap n0 Zs F_b85_top (by decide)) hZ (own_w hw 59 rfl) (own_w hw 2 rfl) (by decide) (by decide)) q99a q99c (g := (mkF m 162 #[.val (.int p1), .val (.int p2), .val (.int p3), .val (.int p4), .val (.int p5), .val (.int p6), .val (.int vk), .val (.int (0 : Int32)), .val (.ref b85), .val (.int (1 : Int32))] [(.ref b85)])) rfl (by rw [hml]; rfl) (Steps.refl _) (argsL := []) (rest := []) (lenOf pd_4 rfl) rfl (by show 2 * 0 + _ ≤ _; exact Nat.le_of_eq rfl) (Jvm.hb hby at_162) (fun _ _ => ⟨rfl, rfl, (by decide : 6 + 0 ≤ _), (by decide : 73 + 0 ≤ _)⟩)
  dsimp only [Pt.U, Pt.locs, Pt.cells, Pt.slots] at X99 l99 y99 z99 st99 hQ99
  have y99 : ka99 = 6 := y99
  have z99 : na99 = 73 := z99
  subst y99 z99
  obtain ⟨rfl, N99q, e99⟩ := hQ99
  have N99 : Fr n0 La99 := by rw [l99]; exact Fr.app N98 N99q
  refine own_go (B := T99.setTop (mkF m 165 #[.val (.int p1), .val (.int p2), .val (.int p3), .val (.int p4), .val (.int p5), .val (.int p6), .val (.int vk), .val (.int (0 : Int32)), .val (.ref b85), .val (.int (1 : Int32))] [(.int (0 : Int32))])) (fun t k => own_st st99 k) ?_
  refine own_go (B := T99.setTop (mkF m 168 #[.val (.int p1), .val (.int p2), .val (.int p3), .val (.int p4), .val (.int p5), .val (.int p6), .val (.int vk), .val (.int (0 : Int32)), .val (.ref b85), .val (.int (1 : Int32))] [])) (fun t k => XS.ifNo X99.here hx rfl (Jvm.hb hby at_165) rfl ((if0 _ _).trans (teq (by decide : (0 : Int32) = (0 : Int32))).2) k) ?_
  refine own_go (B := T99.setTop (mkF m 170 #[.val (.int p1), .val (.int p2), .val (.int p3), .val (.int p4), .val (.int p5), .val (.int p6), .val (.int vk), .val (.int (0 : Int32)), .val (.ref b85), .val (.int (1 : Int32))] [(.ref b85)])) (fun t k => XS.aload X99.here hx rfl (Jvm.hb hby at_168) rfl rfl k) ?_
  obtain ⟨cq100, kq100, q100a, q100b, q100c⟩ := isOf hZ e99 E_b85
  obtain ⟨_, _, ⟨T100, La100, ka100, na100⟩, -, X100, ⟨Lc100, hQ100, l100, y100, z100⟩, st100⟩ := X99.virtualBack hx (y := (⟨"com/example/term_unifier/termunifier/IntPairStack", "first", "()I"⟩ : MethodName)) (z := (⟨"com/example/term_unifier/termunifier/IntPairStack", "first", "()I"⟩ : MethodName)) hown (mvT hZ (own_w hw 60 rfl)) (mvT hZ (own_w hw 61 rfl)) (notFace_of_selects (args := #[]) (mvT hZ (own_w hw 63 rfl))) (mvT hZ (own_w hw 63 rfl)) (mvT hZ (own_w hw 62 rfl)) (by decide) (backOf (W := 0) (rm9 l Z a0 hw [] b85 b87 (1 : Int32) 1 (own_upd (own_upd (own_upd (fun _ => 0) 0 p1) 1 p3) 1 p5) p5 T98.heap n0 Zs F_b85_firsts F_b85_top V_b87 (by decide) (by decide) (by decide) rfl) hZ (own_w hw 64 rfl) (own_w hw 2 rfl) (by decide) (by decide)) q100a q100c (g := (mkF m 170 #[.val (.int p1), .val (.int p2), .val (.int p3), .val (.int p4), .val (.int p5), .val (.int p6), .val (.int vk), .val (.int (0 : Int32)), .val (.ref b85), .val (.int (1 : Int32))] [(.ref b85)])) rfl (by rw [hml]; rfl) (Steps.refl _) (argsL := []) (rest := []) (lenOf pd_2 rfl) rfl (by show 2 * 0 + _ ≤ _; exact Nat.le_of_eq rfl) (Jvm.hb hby at_170) (fun _ _ => ⟨rfl, e99, (by decide : 6 + 0 ≤ _), (by decide : 73 + 0 ≤ _)⟩)
  dsimp only [Pt.U, Pt.locs, Pt.cells, Pt.slots] at X100 l100 y100 z100 st100 hQ100
  have y100 : ka100 = 6 := y100
  have z100 : na100 = 73 := z100
  subst y100 z100
  obtain ⟨rfl, N100q, e100⟩ := hQ100
  have N100 : Fr n0 La100 := by rw [l100]; exact Fr.app N99 N100q
  refine own_go (B := T100.setTop (mkF m 173 #[.val (.int p1), .val (.int p2), .val (.int p3), .val (.int p4), .val (.int p5), .val (.int p6), .val (.int vk), .val (.int (0 : Int32)), .val (.ref b85), .val (.int (1 : Int32))] [(.int p5)])) (fun t k => own_st st100 k) ?_
  refine own_go (B := T100.setTop (mkF m 175 #[.val (.int p1), .val (.int p2), .val (.int p3), .val (.int p4), .val (.int p5), .val (.int p6), .val (.int vk), .val (.int (0 : Int32)), .val (.ref b85), .val (.int (1 : Int32))] [(.int p5), (.int p5)])) (fun t k => XS.iload X100.here hx rfl (Jvm.hb hby at_173) rfl k) ?_
  refine own_go (B := T100.setTop (mkF m 178 #[.val (.int p1), .val (.int p2), .val (.int p3), .val (.int p4), .val (.int p5), .val (.int p6), .val (.int vk), .val (.int (0 : Int32)), .val (.ref b85), .val (.int (1 : Int32))] [])) (fun t k => XS.icmpNo X100.here hx rfl (Jvm.hb hby at_175) rfl (teq (rfl : p5 = p5)).2 k) ?_
  refine own_go (B := T100.setTop (mkF m 180 #[.val (.int p1), .val (.int p2), .val (.int p3), .val (.int p4), .val (.int p5), .val (.int p6), .val (.int vk), .val (.int (0 : Int32)), .val (.ref b85), .val (.int (1 : Int32))] [(.ref b85)])) (fun t k => XS.aload X100.here hx rfl (Jvm.hb hby at_178) rfl rfl k) ?_
  obtain ⟨cq101, kq101, q101a, q101b, q101c⟩ := isOf hZ e100 E_b85
  obtain ⟨_, _, ⟨T101, La101, ka101, na101⟩, -, X101, ⟨Lc101, hQ101, l101, y101, z101⟩, st101⟩ := X100.virtualBack hx (y := (⟨"com/example/term_unifier/termunifier/IntPairStack", "second", "()I"⟩ : MethodName)) (z := (⟨"com/example/term_unifier/termunifier/IntPairStack", "second", "()I"⟩ : MethodName)) hown (mvT hZ (own_w hw 65 rfl)) (mvT hZ (own_w hw 66 rfl)) (notFace_of_selects (args := #[]) (mvT hZ (own_w hw 68 rfl))) (mvT hZ (own_w hw 68 rfl)) (mvT hZ (own_w hw 67 rfl)) (by decide) (backOf (W := 0) (rm10 l Z a0 hw [] b85 b88 (1 : Int32) 1 (own_upd (own_upd (own_upd (fun _ => 0) 0 p2) 1 p4) 1 (p5 ^^^ (-1 : Int32))) (p5 ^^^ (-1 : Int32)) T98.heap n0 Zs F_b85_seconds F_b85_top V_b88 (by decide) (by decide) (by decide) rfl) hZ (own_w hw 69 rfl) (own_w hw 2 rfl) (by decide) (by decide)) q101a q101c (g := (mkF m 180 #[.val (.int p1), .val (.int p2), .val (.int p3), .val (.int p4), .val (.int p5), .val (.int p6), .val (.int vk), .val (.int (0 : Int32)), .val (.ref b85), .val (.int (1 : Int32))] [(.ref b85)])) rfl (by rw [hml]; rfl) (Steps.refl _) (argsL := []) (rest := []) (lenOf pd_2 rfl) rfl (by show 2 * 0 + _ ≤ _; exact Nat.le_of_eq rfl) (Jvm.hb hby at_180) (fun _ _ => ⟨rfl, e100, (by decide : 6 + 0 ≤ _), (by decide : 73 + 0 ≤ _)⟩)
  dsimp only [Pt.U, Pt.locs, Pt.cells, Pt.slots] at X101 l101 y101 z101 st101 hQ101
  have y101 : ka101 = 6 := y101
  have z101 : na101 = 73 := z101
  subst y101 z101
  obtain ⟨rfl, N101q, e101⟩ := hQ101
  have N101 : Fr n0 La101 := by rw [l101]; exact Fr.app N100 N101q
  refine own_go (B := T101.setTop (mkF m 183 #[.val (.int p1), .val (.int p2), .val (.int p3), .val (.int p4), .val (.int p5), .val (.int p6), .val (.int vk), .val (.int (0 : Int32)), .val (.ref b85), .val (.int (1 : Int32))] [(.int (p5 ^^^ (-1 : Int32)))])) (fun t k => own_st st101 k) ?_
  refine own_go (B := T101.setTop (mkF m 185 #[.val (.int p1), .val (.int p2), .val (.int p3), .val (.int p4), .val (.int p5), .val (.int p6), .val (.int vk), .val (.int (0 : Int32)), .val (.ref b85), .val (.int (1 : Int32))] [(.int p5), (.int (p5 ^^^ (-1 : Int32)))])) (fun t k => XS.iload X101.here hx rfl (Jvm.hb hby at_183) rfl k) ?_
  refine own_go (B := T101.setTop (mkF m 186 #[.val (.int p1), .val (.int p2), .val (.int p3), .val (.int p4), .val (.int p5), .val (.int p6), .val (.int vk), .val (.int (0 : Int32)), .val (.ref b85), .val (.int (1 : Int32))] [(.int (-1 : Int32)), (.int p5), (.int (p5 ^^^ (-1 : Int32)))])) (fun t k => XS.iconst X101.here hx rfl (Jvm.hb hby at_185) k) ?_
  refine own_go (B := T101.setTop (mkF m 187 #[.val (.int p1), .val (.int p2), .val (.int p3), .val (.int p4), .val (.int p5), .val (.int p6), .val (.int vk), .val (.int (0 : Int32)), .val (.ref b85), .val (.int (1 : Int32))] [(.int (p5 ^^^ (-1 : Int32))), (.int (p5 ^^^ (-1 : Int32)))])) (fun t k => XS.ixor X101.here hx rfl (Jvm.hb hby at_186) rfl k) ?_
  refine own_go (B := T101.setTop (mkF m 190 #[.val (.int p1), .val (.int p2), .val (.int p3), .val (.int p4), .val (.int p5), .val (.int p6), .val (.int vk), .val (.int (0 : Int32)), .val (.ref b85), .val (.int (1 : Int32))] [])) (fun t k => XS.icmpNo X101.here hx rfl (Jvm.hb hby at_187) rfl (teq (rfl : (p5 ^^^ (-1 : Int32)) = (p5 ^^^ (-1 : Int32)))).2 k) ?_
  refine own_go (B := T101.setTop (mkF m 191 #[.val (.int p1), .val (.int p2), .val (.int p3), .val (.int p4), .val (.int p5), .val (.int p6), .val (.int vk), .val (.int (0 : Int32)), .val (.ref b85), .val (.int (1 : Int32))] [(.int (1 : Int32))])) (fun t k => XS.iconst X101.here hx rfl (Jvm.hb hby at_190) k) ?_
  refine own_go (B := T101.setTop (mkF m 195 #[.val (.int p1), .val (.int p2), .val (.int p3), .val (.int p4), .val (.int p5), .val (.int p6), .val (.int vk), .val (.int (0 : Int32)), .val (.ref b85), .val (.int (1 : Int32))] [(.int (1 : Int32))])) (fun t k => XS.goto X101.here hx rfl (pc0 := 191) (pc' := 195) rfl (Jvm.hb hby at_191) (by decide) (by decide) k) ?_
  refine own_go (B := T101.setTop (mkF m 197 #[.val (.int p1), .val (.int p2), .val (.int p3), .val (.int p4), .val (.int p5), .val (.int p6), .val (.int vk), .val (.int (0 : Int32)), .val (.ref b85), .val (.int (1 : Int32))] [])) (fun t k => XS.istore X101.here hx rfl (Jvm.hb hby at_195) rfl (l' := #[.val (.int p1), .val (.int p2), .val (.int p3), .val (.int p4), .val (.int p5), .val (.int p6), .val (.int vk), .val (.int (0 : Int32)), .val (.ref b85), .val (.int (1 : Int32))]) rfl k) ?_
  refine own_go (B := T101.setTop (mkF m 199 #[.val (.int p1), .val (.int p2), .val (.int p3), .val (.int p4), .val (.int p5), .val (.int p6), .val (.int vk), .val (.int (0 : Int32)), .val (.ref b85), .val (.int (1 : Int32))] [(.ref b85)])) (fun t k => XS.aload X101.here hx rfl (Jvm.hb hby at_197) rfl rfl k) ?_
  obtain ⟨cq102, kq102, q102a, q102b, q102c⟩ := isOf hZ e101 E_b85
  obtain ⟨_, _, ⟨T102, La102, ka102, na102⟩, -, X102, ⟨Lc102, hQ102, l102, y102, z102⟩, st102⟩ := X101.virtualBack hx (y := (⟨"com/example/term_unifier/termunifier/IntPairStack", "pop", "()V"⟩ : MethodName)) (z := (⟨"com/example/term_unifier/termunifier/IntPairStack", "pop", "()V"⟩ : MethodName)) hown (mvT hZ (own_w hw 50 rfl)) (mvT hZ (own_w hw 51 rfl)) (notFace_of_selects (args := #[]) (mvT hZ (own_w hw 53 rfl))) (mvT hZ (own_w hw 53 rfl)) (mvT hZ (own_w hw 52 rfl)) (by decide) (backOf (W := 0) (rm_popd l Z a0 hw [] b85 b87 b88 b89 b90 (1 : Int32) (2 : Int32) (0 : Int32) (0 : Int32) (1 : Int32) 1 (own_upd (own_upd (own_upd (fun _ => 0) 0 (-1 : Int32)) 1 (0 : Int32)) 1 (0 : Int32)) T98.heap n0 Zs E_b85 F_b85_firsts F_b85_seconds F_b85_below F_b85_top F_b85_used F_b85_kept F_b85_marks V_b89 g_b85 ne_b85_b89 (by decide) (by decide) (by decide) rfl (by decide) (by decide) (by decide)) hZ (own_w hw 54 rfl) (own_w hw 2 rfl) (by decide) (by decide)) q102a q102c (g := (mkF m 199 #[.val (.int p1), .val (.int p2), .val (.int p3), .val (.int p4), .val (.int p5), .val (.int p6), .val (.int vk), .val (.int (0 : Int32)), .val (.ref b85), .val (.int (1 : Int32))] [(.ref b85)])) rfl (by rw [hml]; rfl) (Steps.refl _) (argsL := []) (rest := []) (lenOf pd_0 rfl) rfl (by show 2 * 0 + _ ≤ _; exact Nat.le_of_eq rfl) (Jvm.hb hby at_199) (fun _ _ => ⟨rfl, e101, (by decide : 6 + 0 ≤ _), (by decide : 73 + 0 ≤ _)⟩)
  dsimp only [Pt.U, Pt.locs, Pt.cells, Pt.slots] at X102 l102 y102 z102 st102 hQ102
  have y102 : ka102 = 6 := y102
  have z102 : na102 = 73 := z102
  subst y102 z102
  obtain ⟨rfl, N102q, Kc102, E_b85_q, F_b85_firsts_q, F_b85_seconds_q, F_b85_below_q, F_b85_top_q, F_b85_used_q, F_b85_kept_q, F_b85_marks_q⟩ := hQ102
  have N102 : Fr n0 La102 := by rw [l102]; exact Fr.app N101 N102q
  have E_b90 := E_b90.keep Kc102
  have F_b90_items := F_b90_items.keep Kc102 (ninS (Ne.symm ne_b85_b90) nin0)
  have F_b90_size := F_b90_size.keep Kc102 (ninS (Ne.symm ne_b85_b90) nin0)
  have V_b91 := V_b91.keep Kc102 (ninS (Ne.symm ne_b85_b91) nin0)
  have V_b87 := V_b87.keep Kc102 (ninS (Ne.symm ne_b85_b87) nin0)
  have V_b88 := V_b88.keep Kc102 (ninS (Ne.symm ne_b85_b88) nin0)
  have V_b89 := V_b89.keep Kc102 (ninS (Ne.symm ne_b85_b89) nin0)
  have Zs := Nat.le_trans Zs Kc102.1
  have E_b85 := E_b85_q
  have F_b85_firsts := F_b85_firsts_q
  have F_b85_seconds := F_b85_seconds_q
  have F_b85_below := F_b85_below_q
  have F_b85_top := F_b85_top_q
  have F_b85_used := F_b85_used_q
  have F_b85_kept := F_b85_kept_q
  have F_b85_marks := F_b85_marks_q
  refine own_go (B := T102.setTop (mkF m 202 #[.val (.int p1), .val (.int p2), .val (.int p3), .val (.int p4), .val (.int p5), .val (.int p6), .val (.int vk), .val (.int (0 : Int32)), .val (.ref b85), .val (.int (1 : Int32))] [])) (fun t k => own_st st102 k) ?_
  refine own_go (B := T102.setTop (mkF m 204 #[.val (.int p1), .val (.int p2), .val (.int p3), .val (.int p4), .val (.int p5), .val (.int p6), .val (.int vk), .val (.int (0 : Int32)), .val (.ref b85), .val (.int (1 : Int32))] [(.int (0 : Int32))])) (fun t k => XS.iload X102.here hx rfl (Jvm.hb hby at_202) rfl k) ?_
  refine own_go (B := T102.setTop (mkF m 230 #[.val (.int p1), .val (.int p2), .val (.int p3), .val (.int p4), .val (.int p5), .val (.int p6), .val (.int vk), .val (.int (0 : Int32)), .val (.ref b85), .val (.int (1 : Int32))] [])) (fun t k => XS.ifYes X102.here hx rfl (pc0 := 204) (pc' := 230) rfl (Jvm.hb hby at_204) rfl ((if0 _ _).trans (teq (by decide : (0 : Int32) = (0 : Int32))).1) (by decide) (by decide) k) ?_
  refine own_go (B := T102.setTop (mkF m 232 #[.val (.int p1), .val (.int p2), .val (.int p3), .val (.int p4), .val (.int p5), .val (.int p6), .val (.int vk), .val (.int (0 : Int32)), .val (.ref b85), .val (.int (1 : Int32))] [(.int (1 : Int32))])) (fun t k => XS.iload X102.here hx rfl (Jvm.hb hby at_230) rfl k) ?_
  refine own_go (B := T102.setTop (mkF m 235 #[.val (.int p1), .val (.int p2), .val (.int p3), .val (.int p4), .val (.int p5), .val (.int p6), .val (.int vk), .val (.int (0 : Int32)), .val (.ref b85), .val (.int (1 : Int32))] [])) (fun t k => XS.ifNo X102.here hx rfl (Jvm.hb hby at_232) rfl ((if0 _ _).trans (feq (by decide : ¬ ((1 : Int32) = (0 : Int32)))).1) k) ?_
  refine own_go (B := T102.setTop (mkF m 237 #[.val (.int p1), .val (.int p2), .val (.int p3), .val (.int p4), .val (.int p5), .val (.int p6), .val (.int vk), .val (.int (0 : Int32)), .val (.ref b85), .val (.int (1 : Int32))] [(.ref b85)])) (fun t k => XS.aload X102.here hx rfl (Jvm.hb hby at_235) rfl rfl k) ?_
  obtain ⟨cq103, kq103, q103a, q103b, q103c⟩ := isOf hZ rfl E_b85
  obtain ⟨_, _, ⟨T103, La103, ka103, na103⟩, -, X103, ⟨Lc103, hQ103, l103, y103, z103⟩, st103⟩ := X102.virtualBack hx (y := (⟨"com/example/term_unifier/termunifier/IntPairStack", "isEmpty", "()Z"⟩ : MethodName)) (z := (⟨"com/example/term_unifier/termunifier/IntPairStack", "isEmpty", "()Z"⟩ : MethodName)) hown (mvT hZ (own_w hw 55 rfl)) (mvT hZ (own_w hw 56 rfl)) (notFace_of_selects (args := #[]) (mvT hZ (own_w hw 58 rfl))) (mvT hZ (own_w hw 58 rfl)) (mvT hZ (own_w hw 57 rfl)) (by decide) (backOf (W := 0) (rm8 l Z a0 hw [] b85 (0 : Int32) (0 : Int32) T102.heap n0 Zs F_b85_top (by decide)) hZ (own_w hw 59 rfl) (own_w hw 2 rfl) (by decide) (by decide)) q103a q103c (g := (mkF m 237 #[.val (.int p1), .val (.int p2), .val (.int p3), .val (.int p4), .val (.int p5), .val (.int p6), .val (.int vk), .val (.int (0 : Int32)), .val (.ref b85), .val (.int (1 : Int32))] [(.ref b85)])) rfl (by rw [hml]; rfl) (Steps.refl _) (argsL := []) (rest := []) (lenOf pd_4 rfl) rfl (by show 2 * 0 + _ ≤ _; exact Nat.le_of_eq rfl) (Jvm.hb hby at_237) (fun _ _ => ⟨rfl, rfl, (by decide : 6 + 0 ≤ _), (by decide : 73 + 0 ≤ _)⟩)
  dsimp only [Pt.U, Pt.locs, Pt.cells, Pt.slots] at X103 l103 y103 z103 st103 hQ103
  have y103 : ka103 = 6 := y103
  have z103 : na103 = 73 := z103
  subst y103 z103
  obtain ⟨rfl, N103q, e103⟩ := hQ103
  have N103 : Fr n0 La103 := by rw [l103]; exact Fr.app N102 N103q
  refine own_go (B := T103.setTop (mkF m 240 #[.val (.int p1), .val (.int p2), .val (.int p3), .val (.int p4), .val (.int p5), .val (.int p6), .val (.int vk), .val (.int (0 : Int32)), .val (.ref b85), .val (.int (1 : Int32))] [(.int (0 : Int32))])) (fun t k => own_st st103 k) ?_
  refine own_go (B := T103.setTop (mkF m 243 #[.val (.int p1), .val (.int p2), .val (.int p3), .val (.int p4), .val (.int p5), .val (.int p6), .val (.int vk), .val (.int (0 : Int32)), .val (.ref b85), .val (.int (1 : Int32))] [])) (fun t k => XS.ifNo X103.here hx rfl (Jvm.hb hby at_240) rfl ((if0 _ _).trans (teq (by decide : (0 : Int32) = (0 : Int32))).2) k) ?_
  refine own_go (B := T103.setTop (mkF m 245 #[.val (.int p1), .val (.int p2), .val (.int p3), .val (.int p4), .val (.int p5), .val (.int p6), .val (.int vk), .val (.int (0 : Int32)), .val (.ref b85), .val (.int (1 : Int32))] [(.ref b85)])) (fun t k => XS.aload X103.here hx rfl (Jvm.hb hby at_243) rfl rfl k) ?_
  obtain ⟨cq104, kq104, q104a, q104b, q104c⟩ := isOf hZ e103 E_b85
  obtain ⟨_, _, ⟨T104, La104, ka104, na104⟩, -, X104, ⟨Lc104, hQ104, l104, y104, z104⟩, st104⟩ := X103.virtualBack hx (y := (⟨"com/example/term_unifier/termunifier/IntPairStack", "first", "()I"⟩ : MethodName)) (z := (⟨"com/example/term_unifier/termunifier/IntPairStack", "first", "()I"⟩ : MethodName)) hown (mvT hZ (own_w hw 60 rfl)) (mvT hZ (own_w hw 61 rfl)) (notFace_of_selects (args := #[]) (mvT hZ (own_w hw 63 rfl))) (mvT hZ (own_w hw 63 rfl)) (mvT hZ (own_w hw 62 rfl)) (by decide) (backOf (W := 0) (rm9 l Z a0 hw [] b85 b87 (0 : Int32) 0 (own_upd (own_upd (own_upd (fun _ => 0) 0 p1) 1 p3) 1 p5) p1 T102.heap n0 Zs F_b85_firsts F_b85_top V_b87 (by decide) (by decide) (by decide) rfl) hZ (own_w hw 64 rfl) (own_w hw 2 rfl) (by decide) (by decide)) q104a q104c (g := (mkF m 245 #[.val (.int p1), .val (.int p2), .val (.int p3), .val (.int p4), .val (.int p5), .val (.int p6), .val (.int vk), .val (.int (0 : Int32)), .val (.ref b85), .val (.int (1 : Int32))] [(.ref b85)])) rfl (by rw [hml]; rfl) (Steps.refl _) (argsL := []) (rest := []) (lenOf pd_2 rfl) rfl (by show 2 * 0 + _ ≤ _; exact Nat.le_of_eq rfl) (Jvm.hb hby at_245) (fun _ _ => ⟨rfl, e103, (by decide : 6 + 0 ≤ _), (by decide : 73 + 0 ≤ _)⟩)
  dsimp only [Pt.U, Pt.locs, Pt.cells, Pt.slots] at X104 l104 y104 z104 st104 hQ104
  have y104 : ka104 = 6 := y104
  have z104 : na104 = 73 := z104
  subst y104 z104
  obtain ⟨rfl, N104q, e104⟩ := hQ104
  have N104 : Fr n0 La104 := by rw [l104]; exact Fr.app N103 N104q
  refine own_go (B := T104.setTop (mkF m 248 #[.val (.int p1), .val (.int p2), .val (.int p3), .val (.int p4), .val (.int p5), .val (.int p6), .val (.int vk), .val (.int (0 : Int32)), .val (.ref b85), .val (.int (1 : Int32))] [(.int p1)])) (fun t k => own_st st104 k) ?_
  refine own_go (B := T104.setTop (mkF m 249 #[.val (.int p1), .val (.int p2), .val (.int p3), .val (.int p4), .val (.int p5), .val (.int p6), .val (.int vk), .val (.int (0 : Int32)), .val (.ref b85), .val (.int (1 : Int32))] [(.int p1), (.int p1)])) (fun t k => XS.iloadN X104.here hx rfl (Jvm.hb hby at_248) rfl k) ?_
  refine own_go (B := T104.setTop (mkF m 252 #[.val (.int p1), .val (.int p2), .val (.int p3), .val (.int p4), .val (.int p5), .val (.int p6), .val (.int vk), .val (.int (0 : Int32)), .val (.ref b85), .val (.int (1 : Int32))] [])) (fun t k => XS.icmpNo X104.here hx rfl (Jvm.hb hby at_249) rfl (teq (rfl : p1 = p1)).2 k) ?_
  refine own_go (B := T104.setTop (mkF m 254 #[.val (.int p1), .val (.int p2), .val (.int p3), .val (.int p4), .val (.int p5), .val (.int p6), .val (.int vk), .val (.int (0 : Int32)), .val (.ref b85), .val (.int (1 : Int32))] [(.ref b85)])) (fun t k => XS.aload X104.here hx rfl (Jvm.hb hby at_252) rfl rfl k) ?_
  obtain ⟨cq105, kq105, q105a, q105b, q105c⟩ := isOf hZ e104 E_b85
  obtain ⟨_, _, ⟨T105, La105, ka105, na105⟩, -, X105, ⟨Lc105, hQ105, l105, y105, z105⟩, st105⟩ := X104.virtualBack hx (y := (⟨"com/example/term_unifier/termunifier/IntPairStack", "second", "()I"⟩ : MethodName)) (z := (⟨"com/example/term_unifier/termunifier/IntPairStack", "second", "()I"⟩ : MethodName)) hown (mvT hZ (own_w hw 65 rfl)) (mvT hZ (own_w hw 66 rfl)) (notFace_of_selects (args := #[]) (mvT hZ (own_w hw 68 rfl))) (mvT hZ (own_w hw 68 rfl)) (mvT hZ (own_w hw 67 rfl)) (by decide) (backOf (W := 0) (rm10 l Z a0 hw [] b85 b88 (0 : Int32) 0 (own_upd (own_upd (own_upd (fun _ => 0) 0 p2) 1 p4) 1 (p5 ^^^ (-1 : Int32))) p2 T102.heap n0 Zs F_b85_seconds F_b85_top V_b88 (by decide) (by decide) (by decide) rfl) hZ (own_w hw 69 rfl) (own_w hw 2 rfl) (by decide) (by decide)) q105a q105c (g := (mkF m 254 #[.val (.int p1), .val (.int p2), .val (.int p3), .val (.int p4), .val (.int p5), .val (.int p6), .val (.int vk), .val (.int (0 : Int32)), .val (.ref b85), .val (.int (1 : Int32))] [(.ref b85)])) rfl (by rw [hml]; rfl) (Steps.refl _) (argsL := []) (rest := []) (lenOf pd_2 rfl) rfl (by show 2 * 0 + _ ≤ _; exact Nat.le_of_eq rfl) (Jvm.hb hby at_254) (fun _ _ => ⟨rfl, e104, (by decide : 6 + 0 ≤ _), (by decide : 73 + 0 ≤ _)⟩)
  dsimp only [Pt.U, Pt.locs, Pt.cells, Pt.slots] at X105 l105 y105 z105 st105 hQ105
  have y105 : ka105 = 6 := y105
  have z105 : na105 = 73 := z105
  subst y105 z105
  obtain ⟨rfl, N105q, e105⟩ := hQ105
  have N105 : Fr n0 La105 := by rw [l105]; exact Fr.app N104 N105q
  refine own_go (B := T105.setTop (mkF m 257 #[.val (.int p1), .val (.int p2), .val (.int p3), .val (.int p4), .val (.int p5), .val (.int p6), .val (.int vk), .val (.int (0 : Int32)), .val (.ref b85), .val (.int (1 : Int32))] [(.int p2)])) (fun t k => own_st st105 k) ?_
  refine own_go (B := T105.setTop (mkF m 258 #[.val (.int p1), .val (.int p2), .val (.int p3), .val (.int p4), .val (.int p5), .val (.int p6), .val (.int vk), .val (.int (0 : Int32)), .val (.ref b85), .val (.int (1 : Int32))] [(.int p2), (.int p2)])) (fun t k => XS.iloadN X105.here hx rfl (Jvm.hb hby at_257) rfl k) ?_
  refine own_go (B := T105.setTop (mkF m 261 #[.val (.int p1), .val (.int p2), .val (.int p3), .val (.int p4), .val (.int p5), .val (.int p6), .val (.int vk), .val (.int (0 : Int32)), .val (.ref b85), .val (.int (1 : Int32))] [])) (fun t k => XS.icmpNo X105.here hx rfl (Jvm.hb hby at_258) rfl (teq (rfl : p2 = p2)).2 k) ?_
  refine own_go (B := T105.setTop (mkF m 262 #[.val (.int p1), .val (.int p2), .val (.int p3), .val (.int p4), .val (.int p5), .val (.int p6), .val (.int vk), .val (.int (0 : Int32)), .val (.ref b85), .val (.int (1 : Int32))] [(.int (1 : Int32))])) (fun t k => XS.iconst X105.here hx rfl (Jvm.hb hby at_261) k) ?_
  refine own_go (B := T105.setTop (mkF m 266 #[.val (.int p1), .val (.int p2), .val (.int p3), .val (.int p4), .val (.int p5), .val (.int p6), .val (.int vk), .val (.int (0 : Int32)), .val (.ref b85), .val (.int (1 : Int32))] [(.int (1 : Int32))])) (fun t k => XS.goto X105.here hx rfl (pc0 := 262) (pc' := 266) rfl (Jvm.hb hby at_262) (by decide) (by decide) k) ?_
  refine own_go (B := T105.setTop (mkF m 268 #[.val (.int p1), .val (.int p2), .val (.int p3), .val (.int p4), .val (.int p5), .val (.int p6), .val (.int vk), .val (.int (0 : Int32)), .val (.ref b85), .val (.int (1 : Int32))] [])) (fun t k => XS.istore X105.here hx rfl (Jvm.hb hby at_266) rfl (l' := #[.val (.int p1), .val (.int p2), .val (.int p3), .val (.int p4), .val (.int p5), .val (.int p6), .val (.int vk), .val (.int (0 : Int32)), .val (.ref b85), .val (.int (1 : Int32))]) rfl k) ?_
  refine own_go (B := T105.setTop (mkF m 270 #[.val (.int p1), .val (.int p2), .val (.int p3), .val (.int p4), .val (.int p5), .val (.int p6), .val (.int vk), .val (.int (0 : Int32)), .val (.ref b85), .val (.int (1 : Int32))] [(.int vk)])) (fun t k => XS.iload X105.here hx rfl (Jvm.hb hby at_268) rfl k) ?_
  refine own_go (B := T105.setTop (mkF m 435 #[.val (.int p1), .val (.int p2), .val (.int p3), .val (.int p4), .val (.int p5), .val (.int p6), .val (.int vk), .val (.int (0 : Int32)), .val (.ref b85), .val (.int (1 : Int32))] [])) (fun t k => XS.ifYes X105.here hx rfl (pc0 := 270) (pc' := 435) rfl (Jvm.hb hby at_270) rfl ((if0 _ _).trans (teq (hvk.trans hk)).1) (by decide) (by decide) k) ?_
  refine own_go (B := T105.setTop (mkF m 437 #[.val (.int p1), .val (.int p2), .val (.int p3), .val (.int p4), .val (.int p5), .val (.int p6), .val (.int vk), .val (.int (0 : Int32)), .val (.ref b85), .val (.int (1 : Int32))] [(.int (1 : Int32))])) (fun t k => XS.iload X105.here hx rfl (Jvm.hb hby at_435) rfl k) ?_
  refine own_out X105 (v := (some (.int (1 : Int32)))) (fun h => by rw [Bd.returns] at h; cases h) Bd.notSynchronized (fun fs hr => retOut X105 hx (t := .boolean) Bd.returns rfl (by first | exact Or.inl ⟨rfl, by simp, _, rfl⟩) (Jvm.hb hby at_437) hr) ?_ (by decide) (by decide)
  show own_Q0 Z p1 p2 p3 p4 p5 p6 h0 n0 (some (.int (1 : Int32))) T105.heap _
  rw [e105]
  exact ⟨rfl, N105⟩
theorem ef_0_00 (m : MethodId) (x0 : Int32) (x1 : Int32) (x2 : Int32) (x3 : Int32) (x4 : Int32) (x5 : Int32) : entryFrame m #[(.int x0), (.int x1), (.int x2), (.int x3), (.int x4), (.int x5)] maxLocals = mkF m 0 #[.val (.int x0), .val (.int x1), .val (.int x2), .val (.int x3), .val (.int x4), .val (.int x5), .unset, .unset, .unset, .unset] [] := by first | (simp [entryFrame, mkF, argsToLocals, Value.category, maxLocals]; done) | rfl
set_option maxRecDepth 65536 in
set_option maxHeartbeats 40000000 in
theorem rm0_00 (l : Launch) (Z : State) (a0 : Array Value) (hw : ∀ d ∈ tables_1, d.before a0 Z = true) (ws : List Jvm.Cond) (p1 : Int32) (p2 : Int32) (p3 : Int32) (p4 : Int32) (p5 : Int32) (p6 : Int32) (h0 : Heap) (n0 : Nat) (Z0 : n0 ≤ h0.size) (hk : (p6 &&& (3 : Int32)) = (0 : Int32)) (ht : ¬ ((p6 &&& (4 : Int32)) = (0 : Int32))) :
    MetFree l x (head1 (Jvm.Cond.code x code maxLocals ret :: ws) room_1) (fun a U => a = #[(.int p1), (.int p2), (.int p3), (.int p4), (.int p5), (.int p6)] ∧ Z.Warmed39 U.vm ∧ U.heap = h0) (fun _ _ _ _ _ => True) (fun _ U o U' => ∃ v L, o = .returned v ∧ own_Q0 Z p1 p2 p3 p4 p5 p6 h0 n0 v U'.heap L ∧ FrameEnd U o U' L room_1.cells room_1.slots) := by
  refine MetFree.of_bodySF (plainFor_of_name pn_com_example_term_unifier_termunifier_IntPairStackPopPinLaw) hisR ?_
  intro p e s m args below meth c s₁ Bd hml0 hP hK
  obtain ⟨rfl, hZ, hh⟩ := hP
  have hx := Bd.exec
  have hby := Bd.bytes
  have hml : c.maxLocals = 10 := hml0
  have hown : s.vm.findClass "com/example/term_unifier/termunifier/IntPairStackPopPinLaw" = some m.cls := findClass_of_methodNamed Bd.named
  have hnm := (name_of_methodNamed Bd.named Bd.method).1
  have X0 : Stand p l e room_1 s m #[(.int p1), (.int p2), (.int p3), (.int p4), (.int p5), (.int p6)] below meth c s₁ [] 0 0 := Stand.of_body Bd
  have e0 : s₁.heap = h0 := by rw [← hh, Bd.state]; rfl
  have N0 := Fr.nil n0
  have Zs := Z0
  show own_Goes p e below s (own_Q0 Z p1 p2 p3 p4 p5 p6 h0 n0) room_1.cells room_1.slots _
  refine own_go (B := s₁.setTop (mkF m 0 #[.val (.int p1), .val (.int p2), .val (.int p3), .val (.int p4), .val (.int p5), .val (.int p6), .unset, .unset, .unset, .unset] [])) (fun t k => castTop (ef_0_00 m p1 p2 p3 p4 p5 p6) k) ?_
  refine own_go (B := s₁.setTop (mkF m 2 #[.val (.int p1), .val (.int p2), .val (.int p3), .val (.int p4), .val (.int p5), .val (.int p6), .unset, .unset, .unset, .unset] [(.int p6)])) (fun t k => XS.iload X0.here hx rfl (Jvm.hb hby at_0) rfl k) ?_
  refine own_go (B := s₁.setTop (mkF m 3 #[.val (.int p1), .val (.int p2), .val (.int p3), .val (.int p4), .val (.int p5), .val (.int p6), .unset, .unset, .unset, .unset] [(.int (3 : Int32)), (.int p6)])) (fun t k => XS.iconst X0.here hx rfl (Jvm.hb hby at_2) k) ?_
  refine own_go (B := s₁.setTop (mkF m 4 #[.val (.int p1), .val (.int p2), .val (.int p3), .val (.int p4), .val (.int p5), .val (.int p6), .unset, .unset, .unset, .unset] [(.int (p6 &&& (3 : Int32)))])) (fun t k => XS.iand X0.here hx rfl (Jvm.hb hby at_3) rfl k) ?_
  obtain ⟨vk, hvk⟩ : ∃ z : Int32, z = (p6 &&& (3 : Int32)) := ⟨_, rfl⟩
  rw [← hvk]
  refine own_go (B := s₁.setTop (mkF m 6 #[.val (.int p1), .val (.int p2), .val (.int p3), .val (.int p4), .val (.int p5), .val (.int p6), .val (.int vk), .unset, .unset, .unset] [])) (fun t k => XS.istore X0.here hx rfl (Jvm.hb hby at_4) rfl (l' := #[.val (.int p1), .val (.int p2), .val (.int p3), .val (.int p4), .val (.int p5), .val (.int p6), .val (.int vk), .unset, .unset, .unset]) rfl k) ?_
  refine own_go (B := s₁.setTop (mkF m 8 #[.val (.int p1), .val (.int p2), .val (.int p3), .val (.int p4), .val (.int p5), .val (.int p6), .val (.int vk), .unset, .unset, .unset] [(.int p6)])) (fun t k => XS.iload X0.here hx rfl (Jvm.hb hby at_6) rfl k) ?_
  refine own_go (B := s₁.setTop (mkF m 9 #[.val (.int p1), .val (.int p2), .val (.int p3), .val (.int p4), .val (.int p5), .val (.int p6), .val (.int vk), .unset, .unset, .unset] [(.int (4 : Int32)), (.int p6)])) (fun t k => XS.iconst X0.here hx rfl (Jvm.hb hby at_8) k) ?_
  refine own_go (B := s₁.setTop (mkF m 10 #[.val (.int p1), .val (.int p2), .val (.int p3), .val (.int p4), .val (.int p5), .val (.int p6), .val (.int vk), .unset, .unset, .unset] [(.int (p6 &&& (4 : Int32)))])) (fun t k => XS.iand X0.here hx rfl (Jvm.hb hby at_9) rfl k) ?_
  refine own_go (B := s₁.setTop (mkF m 13 #[.val (.int p1), .val (.int p2), .val (.int p3), .val (.int p4), .val (.int p5), .val (.int p6), .val (.int vk), .unset, .unset, .unset] [])) (fun t k => XS.ifNo X0.here hx rfl (Jvm.hb hby at_10) rfl ((if0 _ _).trans (feq ht).1) k) ?_
  refine own_go (B := s₁.setTop (mkF m 14 #[.val (.int p1), .val (.int p2), .val (.int p3), .val (.int p4), .val (.int p5), .val (.int p6), .val (.int vk), .unset, .unset, .unset] [(.int (1 : Int32))])) (fun t k => XS.iconst X0.here hx rfl (Jvm.hb hby at_13) k) ?_
  refine own_go (B := s₁.setTop (mkF m 18 #[.val (.int p1), .val (.int p2), .val (.int p3), .val (.int p4), .val (.int p5), .val (.int p6), .val (.int vk), .unset, .unset, .unset] [(.int (1 : Int32))])) (fun t k => XS.goto X0.here hx rfl (pc0 := 14) (pc' := 18) rfl (Jvm.hb hby at_14) (by decide) (by decide) k) ?_
  refine own_go (B := s₁.setTop (mkF m 20 #[.val (.int p1), .val (.int p2), .val (.int p3), .val (.int p4), .val (.int p5), .val (.int p6), .val (.int vk), .val (.int (1 : Int32)), .unset, .unset] [])) (fun t k => XS.istore X0.here hx rfl (Jvm.hb hby at_18) rfl (l' := #[.val (.int p1), .val (.int p2), .val (.int p3), .val (.int p4), .val (.int p5), .val (.int p6), .val (.int vk), .val (.int (1 : Int32)), .unset, .unset]) rfl k) ?_
  obtain ⟨T106, h106, X106, e106, E106, A106, D106, -, st106⟩ := newO X0 hx hZ hown (own_w hw 0 rfl) (own_w hw 1 rfl) (own_w hw 2 rfl) e0 (g := (mkF m 20 #[.val (.int p1), .val (.int p2), .val (.int p3), .val (.int p4), .val (.int p5), .val (.int p6), .val (.int vk), .val (.int (1 : Int32)), .unset, .unset] [])) rfl (Jvm.hb hby at_20) (by decide) (by decide)
  obtain ⟨b106, g106⟩ : ∃ z, z = h0.size := ⟨_, rfl⟩
  rw [← g106] at A106 D106 st106
  have g_b106 : n0 ≤ b106 := Nat.le_trans Zs (Nat.le_of_eq g106.symm)
  have Zs := Nat.le_trans Zs E106.1
  have E_b106 := A106
  have F_b106_firsts : Fld Z h106 b106 "com/example/term_unifier/termunifier/IntPairStack" "firsts" "[I" .null := D106 (Or.inl (own_w hw 11 rfl)) (ty := (.array .int)) (by decide)
  have F_b106_seconds : Fld Z h106 b106 "com/example/term_unifier/termunifier/IntPairStack" "seconds" "[I" .null := D106 (Or.inl (own_w hw 13 rfl)) (ty := (.array .int)) (by decide)
  have F_b106_below : Fld Z h106 b106 "com/example/term_unifier/termunifier/IntPairStack" "below" "[I" .null := D106 (Or.inl (own_w hw 15 rfl)) (ty := (.array .int)) (by decide)
  have F_b106_top : Fld Z h106 b106 "com/example/term_unifier/termunifier/IntPairStack" "top" "I" (.int (0 : Int32)) := D106 (Or.inl (own_w hw 17 rfl)) (ty := .int) (by decide)
  have F_b106_marks : Fld Z h106 b106 "com/example/term_unifier/termunifier/IntPairStack" "marks" "Lcom/example/term_unifier/termunifier/IntStack;" .null := D106 (Or.inr (own_w hw 28 rfl)) (ty := (.object "com/example/term_unifier/termunifier/IntStack")) (by decide)
  have F_b106_used : Fld Z h106 b106 "com/example/term_unifier/termunifier/IntPairStack" "used" "I" (.int (0 : Int32)) := D106 (Or.inl (own_w hw 35 rfl)) (ty := .int) (by decide)
  have F_b106_kept : Fld Z h106 b106 "com/example/term_unifier/termunifier/IntPairStack" "kept" "I" (.int (0 : Int32)) := D106 (Or.inl (own_w hw 49 rfl)) (ty := .int) (by decide)
  refine own_go (B := T106.setTop (mkF m 23 #[.val (.int p1), .val (.int p2), .val (.int p3), .val (.int p4), .val (.int p5), .val (.int p6), .val (.int vk), .val (.int (1 : Int32)), .unset, .unset] [(.ref b106)])) (fun t k => st106 _ k) ?_
  refine own_go (B := T106.setTop (mkF m 24 #[.val (.int p1), .val (.int p2), .val (.int p3), .val (.int p4), .val (.int p5), .val (.int p6), .val (.int vk), .val (.int (1 : Int32)), .unset, .unset] [(.ref b106), (.ref b106)])) (fun t k => XS.dup X106.here hx rfl (Jvm.hb hby at_23) rfl rfl k) ?_
  obtain ⟨_, _, ⟨T107, La107, ka107, na107⟩, -, X107, ⟨Lc107, hQ107, l107, y107, z107⟩, st107⟩ := X106.specialBack hx (y := (⟨"com/example/term_unifier/termunifier/IntPairStack", "<init>", "()V"⟩ : MethodName)) rfl hown (mvT hZ (own_w hw 3 rfl)) (mvT hZ (own_w hw 4 rfl)) (mvT hZ (own_w hw 5 rfl)) (by decide) (backOf (W := 1) (rm1 l Z a0 hw [] b106 h106 n0 Zs E_b106 F_b106_firsts F_b106_seconds F_b106_below F_b106_top F_b106_used F_b106_kept F_b106_marks g_b106) hZ (own_w hw 5 rfl) (own_w hw 2 rfl) (by decide) (by decide)) (g := (mkF m 24 #[.val (.int p1), .val (.int p2), .val (.int p3), .val (.int p4), .val (.int p5), .val (.int p6), .val (.int vk), .val (.int (1 : Int32)), .unset, .unset] [(.ref b106), (.ref b106)])) rfl (by rw [hml]; rfl) (Steps.refl _) (a := b106) (argsL := []) (rest := [(.ref b106)]) (lenOf pd_0 rfl) rfl (by show 2 * 0 + _ ≤ _; exact Nat.le_of_eq rfl) (Jvm.hb hby at_24) (fun _ _ => ⟨rfl, e106, (by decide : 1 + 5 ≤ _), (by decide : 7 + 66 ≤ _)⟩)
  dsimp only [Pt.U, Pt.locs, Pt.cells, Pt.slots] at X107 l107 y107 z107 st107 hQ107
  have y107 : ka107 = 6 := y107
  have z107 : na107 = 73 := z107
  subst y107 z107
  obtain ⟨rfl, N107q, b108, sq_b108, b109, sq_b109, b110, sq_b110, b111, sq_b111, b112, sq_b112, ne_b108_b109, ne_b108_b110, ne_b108_b111, ne_b108_b112, ne_b109_b110, ne_b109_b111, ne_b109_b112, ne_b110_b111, ne_b110_b112, ne_b111_b112, Kc107, E_b106_q, F_b106_firsts_q, F_b106_seconds_q, F_b106_below_q, F_b106_top_q, F_b106_used_q, F_b106_kept_q, F_b106_marks_q, V_b108_q, V_b109_q, V_b110_q, E_b111_q, F_b111_items_q, F_b111_size_q, V_b112_q⟩ := hQ107
  have g_b108 : n0 ≤ b108 := Nat.le_trans Zs sq_b108
  have ne_b106_b108 : b106 ≠ b108 := Nat.ne_of_lt (Nat.lt_of_lt_of_le E_b106.lt sq_b108)
  have g_b109 : n0 ≤ b109 := Nat.le_trans Zs sq_b109
  have ne_b106_b109 : b106 ≠ b109 := Nat.ne_of_lt (Nat.lt_of_lt_of_le E_b106.lt sq_b109)
  have g_b110 : n0 ≤ b110 := Nat.le_trans Zs sq_b110
  have ne_b106_b110 : b106 ≠ b110 := Nat.ne_of_lt (Nat.lt_of_lt_of_le E_b106.lt sq_b110)
  have g_b111 : n0 ≤ b111 := Nat.le_trans Zs sq_b111
  have ne_b106_b111 : b106 ≠ b111 := Nat.ne_of_lt (Nat.lt_of_lt_of_le E_b106.lt sq_b111)
  have g_b112 : n0 ≤ b112 := Nat.le_trans Zs sq_b112
  have ne_b106_b112 : b106 ≠ b112 := Nat.ne_of_lt (Nat.lt_of_lt_of_le E_b106.lt sq_b112)
  have N107 : Fr n0 La107 := by rw [l107]; exact Fr.app N0 N107q
  have Zs := Nat.le_trans Zs Kc107.1
  have E_b106 := E_b106_q
  have F_b106_firsts := F_b106_firsts_q
  have F_b106_seconds := F_b106_seconds_q
  have F_b106_below := F_b106_below_q
  have F_b106_top := F_b106_top_q
  have F_b106_used := F_b106_used_q
  have F_b106_kept := F_b106_kept_q
  have F_b106_marks := F_b106_marks_q
  have V_b108 := V_b108_q
  have V_b109 := V_b109_q
  have V_b110 := V_b110_q
  have E_b111 := E_b111_q
  have F_b111_items := F_b111_items_q
  have F_b111_size := F_b111_size_q
  have V_b112 := V_b112_q
  refine own_go (B := T107.setTop (mkF m 27 #[.val (.int p1), .val (.int p2), .val (.int p3), .val (.int p4), .val (.int p5), .val (.int p6), .val (.int vk), .val (.int (1 : Int32)), .unset, .unset] [(.ref b106)])) (fun t k => own_st st107 k) ?_
  refine own_go (B := T107.setTop (mkF m 29 #[.val (.int p1), .val (.int p2), .val (.int p3), .val (.int p4), .val (.int p5), .val (.int p6), .val (.int vk), .val (.int (1 : Int32)), .val (.ref b106), .unset] [])) (fun t k => XS.astore X107.here hx rfl (Jvm.hb hby at_27) rfl rfl (l' := #[.val (.int p1), .val (.int p2), .val (.int p3), .val (.int p4), .val (.int p5), .val (.int p6), .val (.int vk), .val (.int (1 : Int32)), .val (.ref b106), .unset]) rfl k) ?_
  refine own_go (B := T107.setTop (mkF m 31 #[.val (.int p1), .val (.int p2), .val (.int p3), .val (.int p4), .val (.int p5), .val (.int p6), .val (.int vk), .val (.int (1 : Int32)), .val (.ref b106), .unset] [(.int vk)])) (fun t k => XS.iload X107.here hx rfl (Jvm.hb hby at_29) rfl k) ?_
  refine own_go (B := T107.setTop (mkF m 32 #[.val (.int p1), .val (.int p2), .val (.int p3), .val (.int p4), .val (.int p5), .val (.int p6), .val (.int vk), .val (.int (1 : Int32)), .val (.ref b106), .unset] [(.int (1 : Int32)), (.int vk)])) (fun t k => XS.iconst X107.here hx rfl (Jvm.hb hby at_31) k) ?_
  refine own_go (B := T107.setTop (mkF m 40 #[.val (.int p1), .val (.int p2), .val (.int p3), .val (.int p4), .val (.int p5), .val (.int p6), .val (.int vk), .val (.int (1 : Int32)), .val (.ref b106), .unset] [])) (fun t k => XS.icmpYes X107.here hx rfl (pc0 := 32) (pc' := 40) rfl (Jvm.hb hby at_32) rfl (feq (by rw [hvk, hk]; decide)).2 (by decide) (by decide) k) ?_
  refine own_go (B := T107.setTop (mkF m 42 #[.val (.int p1), .val (.int p2), .val (.int p3), .val (.int p4), .val (.int p5), .val (.int p6), .val (.int vk), .val (.int (1 : Int32)), .val (.ref b106), .unset] [(.ref b106)])) (fun t k => XS.aload X107.here hx rfl (Jvm.hb hby at_40) rfl rfl k) ?_
  refine own_go (B := T107.setTop (mkF m 43 #[.val (.int p1), .val (.int p2), .val (.int p3), .val (.int p4), .val (.int p5), .val (.int p6), .val (.int vk), .val (.int (1 : Int32)), .val (.ref b106), .unset] [(.int p1), (.ref b106)])) (fun t k => XS.iloadN X107.here hx rfl (Jvm.hb hby at_42) rfl k) ?_
  refine own_go (B := T107.setTop (mkF m 44 #[.val (.int p1), .val (.int p2), .val (.int p3), .val (.int p4), .val (.int p5), .val (.int p6), .val (.int vk), .val (.int (1 : Int32)), .val (.ref b106), .unset] [(.int p2), (.int p1), (.ref b106)])) (fun t k => XS.iloadN X107.here hx rfl (Jvm.hb hby at_43) rfl k) ?_
  obtain ⟨cq113, kq113, q113a, q113b, q113c⟩ := isOf hZ rfl E_b106
  obtain ⟨_, _, ⟨T113, La113, ka113, na113⟩, -, X113, ⟨Lc113, hQ113, l113, y113, z113⟩, st113⟩ := X107.virtualBack hx (y := (⟨"com/example/term_unifier/termunifier/IntPairStack", "push", "(II)V"⟩ : MethodName)) (z := (⟨"com/example/term_unifier/termunifier/IntPairStack", "push", "(II)V"⟩ : MethodName)) hown (mvT hZ (own_w hw 29 rfl)) (mvT hZ (own_w hw 30 rfl)) (notFace_of_selects (args := #[]) (mvT hZ (own_w hw 32 rfl))) (mvT hZ (own_w hw 32 rfl)) (mvT hZ (own_w hw 31 rfl)) (by decide) (backOf (W := 0) (rm4 l Z a0 hw [] b106 p1 p2 b108 b109 b110 b111 (-1 : Int32) (0 : Int32) (0 : Int32) (1 : Int32) 0 (fun _ => 0) (fun _ => 0) (fun _ => 0) T107.heap n0 Zs E_b106 F_b106_firsts F_b106_seconds F_b106_below F_b106_top F_b106_used F_b106_kept F_b106_marks V_b108 V_b109 V_b110 g_b106 g_b108 g_b109 g_b110 ne_b106_b108 ne_b106_b109 ne_b106_b110 ne_b108_b109 ne_b108_b110 ne_b109_b110 (by decide) (by decide) (by decide) (by decide) (by decide)) hZ (own_w hw 33 rfl) (own_w hw 2 rfl) (by decide) (by decide)) q113a q113c (g := (mkF m 44 #[.val (.int p1), .val (.int p2), .val (.int p3), .val (.int p4), .val (.int p5), .val (.int p6), .val (.int vk), .val (.int (1 : Int32)), .val (.ref b106), .unset] [(.int p2), (.int p1), (.ref b106)])) rfl (by rw [hml]; rfl) (Steps.refl _) (argsL := [(.int p1), (.int p2)]) (rest := []) (lenOf pd_3 rfl) rfl (by show 2 * 0 + _ ≤ _; exact Nat.le_of_eq rfl) (Jvm.hb hby at_44) (fun _ _ => ⟨rfl, rfl, (by decide : 6 + 0 ≤ _), (by decide : 73 + 0 ≤ _)⟩)
  dsimp only [Pt.U, Pt.locs, Pt.cells, Pt.slots] at X113 l113 y113 z113 st113 hQ113
  have y113 : ka113 = 6 := y113
  have z113 : na113 = 73 := z113
  subst y113 z113
  obtain ⟨rfl, N113q, Kc113, E_b106_q, F_b106_firsts_q, F_b106_seconds_q, F_b106_below_q, F_b106_top_q, F_b106_used_q, F_b106_kept_q, F_b106_marks_q, V_b108_q, V_b109_q, V_b110_q⟩ := hQ113
  have N113 : Fr n0 La113 := by rw [l113]; exact Fr.app N107 N113q
  have E_b111 := E_b111.keep Kc113
  have F_b111_items := F_b111_items.keep Kc113 (ninS (Ne.symm ne_b106_b111) (ninS (Ne.symm ne_b108_b111) (ninS (Ne.symm ne_b109_b111) (ninS (Ne.symm ne_b110_b111) nin0))))
  have F_b111_size := F_b111_size.keep Kc113 (ninS (Ne.symm ne_b106_b111) (ninS (Ne.symm ne_b108_b111) (ninS (Ne.symm ne_b109_b111) (ninS (Ne.symm ne_b110_b111) nin0))))
  have V_b112 := V_b112.keep Kc113 (ninS (Ne.symm ne_b106_b112) (ninS (Ne.symm ne_b108_b112) (ninS (Ne.symm ne_b109_b112) (ninS (Ne.symm ne_b110_b112) nin0))))
  have Zs := Nat.le_trans Zs Kc113.1
  have E_b106 := E_b106_q
  have F_b106_firsts := F_b106_firsts_q
  have F_b106_seconds := F_b106_seconds_q
  have F_b106_below := F_b106_below_q
  have F_b106_top := F_b106_top_q
  have F_b106_used := F_b106_used_q
  have F_b106_kept := F_b106_kept_q
  have F_b106_marks := F_b106_marks_q
  have V_b108 := V_b108_q
  have V_b109 := V_b109_q
  have V_b110 := V_b110_q
  refine own_go (B := T113.setTop (mkF m 47 #[.val (.int p1), .val (.int p2), .val (.int p3), .val (.int p4), .val (.int p5), .val (.int p6), .val (.int vk), .val (.int (1 : Int32)), .val (.ref b106), .unset] [])) (fun t k => own_st st113 k) ?_
  refine own_go (B := T113.setTop (mkF m 49 #[.val (.int p1), .val (.int p2), .val (.int p3), .val (.int p4), .val (.int p5), .val (.int p6), .val (.int vk), .val (.int (1 : Int32)), .val (.ref b106), .unset] [(.int vk)])) (fun t k => XS.iload X113.here hx rfl (Jvm.hb hby at_47) rfl k) ?_
  refine own_go (B := T113.setTop (mkF m 50 #[.val (.int p1), .val (.int p2), .val (.int p3), .val (.int p4), .val (.int p5), .val (.int p6), .val (.int vk), .val (.int (1 : Int32)), .val (.ref b106), .unset] [(.int (2 : Int32)), (.int vk)])) (fun t k => XS.iconst X113.here hx rfl (Jvm.hb hby at_49) k) ?_
  refine own_go (B := T113.setTop (mkF m 58 #[.val (.int p1), .val (.int p2), .val (.int p3), .val (.int p4), .val (.int p5), .val (.int p6), .val (.int vk), .val (.int (1 : Int32)), .val (.ref b106), .unset] [])) (fun t k => XS.icmpYes X113.here hx rfl (pc0 := 50) (pc' := 58) rfl (Jvm.hb hby at_50) rfl (feq (by rw [hvk, hk]; decide)).2 (by decide) (by decide) k) ?_
  refine own_go (B := T113.setTop (mkF m 60 #[.val (.int p1), .val (.int p2), .val (.int p3), .val (.int p4), .val (.int p5), .val (.int p6), .val (.int vk), .val (.int (1 : Int32)), .val (.ref b106), .unset] [(.ref b106)])) (fun t k => XS.aload X113.here hx rfl (Jvm.hb hby at_58) rfl rfl k) ?_
  refine own_go (B := T113.setTop (mkF m 61 #[.val (.int p1), .val (.int p2), .val (.int p3), .val (.int p4), .val (.int p5), .val (.int p6), .val (.int vk), .val (.int (1 : Int32)), .val (.ref b106), .unset] [(.int p3), (.ref b106)])) (fun t k => XS.iloadN X113.here hx rfl (Jvm.hb hby at_60) rfl k) ?_
  refine own_go (B := T113.setTop (mkF m 62 #[.val (.int p1), .val (.int p2), .val (.int p3), .val (.int p4), .val (.int p5), .val (.int p6), .val (.int vk), .val (.int (1 : Int32)), .val (.ref b106), .unset] [(.int p4), (.int p3), (.ref b106)])) (fun t k => XS.iloadN X113.here hx rfl (Jvm.hb hby at_61) rfl k) ?_
  obtain ⟨cq114, kq114, q114a, q114b, q114c⟩ := isOf hZ rfl E_b106
  obtain ⟨_, _, ⟨T114, La114, ka114, na114⟩, -, X114, ⟨Lc114, hQ114, l114, y114, z114⟩, st114⟩ := X113.virtualBack hx (y := (⟨"com/example/term_unifier/termunifier/IntPairStack", "push", "(II)V"⟩ : MethodName)) (z := (⟨"com/example/term_unifier/termunifier/IntPairStack", "push", "(II)V"⟩ : MethodName)) hown (mvT hZ (own_w hw 29 rfl)) (mvT hZ (own_w hw 30 rfl)) (notFace_of_selects (args := #[]) (mvT hZ (own_w hw 32 rfl))) (mvT hZ (own_w hw 32 rfl)) (mvT hZ (own_w hw 31 rfl)) (by decide) (backOf (W := 0) (rm4 l Z a0 hw [] b106 p3 p4 b108 b109 b110 b111 (0 : Int32) (1 : Int32) (0 : Int32) (2 : Int32) 1 (own_upd (fun _ => 0) 0 p1) (own_upd (fun _ => 0) 0 p2) (own_upd (fun _ => 0) 0 (-1 : Int32)) T113.heap n0 Zs E_b106 F_b106_firsts F_b106_seconds F_b106_below F_b106_top F_b106_used F_b106_kept F_b106_marks V_b108 V_b109 V_b110 g_b106 g_b108 g_b109 g_b110 ne_b106_b108 ne_b106_b109 ne_b106_b110 ne_b108_b109 ne_b108_b110 ne_b109_b110 (by decide) (by decide) (by decide) (by decide) (by decide)) hZ (own_w hw 33 rfl) (own_w hw 2 rfl) (by decide) (by decide)) q114a q114c (g := (mkF m 62 #[.val (.int p1), .val (.int p2), .val (.int p3), .val (.int p4), .val (.int p5), .val (.int p6), .val (.int vk), .val (.int (1 : Int32)), .val (.ref b106), .unset] [(.int p4), (.int p3), (.ref b106)])) rfl (by rw [hml]; rfl) (Steps.refl _) (argsL := [(.int p3), (.int p4)]) (rest := []) (lenOf pd_3 rfl) rfl (by show 2 * 0 + _ ≤ _; exact Nat.le_of_eq rfl) (Jvm.hb hby at_62) (fun _ _ => ⟨rfl, rfl, (by decide : 6 + 0 ≤ _), (by decide : 73 + 0 ≤ _)⟩)
  dsimp only [Pt.U, Pt.locs, Pt.cells, Pt.slots] at X114 l114 y114 z114 st114 hQ114
  have y114 : ka114 = 6 := y114
  have z114 : na114 = 73 := z114
  subst y114 z114
  obtain ⟨rfl, N114q, Kc114, E_b106_q, F_b106_firsts_q, F_b106_seconds_q, F_b106_below_q, F_b106_top_q, F_b106_used_q, F_b106_kept_q, F_b106_marks_q, V_b108_q, V_b109_q, V_b110_q⟩ := hQ114
  have N114 : Fr n0 La114 := by rw [l114]; exact Fr.app N113 N114q
  have E_b111 := E_b111.keep Kc114
  have F_b111_items := F_b111_items.keep Kc114 (ninS (Ne.symm ne_b106_b111) (ninS (Ne.symm ne_b108_b111) (ninS (Ne.symm ne_b109_b111) (ninS (Ne.symm ne_b110_b111) nin0))))
  have F_b111_size := F_b111_size.keep Kc114 (ninS (Ne.symm ne_b106_b111) (ninS (Ne.symm ne_b108_b111) (ninS (Ne.symm ne_b109_b111) (ninS (Ne.symm ne_b110_b111) nin0))))
  have V_b112 := V_b112.keep Kc114 (ninS (Ne.symm ne_b106_b112) (ninS (Ne.symm ne_b108_b112) (ninS (Ne.symm ne_b109_b112) (ninS (Ne.symm ne_b110_b112) nin0))))
  have Zs := Nat.le_trans Zs Kc114.1
  have E_b106 := E_b106_q
  have F_b106_firsts := F_b106_firsts_q
  have F_b106_seconds := F_b106_seconds_q
  have F_b106_below := F_b106_below_q
  have F_b106_top := F_b106_top_q
  have F_b106_used := F_b106_used_q
  have F_b106_kept := F_b106_kept_q
  have F_b106_marks := F_b106_marks_q
  have V_b108 := V_b108_q
  have V_b109 := V_b109_q
  have V_b110 := V_b110_q
  refine own_go (B := T114.setTop (mkF m 65 #[.val (.int p1), .val (.int p2), .val (.int p3), .val (.int p4), .val (.int p5), .val (.int p6), .val (.int vk), .val (.int (1 : Int32)), .val (.ref b106), .unset] [])) (fun t k => own_st st114 k) ?_
  refine own_go (B := T114.setTop (mkF m 67 #[.val (.int p1), .val (.int p2), .val (.int p3), .val (.int p4), .val (.int p5), .val (.int p6), .val (.int vk), .val (.int (1 : Int32)), .val (.ref b106), .unset] [(.int vk)])) (fun t k => XS.iload X114.here hx rfl (Jvm.hb hby at_65) rfl k) ?_
  refine own_go (B := T114.setTop (mkF m 68 #[.val (.int p1), .val (.int p2), .val (.int p3), .val (.int p4), .val (.int p5), .val (.int p6), .val (.int vk), .val (.int (1 : Int32)), .val (.ref b106), .unset] [(.int (3 : Int32)), (.int vk)])) (fun t k => XS.iconst X114.here hx rfl (Jvm.hb hby at_67) k) ?_
  refine own_go (B := T114.setTop (mkF m 76 #[.val (.int p1), .val (.int p2), .val (.int p3), .val (.int p4), .val (.int p5), .val (.int p6), .val (.int vk), .val (.int (1 : Int32)), .val (.ref b106), .unset] [])) (fun t k => XS.icmpYes X114.here hx rfl (pc0 := 68) (pc' := 76) rfl (Jvm.hb hby at_68) rfl (feq (by rw [hvk, hk]; decide)).2 (by decide) (by decide) k) ?_
  refine own_go (B := T114.setTop (mkF m 78 #[.val (.int p1), .val (.int p2), .val (.int p3), .val (.int p4), .val (.int p5), .val (.int p6), .val (.int vk), .val (.int (1 : Int32)), .val (.ref b106), .unset] [(.ref b106)])) (fun t k => XS.aload X114.here hx rfl (Jvm.hb hby at_76) rfl rfl k) ?_
  obtain ⟨cq115, kq115, q115a, q115b, q115c⟩ := isOf hZ rfl E_b106
  obtain ⟨_, _, ⟨T115, La115, ka115, na115⟩, -, X115, ⟨Lc115, hQ115, l115, y115, z115⟩, st115⟩ := X114.virtualBack hx (y := (⟨"com/example/term_unifier/termunifier/IntPairStack", "pop", "()V"⟩ : MethodName)) (z := (⟨"com/example/term_unifier/termunifier/IntPairStack", "pop", "()V"⟩ : MethodName)) hown (mvT hZ (own_w hw 50 rfl)) (mvT hZ (own_w hw 51 rfl)) (notFace_of_selects (args := #[]) (mvT hZ (own_w hw 53 rfl))) (mvT hZ (own_w hw 53 rfl)) (mvT hZ (own_w hw 52 rfl)) (by decide) (backOf (W := 0) (rm_popd l Z a0 hw [] b106 b108 b109 b110 b111 (1 : Int32) (2 : Int32) (0 : Int32) (0 : Int32) (1 : Int32) 1 (own_upd (own_upd (fun _ => 0) 0 (-1 : Int32)) 1 (0 : Int32)) T114.heap n0 Zs E_b106 F_b106_firsts F_b106_seconds F_b106_below F_b106_top F_b106_used F_b106_kept F_b106_marks V_b110 g_b106 ne_b106_b110 (by decide) (by decide) (by decide) rfl (by decide) (by decide) (by decide)) hZ (own_w hw 54 rfl) (own_w hw 2 rfl) (by decide) (by decide)) q115a q115c (g := (mkF m 78 #[.val (.int p1), .val (.int p2), .val (.int p3), .val (.int p4), .val (.int p5), .val (.int p6), .val (.int vk), .val (.int (1 : Int32)), .val (.ref b106), .unset] [(.ref b106)])) rfl (by rw [hml]; rfl) (Steps.refl _) (argsL := []) (rest := []) (lenOf pd_0 rfl) rfl (by show 2 * 0 + _ ≤ _; exact Nat.le_of_eq rfl) (Jvm.hb hby at_78) (fun _ _ => ⟨rfl, rfl, (by decide : 6 + 0 ≤ _), (by decide : 73 + 0 ≤ _)⟩)
  dsimp only [Pt.U, Pt.locs, Pt.cells, Pt.slots] at X115 l115 y115 z115 st115 hQ115
  have y115 : ka115 = 6 := y115
  have z115 : na115 = 73 := z115
  subst y115 z115
  obtain ⟨rfl, N115q, Kc115, E_b106_q, F_b106_firsts_q, F_b106_seconds_q, F_b106_below_q, F_b106_top_q, F_b106_used_q, F_b106_kept_q, F_b106_marks_q⟩ := hQ115
  have N115 : Fr n0 La115 := by rw [l115]; exact Fr.app N114 N115q
  have E_b111 := E_b111.keep Kc115
  have F_b111_items := F_b111_items.keep Kc115 (ninS (Ne.symm ne_b106_b111) nin0)
  have F_b111_size := F_b111_size.keep Kc115 (ninS (Ne.symm ne_b106_b111) nin0)
  have V_b112 := V_b112.keep Kc115 (ninS (Ne.symm ne_b106_b112) nin0)
  have V_b108 := V_b108.keep Kc115 (ninS (Ne.symm ne_b106_b108) nin0)
  have V_b109 := V_b109.keep Kc115 (ninS (Ne.symm ne_b106_b109) nin0)
  have V_b110 := V_b110.keep Kc115 (ninS (Ne.symm ne_b106_b110) nin0)
  have Zs := Nat.le_trans Zs Kc115.1
  have E_b106 := E_b106_q
  have F_b106_firsts := F_b106_firsts_q
  have F_b106_seconds := F_b106_seconds_q
  have F_b106_below := F_b106_below_q
  have F_b106_top := F_b106_top_q
  have F_b106_used := F_b106_used_q
  have F_b106_kept := F_b106_kept_q
  have F_b106_marks := F_b106_marks_q
  refine own_go (B := T115.setTop (mkF m 81 #[.val (.int p1), .val (.int p2), .val (.int p3), .val (.int p4), .val (.int p5), .val (.int p6), .val (.int vk), .val (.int (1 : Int32)), .val (.ref b106), .unset] [])) (fun t k => own_st st115 k) ?_
  refine own_go (B := T115.setTop (mkF m 83 #[.val (.int p1), .val (.int p2), .val (.int p3), .val (.int p4), .val (.int p5), .val (.int p6), .val (.int vk), .val (.int (1 : Int32)), .val (.ref b106), .unset] [(.ref b106)])) (fun t k => XS.aload X115.here hx rfl (Jvm.hb hby at_81) rfl rfl k) ?_
  obtain ⟨cq116, kq116, q116a, q116b, q116c⟩ := isOf hZ rfl E_b106
  obtain ⟨_, _, ⟨T116, La116, ka116, na116⟩, -, X116, ⟨Lc116, hQ116, l116, y116, z116⟩, st116⟩ := X115.virtualBack hx (y := (⟨"com/example/term_unifier/termunifier/IntPairStack", "isEmpty", "()Z"⟩ : MethodName)) (z := (⟨"com/example/term_unifier/termunifier/IntPairStack", "isEmpty", "()Z"⟩ : MethodName)) hown (mvT hZ (own_w hw 55 rfl)) (mvT hZ (own_w hw 56 rfl)) (notFace_of_selects (args := #[]) (mvT hZ (own_w hw 58 rfl))) (mvT hZ (own_w hw 58 rfl)) (mvT hZ (own_w hw 57 rfl)) (by decide) (backOf (W := 0) (rm8 l Z a0 hw [] b106 (0 : Int32) (0 : Int32) T115.heap n0 Zs F_b106_top (by decide)) hZ (own_w hw 59 rfl) (own_w hw 2 rfl) (by decide) (by decide)) q116a q116c (g := (mkF m 83 #[.val (.int p1), .val (.int p2), .val (.int p3), .val (.int p4), .val (.int p5), .val (.int p6), .val (.int vk), .val (.int (1 : Int32)), .val (.ref b106), .unset] [(.ref b106)])) rfl (by rw [hml]; rfl) (Steps.refl _) (argsL := []) (rest := []) (lenOf pd_4 rfl) rfl (by show 2 * 0 + _ ≤ _; exact Nat.le_of_eq rfl) (Jvm.hb hby at_83) (fun _ _ => ⟨rfl, rfl, (by decide : 6 + 0 ≤ _), (by decide : 73 + 0 ≤ _)⟩)
  dsimp only [Pt.U, Pt.locs, Pt.cells, Pt.slots] at X116 l116 y116 z116 st116 hQ116
  have y116 : ka116 = 6 := y116
  have z116 : na116 = 73 := z116
  subst y116 z116
  obtain ⟨rfl, N116q, e116⟩ := hQ116
  have N116 : Fr n0 La116 := by rw [l116]; exact Fr.app N115 N116q
  refine own_go (B := T116.setTop (mkF m 86 #[.val (.int p1), .val (.int p2), .val (.int p3), .val (.int p4), .val (.int p5), .val (.int p6), .val (.int vk), .val (.int (1 : Int32)), .val (.ref b106), .unset] [(.int (0 : Int32))])) (fun t k => own_st st116 k) ?_
  refine own_go (B := T116.setTop (mkF m 89 #[.val (.int p1), .val (.int p2), .val (.int p3), .val (.int p4), .val (.int p5), .val (.int p6), .val (.int vk), .val (.int (1 : Int32)), .val (.ref b106), .unset] [])) (fun t k => XS.ifNo X116.here hx rfl (Jvm.hb hby at_86) rfl ((if0 _ _).trans (teq (by decide : (0 : Int32) = (0 : Int32))).2) k) ?_
  refine own_go (B := T116.setTop (mkF m 91 #[.val (.int p1), .val (.int p2), .val (.int p3), .val (.int p4), .val (.int p5), .val (.int p6), .val (.int vk), .val (.int (1 : Int32)), .val (.ref b106), .unset] [(.ref b106)])) (fun t k => XS.aload X116.here hx rfl (Jvm.hb hby at_89) rfl rfl k) ?_
  obtain ⟨cq117, kq117, q117a, q117b, q117c⟩ := isOf hZ e116 E_b106
  obtain ⟨_, _, ⟨T117, La117, ka117, na117⟩, -, X117, ⟨Lc117, hQ117, l117, y117, z117⟩, st117⟩ := X116.virtualBack hx (y := (⟨"com/example/term_unifier/termunifier/IntPairStack", "first", "()I"⟩ : MethodName)) (z := (⟨"com/example/term_unifier/termunifier/IntPairStack", "first", "()I"⟩ : MethodName)) hown (mvT hZ (own_w hw 60 rfl)) (mvT hZ (own_w hw 61 rfl)) (notFace_of_selects (args := #[]) (mvT hZ (own_w hw 63 rfl))) (mvT hZ (own_w hw 63 rfl)) (mvT hZ (own_w hw 62 rfl)) (by decide) (backOf (W := 0) (rm9 l Z a0 hw [] b106 b108 (0 : Int32) 0 (own_upd (own_upd (fun _ => 0) 0 p1) 1 p3) p1 T115.heap n0 Zs F_b106_firsts F_b106_top V_b108 (by decide) (by decide) (by decide) rfl) hZ (own_w hw 64 rfl) (own_w hw 2 rfl) (by decide) (by decide)) q117a q117c (g := (mkF m 91 #[.val (.int p1), .val (.int p2), .val (.int p3), .val (.int p4), .val (.int p5), .val (.int p6), .val (.int vk), .val (.int (1 : Int32)), .val (.ref b106), .unset] [(.ref b106)])) rfl (by rw [hml]; rfl) (Steps.refl _) (argsL := []) (rest := []) (lenOf pd_2 rfl) rfl (by show 2 * 0 + _ ≤ _; exact Nat.le_of_eq rfl) (Jvm.hb hby at_91) (fun _ _ => ⟨rfl, e116, (by decide : 6 + 0 ≤ _), (by decide : 73 + 0 ≤ _)⟩)
  dsimp only [Pt.U, Pt.locs, Pt.cells, Pt.slots] at X117 l117 y117 z117 st117 hQ117
  have y117 : ka117 = 6 := y117
  have z117 : na117 = 73 := z117
  subst y117 z117
  obtain ⟨rfl, N117q, e117⟩ := hQ117
  have N117 : Fr n0 La117 := by rw [l117]; exact Fr.app N116 N117q
  refine own_go (B := T117.setTop (mkF m 94 #[.val (.int p1), .val (.int p2), .val (.int p3), .val (.int p4), .val (.int p5), .val (.int p6), .val (.int vk), .val (.int (1 : Int32)), .val (.ref b106), .unset] [(.int p1)])) (fun t k => own_st st117 k) ?_
  refine own_go (B := T117.setTop (mkF m 95 #[.val (.int p1), .val (.int p2), .val (.int p3), .val (.int p4), .val (.int p5), .val (.int p6), .val (.int vk), .val (.int (1 : Int32)), .val (.ref b106), .unset] [(.int p1), (.int p1)])) (fun t k => XS.iloadN X117.here hx rfl (Jvm.hb hby at_94) rfl k) ?_
  refine own_go (B := T117.setTop (mkF m 98 #[.val (.int p1), .val (.int p2), .val (.int p3), .val (.int p4), .val (.int p5), .val (.int p6), .val (.int vk), .val (.int (1 : Int32)), .val (.ref b106), .unset] [])) (fun t k => XS.icmpNo X117.here hx rfl (Jvm.hb hby at_95) rfl (teq (rfl : p1 = p1)).2 k) ?_
  refine own_go (B := T117.setTop (mkF m 100 #[.val (.int p1), .val (.int p2), .val (.int p3), .val (.int p4), .val (.int p5), .val (.int p6), .val (.int vk), .val (.int (1 : Int32)), .val (.ref b106), .unset] [(.ref b106)])) (fun t k => XS.aload X117.here hx rfl (Jvm.hb hby at_98) rfl rfl k) ?_
  obtain ⟨cq118, kq118, q118a, q118b, q118c⟩ := isOf hZ e117 E_b106
  obtain ⟨_, _, ⟨T118, La118, ka118, na118⟩, -, X118, ⟨Lc118, hQ118, l118, y118, z118⟩, st118⟩ := X117.virtualBack hx (y := (⟨"com/example/term_unifier/termunifier/IntPairStack", "second", "()I"⟩ : MethodName)) (z := (⟨"com/example/term_unifier/termunifier/IntPairStack", "second", "()I"⟩ : MethodName)) hown (mvT hZ (own_w hw 65 rfl)) (mvT hZ (own_w hw 66 rfl)) (notFace_of_selects (args := #[]) (mvT hZ (own_w hw 68 rfl))) (mvT hZ (own_w hw 68 rfl)) (mvT hZ (own_w hw 67 rfl)) (by decide) (backOf (W := 0) (rm10 l Z a0 hw [] b106 b109 (0 : Int32) 0 (own_upd (own_upd (fun _ => 0) 0 p2) 1 p4) p2 T115.heap n0 Zs F_b106_seconds F_b106_top V_b109 (by decide) (by decide) (by decide) rfl) hZ (own_w hw 69 rfl) (own_w hw 2 rfl) (by decide) (by decide)) q118a q118c (g := (mkF m 100 #[.val (.int p1), .val (.int p2), .val (.int p3), .val (.int p4), .val (.int p5), .val (.int p6), .val (.int vk), .val (.int (1 : Int32)), .val (.ref b106), .unset] [(.ref b106)])) rfl (by rw [hml]; rfl) (Steps.refl _) (argsL := []) (rest := []) (lenOf pd_2 rfl) rfl (by show 2 * 0 + _ ≤ _; exact Nat.le_of_eq rfl) (Jvm.hb hby at_100) (fun _ _ => ⟨rfl, e117, (by decide : 6 + 0 ≤ _), (by decide : 73 + 0 ≤ _)⟩)
  dsimp only [Pt.U, Pt.locs, Pt.cells, Pt.slots] at X118 l118 y118 z118 st118 hQ118
  have y118 : ka118 = 6 := y118
  have z118 : na118 = 73 := z118
  subst y118 z118
  obtain ⟨rfl, N118q, e118⟩ := hQ118
  have N118 : Fr n0 La118 := by rw [l118]; exact Fr.app N117 N118q
  refine own_go (B := T118.setTop (mkF m 103 #[.val (.int p1), .val (.int p2), .val (.int p3), .val (.int p4), .val (.int p5), .val (.int p6), .val (.int vk), .val (.int (1 : Int32)), .val (.ref b106), .unset] [(.int p2)])) (fun t k => own_st st118 k) ?_
  refine own_go (B := T118.setTop (mkF m 104 #[.val (.int p1), .val (.int p2), .val (.int p3), .val (.int p4), .val (.int p5), .val (.int p6), .val (.int vk), .val (.int (1 : Int32)), .val (.ref b106), .unset] [(.int p2), (.int p2)])) (fun t k => XS.iloadN X118.here hx rfl (Jvm.hb hby at_103) rfl k) ?_
  refine own_go (B := T118.setTop (mkF m 107 #[.val (.int p1), .val (.int p2), .val (.int p3), .val (.int p4), .val (.int p5), .val (.int p6), .val (.int vk), .val (.int (1 : Int32)), .val (.ref b106), .unset] [])) (fun t k => XS.icmpNo X118.here hx rfl (Jvm.hb hby at_104) rfl (teq (rfl : p2 = p2)).2 k) ?_
  refine own_go (B := T118.setTop (mkF m 108 #[.val (.int p1), .val (.int p2), .val (.int p3), .val (.int p4), .val (.int p5), .val (.int p6), .val (.int vk), .val (.int (1 : Int32)), .val (.ref b106), .unset] [(.int (1 : Int32))])) (fun t k => XS.iconst X118.here hx rfl (Jvm.hb hby at_107) k) ?_
  refine own_go (B := T118.setTop (mkF m 112 #[.val (.int p1), .val (.int p2), .val (.int p3), .val (.int p4), .val (.int p5), .val (.int p6), .val (.int vk), .val (.int (1 : Int32)), .val (.ref b106), .unset] [(.int (1 : Int32))])) (fun t k => XS.goto X118.here hx rfl (pc0 := 108) (pc' := 112) rfl (Jvm.hb hby at_108) (by decide) (by decide) k) ?_
  refine own_go (B := T118.setTop (mkF m 114 #[.val (.int p1), .val (.int p2), .val (.int p3), .val (.int p4), .val (.int p5), .val (.int p6), .val (.int vk), .val (.int (1 : Int32)), .val (.ref b106), .val (.int (1 : Int32))] [])) (fun t k => XS.istore X118.here hx rfl (Jvm.hb hby at_112) rfl (l' := #[.val (.int p1), .val (.int p2), .val (.int p3), .val (.int p4), .val (.int p5), .val (.int p6), .val (.int vk), .val (.int (1 : Int32)), .val (.ref b106), .val (.int (1 : Int32))]) rfl k) ?_
  refine own_go (B := T118.setTop (mkF m 116 #[.val (.int p1), .val (.int p2), .val (.int p3), .val (.int p4), .val (.int p5), .val (.int p6), .val (.int vk), .val (.int (1 : Int32)), .val (.ref b106), .val (.int (1 : Int32))] [(.int (1 : Int32))])) (fun t k => XS.iload X118.here hx rfl (Jvm.hb hby at_114) rfl k) ?_
  refine own_go (B := T118.setTop (mkF m 119 #[.val (.int p1), .val (.int p2), .val (.int p3), .val (.int p4), .val (.int p5), .val (.int p6), .val (.int vk), .val (.int (1 : Int32)), .val (.ref b106), .val (.int (1 : Int32))] [])) (fun t k => XS.ifNo X118.here hx rfl (Jvm.hb hby at_116) rfl ((if0 _ _).trans (feq (by decide : ¬ ((1 : Int32) = (0 : Int32)))).1) k) ?_
  refine own_go (B := T118.setTop (mkF m 121 #[.val (.int p1), .val (.int p2), .val (.int p3), .val (.int p4), .val (.int p5), .val (.int p6), .val (.int vk), .val (.int (1 : Int32)), .val (.ref b106), .val (.int (1 : Int32))] [(.ref b106)])) (fun t k => XS.aload X118.here hx rfl (Jvm.hb hby at_119) rfl rfl k) ?_
  obtain ⟨cq119, kq119, q119a, q119b, q119c⟩ := isOf hZ e118 E_b106
  obtain ⟨_, _, ⟨T119, La119, ka119, na119⟩, -, X119, ⟨Lc119, hQ119, l119, y119, z119⟩, st119⟩ := X118.virtualBack hx (y := (⟨"com/example/term_unifier/termunifier/IntPairStack", "pop", "()V"⟩ : MethodName)) (z := (⟨"com/example/term_unifier/termunifier/IntPairStack", "pop", "()V"⟩ : MethodName)) hown (mvT hZ (own_w hw 50 rfl)) (mvT hZ (own_w hw 51 rfl)) (notFace_of_selects (args := #[]) (mvT hZ (own_w hw 53 rfl))) (mvT hZ (own_w hw 53 rfl)) (mvT hZ (own_w hw 52 rfl)) (by decide) (backOf (W := 0) (rm_popd l Z a0 hw [] b106 b108 b109 b110 b111 (0 : Int32) (1 : Int32) (0 : Int32) (-1 : Int32) (0 : Int32) 0 (own_upd (own_upd (fun _ => 0) 0 (-1 : Int32)) 1 (0 : Int32)) T115.heap n0 Zs E_b106 F_b106_firsts F_b106_seconds F_b106_below F_b106_top F_b106_used F_b106_kept F_b106_marks V_b110 g_b106 ne_b106_b110 (by decide) (by decide) (by decide) rfl (by decide) (by decide) (by decide)) hZ (own_w hw 54 rfl) (own_w hw 2 rfl) (by decide) (by decide)) q119a q119c (g := (mkF m 121 #[.val (.int p1), .val (.int p2), .val (.int p3), .val (.int p4), .val (.int p5), .val (.int p6), .val (.int vk), .val (.int (1 : Int32)), .val (.ref b106), .val (.int (1 : Int32))] [(.ref b106)])) rfl (by rw [hml]; rfl) (Steps.refl _) (argsL := []) (rest := []) (lenOf pd_0 rfl) rfl (by show 2 * 0 + _ ≤ _; exact Nat.le_of_eq rfl) (Jvm.hb hby at_121) (fun _ _ => ⟨rfl, e118, (by decide : 6 + 0 ≤ _), (by decide : 73 + 0 ≤ _)⟩)
  dsimp only [Pt.U, Pt.locs, Pt.cells, Pt.slots] at X119 l119 y119 z119 st119 hQ119
  have y119 : ka119 = 6 := y119
  have z119 : na119 = 73 := z119
  subst y119 z119
  obtain ⟨rfl, N119q, Kc119, E_b106_q, F_b106_firsts_q, F_b106_seconds_q, F_b106_below_q, F_b106_top_q, F_b106_used_q, F_b106_kept_q, F_b106_marks_q⟩ := hQ119
  have N119 : Fr n0 La119 := by rw [l119]; exact Fr.app N118 N119q
  have E_b111 := E_b111.keep Kc119
  have F_b111_items := F_b111_items.keep Kc119 (ninS (Ne.symm ne_b106_b111) nin0)
  have F_b111_size := F_b111_size.keep Kc119 (ninS (Ne.symm ne_b106_b111) nin0)
  have V_b112 := V_b112.keep Kc119 (ninS (Ne.symm ne_b106_b112) nin0)
  have V_b108 := V_b108.keep Kc119 (ninS (Ne.symm ne_b106_b108) nin0)
  have V_b109 := V_b109.keep Kc119 (ninS (Ne.symm ne_b106_b109) nin0)
  have V_b110 := V_b110.keep Kc119 (ninS (Ne.symm ne_b106_b110) nin0)
  have Zs := Nat.le_trans Zs Kc119.1
  have E_b106 := E_b106_q
  have F_b106_firsts := F_b106_firsts_q
  have F_b106_seconds := F_b106_seconds_q
  have F_b106_below := F_b106_below_q
  have F_b106_top := F_b106_top_q
  have F_b106_used := F_b106_used_q
  have F_b106_kept := F_b106_kept_q
  have F_b106_marks := F_b106_marks_q
  refine own_go (B := T119.setTop (mkF m 124 #[.val (.int p1), .val (.int p2), .val (.int p3), .val (.int p4), .val (.int p5), .val (.int p6), .val (.int vk), .val (.int (1 : Int32)), .val (.ref b106), .val (.int (1 : Int32))] [])) (fun t k => own_st st119 k) ?_
  refine own_go (B := T119.setTop (mkF m 126 #[.val (.int p1), .val (.int p2), .val (.int p3), .val (.int p4), .val (.int p5), .val (.int p6), .val (.int vk), .val (.int (1 : Int32)), .val (.ref b106), .val (.int (1 : Int32))] [(.int (1 : Int32))])) (fun t k => XS.iload X119.here hx rfl (Jvm.hb hby at_124) rfl k) ?_
  refine own_go (B := T119.setTop (mkF m 129 #[.val (.int p1), .val (.int p2), .val (.int p3), .val (.int p4), .val (.int p5), .val (.int p6), .val (.int vk), .val (.int (1 : Int32)), .val (.ref b106), .val (.int (1 : Int32))] [])) (fun t k => XS.ifNo X119.here hx rfl (Jvm.hb hby at_126) rfl ((if0 _ _).trans (feq (by decide : ¬ ((1 : Int32) = (0 : Int32)))).1) k) ?_
  refine own_go (B := T119.setTop (mkF m 131 #[.val (.int p1), .val (.int p2), .val (.int p3), .val (.int p4), .val (.int p5), .val (.int p6), .val (.int vk), .val (.int (1 : Int32)), .val (.ref b106), .val (.int (1 : Int32))] [(.ref b106)])) (fun t k => XS.aload X119.here hx rfl (Jvm.hb hby at_129) rfl rfl k) ?_
  obtain ⟨cq120, kq120, q120a, q120b, q120c⟩ := isOf hZ rfl E_b106
  obtain ⟨_, _, ⟨T120, La120, ka120, na120⟩, -, X120, ⟨Lc120, hQ120, l120, y120, z120⟩, st120⟩ := X119.virtualBack hx (y := (⟨"com/example/term_unifier/termunifier/IntPairStack", "isEmpty", "()Z"⟩ : MethodName)) (z := (⟨"com/example/term_unifier/termunifier/IntPairStack", "isEmpty", "()Z"⟩ : MethodName)) hown (mvT hZ (own_w hw 55 rfl)) (mvT hZ (own_w hw 56 rfl)) (notFace_of_selects (args := #[]) (mvT hZ (own_w hw 58 rfl))) (mvT hZ (own_w hw 58 rfl)) (mvT hZ (own_w hw 57 rfl)) (by decide) (backOf (W := 0) (rm8 l Z a0 hw [] b106 (-1 : Int32) (1 : Int32) T119.heap n0 Zs F_b106_top (by decide)) hZ (own_w hw 59 rfl) (own_w hw 2 rfl) (by decide) (by decide)) q120a q120c (g := (mkF m 131 #[.val (.int p1), .val (.int p2), .val (.int p3), .val (.int p4), .val (.int p5), .val (.int p6), .val (.int vk), .val (.int (1 : Int32)), .val (.ref b106), .val (.int (1 : Int32))] [(.ref b106)])) rfl (by rw [hml]; rfl) (Steps.refl _) (argsL := []) (rest := []) (lenOf pd_4 rfl) rfl (by show 2 * 0 + _ ≤ _; exact Nat.le_of_eq rfl) (Jvm.hb hby at_131) (fun _ _ => ⟨rfl, rfl, (by decide : 6 + 0 ≤ _), (by decide : 73 + 0 ≤ _)⟩)
  dsimp only [Pt.U, Pt.locs, Pt.cells, Pt.slots] at X120 l120 y120 z120 st120 hQ120
  have y120 : ka120 = 6 := y120
  have z120 : na120 = 73 := z120
  subst y120 z120
  obtain ⟨rfl, N120q, e120⟩ := hQ120
  have N120 : Fr n0 La120 := by rw [l120]; exact Fr.app N119 N120q
  refine own_go (B := T120.setTop (mkF m 134 #[.val (.int p1), .val (.int p2), .val (.int p3), .val (.int p4), .val (.int p5), .val (.int p6), .val (.int vk), .val (.int (1 : Int32)), .val (.ref b106), .val (.int (1 : Int32))] [(.int (1 : Int32))])) (fun t k => own_st st120 k) ?_
  refine own_go (B := T120.setTop (mkF m 137 #[.val (.int p1), .val (.int p2), .val (.int p3), .val (.int p4), .val (.int p5), .val (.int p6), .val (.int vk), .val (.int (1 : Int32)), .val (.ref b106), .val (.int (1 : Int32))] [])) (fun t k => XS.ifNo X120.here hx rfl (Jvm.hb hby at_134) rfl ((if0 _ _).trans (feq (by decide : ¬ ((1 : Int32) = (0 : Int32)))).1) k) ?_
  refine own_go (B := T120.setTop (mkF m 138 #[.val (.int p1), .val (.int p2), .val (.int p3), .val (.int p4), .val (.int p5), .val (.int p6), .val (.int vk), .val (.int (1 : Int32)), .val (.ref b106), .val (.int (1 : Int32))] [(.int (1 : Int32))])) (fun t k => XS.iconst X120.here hx rfl (Jvm.hb hby at_137) k) ?_
  refine own_go (B := T120.setTop (mkF m 142 #[.val (.int p1), .val (.int p2), .val (.int p3), .val (.int p4), .val (.int p5), .val (.int p6), .val (.int vk), .val (.int (1 : Int32)), .val (.ref b106), .val (.int (1 : Int32))] [(.int (1 : Int32))])) (fun t k => XS.goto X120.here hx rfl (pc0 := 138) (pc' := 142) rfl (Jvm.hb hby at_138) (by decide) (by decide) k) ?_
  refine own_go (B := T120.setTop (mkF m 144 #[.val (.int p1), .val (.int p2), .val (.int p3), .val (.int p4), .val (.int p5), .val (.int p6), .val (.int vk), .val (.int (1 : Int32)), .val (.ref b106), .val (.int (1 : Int32))] [])) (fun t k => XS.istore X120.here hx rfl (Jvm.hb hby at_142) rfl (l' := #[.val (.int p1), .val (.int p2), .val (.int p3), .val (.int p4), .val (.int p5), .val (.int p6), .val (.int vk), .val (.int (1 : Int32)), .val (.ref b106), .val (.int (1 : Int32))]) rfl k) ?_
  refine own_go (B := T120.setTop (mkF m 146 #[.val (.int p1), .val (.int p2), .val (.int p3), .val (.int p4), .val (.int p5), .val (.int p6), .val (.int vk), .val (.int (1 : Int32)), .val (.ref b106), .val (.int (1 : Int32))] [(.ref b106)])) (fun t k => XS.aload X120.here hx rfl (Jvm.hb hby at_144) rfl rfl k) ?_
  refine own_go (B := T120.setTop (mkF m 148 #[.val (.int p1), .val (.int p2), .val (.int p3), .val (.int p4), .val (.int p5), .val (.int p6), .val (.int vk), .val (.int (1 : Int32)), .val (.ref b106), .val (.int (1 : Int32))] [(.int p5), (.ref b106)])) (fun t k => XS.iload X120.here hx rfl (Jvm.hb hby at_146) rfl k) ?_
  refine own_go (B := T120.setTop (mkF m 150 #[.val (.int p1), .val (.int p2), .val (.int p3), .val (.int p4), .val (.int p5), .val (.int p6), .val (.int vk), .val (.int (1 : Int32)), .val (.ref b106), .val (.int (1 : Int32))] [(.int p5), (.int p5), (.ref b106)])) (fun t k => XS.iload X120.here hx rfl (Jvm.hb hby at_148) rfl k) ?_
  refine own_go (B := T120.setTop (mkF m 151 #[.val (.int p1), .val (.int p2), .val (.int p3), .val (.int p4), .val (.int p5), .val (.int p6), .val (.int vk), .val (.int (1 : Int32)), .val (.ref b106), .val (.int (1 : Int32))] [(.int (-1 : Int32)), (.int p5), (.int p5), (.ref b106)])) (fun t k => XS.iconst X120.here hx rfl (Jvm.hb hby at_150) k) ?_
  refine own_go (B := T120.setTop (mkF m 152 #[.val (.int p1), .val (.int p2), .val (.int p3), .val (.int p4), .val (.int p5), .val (.int p6), .val (.int vk), .val (.int (1 : Int32)), .val (.ref b106), .val (.int (1 : Int32))] [(.int (p5 ^^^ (-1 : Int32))), (.int p5), (.ref b106)])) (fun t k => XS.ixor X120.here hx rfl (Jvm.hb hby at_151) rfl k) ?_
  obtain ⟨cq121, kq121, q121a, q121b, q121c⟩ := isOf hZ e120 E_b106
  obtain ⟨_, _, ⟨T121, La121, ka121, na121⟩, -, X121, ⟨Lc121, hQ121, l121, y121, z121⟩, st121⟩ := X120.virtualBack hx (y := (⟨"com/example/term_unifier/termunifier/IntPairStack", "push", "(II)V"⟩ : MethodName)) (z := (⟨"com/example/term_unifier/termunifier/IntPairStack", "push", "(II)V"⟩ : MethodName)) hown (mvT hZ (own_w hw 29 rfl)) (mvT hZ (own_w hw 30 rfl)) (notFace_of_selects (args := #[]) (mvT hZ (own_w hw 32 rfl))) (mvT hZ (own_w hw 32 rfl)) (mvT hZ (own_w hw 31 rfl)) (by decide) (backOf (W := 0) (rm4 l Z a0 hw [] b106 p5 (p5 ^^^ (-1 : Int32)) b108 b109 b110 b111 (-1 : Int32) (0 : Int32) (0 : Int32) (1 : Int32) 0 (own_upd (own_upd (fun _ => 0) 0 p1) 1 p3) (own_upd (own_upd (fun _ => 0) 0 p2) 1 p4) (own_upd (own_upd (fun _ => 0) 0 (-1 : Int32)) 1 (0 : Int32)) T119.heap n0 Zs E_b106 F_b106_firsts F_b106_seconds F_b106_below F_b106_top F_b106_used F_b106_kept F_b106_marks V_b108 V_b109 V_b110 g_b106 g_b108 g_b109 g_b110 ne_b106_b108 ne_b106_b109 ne_b106_b110 ne_b108_b109 ne_b108_b110 ne_b109_b110 (by decide) (by decide) (by decide) (by decide) (by decide)) hZ (own_w hw 33 rfl) (own_w hw 2 rfl) (by decide) (by decide)) q121a q121c (g := (mkF m 152 #[.val (.int p1), .val (.int p2), .val (.int p3), .val (.int p4), .val (.int p5), .val (.int p6), .val (.int vk), .val (.int (1 : Int32)), .val (.ref b106), .val (.int (1 : Int32))] [(.int (p5 ^^^ (-1 : Int32))), (.int p5), (.ref b106)])) rfl (by rw [hml]; rfl) (Steps.refl _) (argsL := [(.int p5), (.int (p5 ^^^ (-1 : Int32)))]) (rest := []) (lenOf pd_3 rfl) rfl (by show 2 * 0 + _ ≤ _; exact Nat.le_of_eq rfl) (Jvm.hb hby at_152) (fun _ _ => ⟨rfl, e120, (by decide : 6 + 0 ≤ _), (by decide : 73 + 0 ≤ _)⟩)
  dsimp only [Pt.U, Pt.locs, Pt.cells, Pt.slots] at X121 l121 y121 z121 st121 hQ121
  have y121 : ka121 = 6 := y121
  have z121 : na121 = 73 := z121
  subst y121 z121
  obtain ⟨rfl, N121q, Kc121, E_b106_q, F_b106_firsts_q, F_b106_seconds_q, F_b106_below_q, F_b106_top_q, F_b106_used_q, F_b106_kept_q, F_b106_marks_q, V_b108_q, V_b109_q, V_b110_q⟩ := hQ121
  have N121 : Fr n0 La121 := by rw [l121]; exact Fr.app N120 N121q
  have E_b111 := E_b111.keep Kc121
  have F_b111_items := F_b111_items.keep Kc121 (ninS (Ne.symm ne_b106_b111) (ninS (Ne.symm ne_b108_b111) (ninS (Ne.symm ne_b109_b111) (ninS (Ne.symm ne_b110_b111) nin0))))
  have F_b111_size := F_b111_size.keep Kc121 (ninS (Ne.symm ne_b106_b111) (ninS (Ne.symm ne_b108_b111) (ninS (Ne.symm ne_b109_b111) (ninS (Ne.symm ne_b110_b111) nin0))))
  have V_b112 := V_b112.keep Kc121 (ninS (Ne.symm ne_b106_b112) (ninS (Ne.symm ne_b108_b112) (ninS (Ne.symm ne_b109_b112) (ninS (Ne.symm ne_b110_b112) nin0))))
  have Zs := Nat.le_trans Zs Kc121.1
  have E_b106 := E_b106_q
  have F_b106_firsts := F_b106_firsts_q
  have F_b106_seconds := F_b106_seconds_q
  have F_b106_below := F_b106_below_q
  have F_b106_top := F_b106_top_q
  have F_b106_used := F_b106_used_q
  have F_b106_kept := F_b106_kept_q
  have F_b106_marks := F_b106_marks_q
  have V_b108 := V_b108_q
  have V_b109 := V_b109_q
  have V_b110 := V_b110_q
  refine own_go (B := T121.setTop (mkF m 155 #[.val (.int p1), .val (.int p2), .val (.int p3), .val (.int p4), .val (.int p5), .val (.int p6), .val (.int vk), .val (.int (1 : Int32)), .val (.ref b106), .val (.int (1 : Int32))] [])) (fun t k => own_st st121 k) ?_
  refine own_go (B := T121.setTop (mkF m 157 #[.val (.int p1), .val (.int p2), .val (.int p3), .val (.int p4), .val (.int p5), .val (.int p6), .val (.int vk), .val (.int (1 : Int32)), .val (.ref b106), .val (.int (1 : Int32))] [(.int (1 : Int32))])) (fun t k => XS.iload X121.here hx rfl (Jvm.hb hby at_155) rfl k) ?_
  refine own_go (B := T121.setTop (mkF m 160 #[.val (.int p1), .val (.int p2), .val (.int p3), .val (.int p4), .val (.int p5), .val (.int p6), .val (.int vk), .val (.int (1 : Int32)), .val (.ref b106), .val (.int (1 : Int32))] [])) (fun t k => XS.ifNo X121.here hx rfl (Jvm.hb hby at_157) rfl ((if0 _ _).trans (feq (by decide : ¬ ((1 : Int32) = (0 : Int32)))).1) k) ?_
  refine own_go (B := T121.setTop (mkF m 162 #[.val (.int p1), .val (.int p2), .val (.int p3), .val (.int p4), .val (.int p5), .val (.int p6), .val (.int vk), .val (.int (1 : Int32)), .val (.ref b106), .val (.int (1 : Int32))] [(.ref b106)])) (fun t k => XS.aload X121.here hx rfl (Jvm.hb hby at_160) rfl rfl k) ?_
  obtain ⟨cq122, kq122, q122a, q122b, q122c⟩ := isOf hZ rfl E_b106
  obtain ⟨_, _, ⟨T122, La122, ka122, na122⟩, -, X122, ⟨Lc122, hQ122, l122, y122, z122⟩, st122⟩ := X121.virtualBack hx (y := (⟨"com/example/term_unifier/termunifier/IntPairStack", "isEmpty", "()Z"⟩ : MethodName)) (z := (⟨"com/example/term_unifier/termunifier/IntPairStack", "isEmpty", "()Z"⟩ : MethodName)) hown (mvT hZ (own_w hw 55 rfl)) (mvT hZ (own_w hw 56 rfl)) (notFace_of_selects (args := #[]) (mvT hZ (own_w hw 58 rfl))) (mvT hZ (own_w hw 58 rfl)) (mvT hZ (own_w hw 57 rfl)) (by decide) (backOf (W := 0) (rm8 l Z a0 hw [] b106 (0 : Int32) (0 : Int32) T121.heap n0 Zs F_b106_top (by decide)) hZ (own_w hw 59 rfl) (own_w hw 2 rfl) (by decide) (by decide)) q122a q122c (g := (mkF m 162 #[.val (.int p1), .val (.int p2), .val (.int p3), .val (.int p4), .val (.int p5), .val (.int p6), .val (.int vk), .val (.int (1 : Int32)), .val (.ref b106), .val (.int (1 : Int32))] [(.ref b106)])) rfl (by rw [hml]; rfl) (Steps.refl _) (argsL := []) (rest := []) (lenOf pd_4 rfl) rfl (by show 2 * 0 + _ ≤ _; exact Nat.le_of_eq rfl) (Jvm.hb hby at_162) (fun _ _ => ⟨rfl, rfl, (by decide : 6 + 0 ≤ _), (by decide : 73 + 0 ≤ _)⟩)
  dsimp only [Pt.U, Pt.locs, Pt.cells, Pt.slots] at X122 l122 y122 z122 st122 hQ122
  have y122 : ka122 = 6 := y122
  have z122 : na122 = 73 := z122
  subst y122 z122
  obtain ⟨rfl, N122q, e122⟩ := hQ122
  have N122 : Fr n0 La122 := by rw [l122]; exact Fr.app N121 N122q
  refine own_go (B := T122.setTop (mkF m 165 #[.val (.int p1), .val (.int p2), .val (.int p3), .val (.int p4), .val (.int p5), .val (.int p6), .val (.int vk), .val (.int (1 : Int32)), .val (.ref b106), .val (.int (1 : Int32))] [(.int (0 : Int32))])) (fun t k => own_st st122 k) ?_
  refine own_go (B := T122.setTop (mkF m 168 #[.val (.int p1), .val (.int p2), .val (.int p3), .val (.int p4), .val (.int p5), .val (.int p6), .val (.int vk), .val (.int (1 : Int32)), .val (.ref b106), .val (.int (1 : Int32))] [])) (fun t k => XS.ifNo X122.here hx rfl (Jvm.hb hby at_165) rfl ((if0 _ _).trans (teq (by decide : (0 : Int32) = (0 : Int32))).2) k) ?_
  refine own_go (B := T122.setTop (mkF m 170 #[.val (.int p1), .val (.int p2), .val (.int p3), .val (.int p4), .val (.int p5), .val (.int p6), .val (.int vk), .val (.int (1 : Int32)), .val (.ref b106), .val (.int (1 : Int32))] [(.ref b106)])) (fun t k => XS.aload X122.here hx rfl (Jvm.hb hby at_168) rfl rfl k) ?_
  obtain ⟨cq123, kq123, q123a, q123b, q123c⟩ := isOf hZ e122 E_b106
  obtain ⟨_, _, ⟨T123, La123, ka123, na123⟩, -, X123, ⟨Lc123, hQ123, l123, y123, z123⟩, st123⟩ := X122.virtualBack hx (y := (⟨"com/example/term_unifier/termunifier/IntPairStack", "first", "()I"⟩ : MethodName)) (z := (⟨"com/example/term_unifier/termunifier/IntPairStack", "first", "()I"⟩ : MethodName)) hown (mvT hZ (own_w hw 60 rfl)) (mvT hZ (own_w hw 61 rfl)) (notFace_of_selects (args := #[]) (mvT hZ (own_w hw 63 rfl))) (mvT hZ (own_w hw 63 rfl)) (mvT hZ (own_w hw 62 rfl)) (by decide) (backOf (W := 0) (rm9 l Z a0 hw [] b106 b108 (0 : Int32) 0 (own_upd (own_upd (own_upd (fun _ => 0) 0 p1) 1 p3) 0 p5) p5 T121.heap n0 Zs F_b106_firsts F_b106_top V_b108 (by decide) (by decide) (by decide) rfl) hZ (own_w hw 64 rfl) (own_w hw 2 rfl) (by decide) (by decide)) q123a q123c (g := (mkF m 170 #[.val (.int p1), .val (.int p2), .val (.int p3), .val (.int p4), .val (.int p5), .val (.int p6), .val (.int vk), .val (.int (1 : Int32)), .val (.ref b106), .val (.int (1 : Int32))] [(.ref b106)])) rfl (by rw [hml]; rfl) (Steps.refl _) (argsL := []) (rest := []) (lenOf pd_2 rfl) rfl (by show 2 * 0 + _ ≤ _; exact Nat.le_of_eq rfl) (Jvm.hb hby at_170) (fun _ _ => ⟨rfl, e122, (by decide : 6 + 0 ≤ _), (by decide : 73 + 0 ≤ _)⟩)
  dsimp only [Pt.U, Pt.locs, Pt.cells, Pt.slots] at X123 l123 y123 z123 st123 hQ123
  have y123 : ka123 = 6 := y123
  have z123 : na123 = 73 := z123
  subst y123 z123
  obtain ⟨rfl, N123q, e123⟩ := hQ123
  have N123 : Fr n0 La123 := by rw [l123]; exact Fr.app N122 N123q
  refine own_go (B := T123.setTop (mkF m 173 #[.val (.int p1), .val (.int p2), .val (.int p3), .val (.int p4), .val (.int p5), .val (.int p6), .val (.int vk), .val (.int (1 : Int32)), .val (.ref b106), .val (.int (1 : Int32))] [(.int p5)])) (fun t k => own_st st123 k) ?_
  refine own_go (B := T123.setTop (mkF m 175 #[.val (.int p1), .val (.int p2), .val (.int p3), .val (.int p4), .val (.int p5), .val (.int p6), .val (.int vk), .val (.int (1 : Int32)), .val (.ref b106), .val (.int (1 : Int32))] [(.int p5), (.int p5)])) (fun t k => XS.iload X123.here hx rfl (Jvm.hb hby at_173) rfl k) ?_
  refine own_go (B := T123.setTop (mkF m 178 #[.val (.int p1), .val (.int p2), .val (.int p3), .val (.int p4), .val (.int p5), .val (.int p6), .val (.int vk), .val (.int (1 : Int32)), .val (.ref b106), .val (.int (1 : Int32))] [])) (fun t k => XS.icmpNo X123.here hx rfl (Jvm.hb hby at_175) rfl (teq (rfl : p5 = p5)).2 k) ?_
  refine own_go (B := T123.setTop (mkF m 180 #[.val (.int p1), .val (.int p2), .val (.int p3), .val (.int p4), .val (.int p5), .val (.int p6), .val (.int vk), .val (.int (1 : Int32)), .val (.ref b106), .val (.int (1 : Int32))] [(.ref b106)])) (fun t k => XS.aload X123.here hx rfl (Jvm.hb hby at_178) rfl rfl k) ?_
  obtain ⟨cq124, kq124, q124a, q124b, q124c⟩ := isOf hZ e123 E_b106
  obtain ⟨_, _, ⟨T124, La124, ka124, na124⟩, -, X124, ⟨Lc124, hQ124, l124, y124, z124⟩, st124⟩ := X123.virtualBack hx (y := (⟨"com/example/term_unifier/termunifier/IntPairStack", "second", "()I"⟩ : MethodName)) (z := (⟨"com/example/term_unifier/termunifier/IntPairStack", "second", "()I"⟩ : MethodName)) hown (mvT hZ (own_w hw 65 rfl)) (mvT hZ (own_w hw 66 rfl)) (notFace_of_selects (args := #[]) (mvT hZ (own_w hw 68 rfl))) (mvT hZ (own_w hw 68 rfl)) (mvT hZ (own_w hw 67 rfl)) (by decide) (backOf (W := 0) (rm10 l Z a0 hw [] b106 b109 (0 : Int32) 0 (own_upd (own_upd (own_upd (fun _ => 0) 0 p2) 1 p4) 0 (p5 ^^^ (-1 : Int32))) (p5 ^^^ (-1 : Int32)) T121.heap n0 Zs F_b106_seconds F_b106_top V_b109 (by decide) (by decide) (by decide) rfl) hZ (own_w hw 69 rfl) (own_w hw 2 rfl) (by decide) (by decide)) q124a q124c (g := (mkF m 180 #[.val (.int p1), .val (.int p2), .val (.int p3), .val (.int p4), .val (.int p5), .val (.int p6), .val (.int vk), .val (.int (1 : Int32)), .val (.ref b106), .val (.int (1 : Int32))] [(.ref b106)])) rfl (by rw [hml]; rfl) (Steps.refl _) (argsL := []) (rest := []) (lenOf pd_2 rfl) rfl (by show 2 * 0 + _ ≤ _; exact Nat.le_of_eq rfl) (Jvm.hb hby at_180) (fun _ _ => ⟨rfl, e123, (by decide : 6 + 0 ≤ _), (by decide : 73 + 0 ≤ _)⟩)
  dsimp only [Pt.U, Pt.locs, Pt.cells, Pt.slots] at X124 l124 y124 z124 st124 hQ124
  have y124 : ka124 = 6 := y124
  have z124 : na124 = 73 := z124
  subst y124 z124
  obtain ⟨rfl, N124q, e124⟩ := hQ124
  have N124 : Fr n0 La124 := by rw [l124]; exact Fr.app N123 N124q
  refine own_go (B := T124.setTop (mkF m 183 #[.val (.int p1), .val (.int p2), .val (.int p3), .val (.int p4), .val (.int p5), .val (.int p6), .val (.int vk), .val (.int (1 : Int32)), .val (.ref b106), .val (.int (1 : Int32))] [(.int (p5 ^^^ (-1 : Int32)))])) (fun t k => own_st st124 k) ?_
  refine own_go (B := T124.setTop (mkF m 185 #[.val (.int p1), .val (.int p2), .val (.int p3), .val (.int p4), .val (.int p5), .val (.int p6), .val (.int vk), .val (.int (1 : Int32)), .val (.ref b106), .val (.int (1 : Int32))] [(.int p5), (.int (p5 ^^^ (-1 : Int32)))])) (fun t k => XS.iload X124.here hx rfl (Jvm.hb hby at_183) rfl k) ?_
  refine own_go (B := T124.setTop (mkF m 186 #[.val (.int p1), .val (.int p2), .val (.int p3), .val (.int p4), .val (.int p5), .val (.int p6), .val (.int vk), .val (.int (1 : Int32)), .val (.ref b106), .val (.int (1 : Int32))] [(.int (-1 : Int32)), (.int p5), (.int (p5 ^^^ (-1 : Int32)))])) (fun t k => XS.iconst X124.here hx rfl (Jvm.hb hby at_185) k) ?_
  refine own_go (B := T124.setTop (mkF m 187 #[.val (.int p1), .val (.int p2), .val (.int p3), .val (.int p4), .val (.int p5), .val (.int p6), .val (.int vk), .val (.int (1 : Int32)), .val (.ref b106), .val (.int (1 : Int32))] [(.int (p5 ^^^ (-1 : Int32))), (.int (p5 ^^^ (-1 : Int32)))])) (fun t k => XS.ixor X124.here hx rfl (Jvm.hb hby at_186) rfl k) ?_
  refine own_go (B := T124.setTop (mkF m 190 #[.val (.int p1), .val (.int p2), .val (.int p3), .val (.int p4), .val (.int p5), .val (.int p6), .val (.int vk), .val (.int (1 : Int32)), .val (.ref b106), .val (.int (1 : Int32))] [])) (fun t k => XS.icmpNo X124.here hx rfl (Jvm.hb hby at_187) rfl (teq (rfl : (p5 ^^^ (-1 : Int32)) = (p5 ^^^ (-1 : Int32)))).2 k) ?_
  refine own_go (B := T124.setTop (mkF m 191 #[.val (.int p1), .val (.int p2), .val (.int p3), .val (.int p4), .val (.int p5), .val (.int p6), .val (.int vk), .val (.int (1 : Int32)), .val (.ref b106), .val (.int (1 : Int32))] [(.int (1 : Int32))])) (fun t k => XS.iconst X124.here hx rfl (Jvm.hb hby at_190) k) ?_
  refine own_go (B := T124.setTop (mkF m 195 #[.val (.int p1), .val (.int p2), .val (.int p3), .val (.int p4), .val (.int p5), .val (.int p6), .val (.int vk), .val (.int (1 : Int32)), .val (.ref b106), .val (.int (1 : Int32))] [(.int (1 : Int32))])) (fun t k => XS.goto X124.here hx rfl (pc0 := 191) (pc' := 195) rfl (Jvm.hb hby at_191) (by decide) (by decide) k) ?_
  refine own_go (B := T124.setTop (mkF m 197 #[.val (.int p1), .val (.int p2), .val (.int p3), .val (.int p4), .val (.int p5), .val (.int p6), .val (.int vk), .val (.int (1 : Int32)), .val (.ref b106), .val (.int (1 : Int32))] [])) (fun t k => XS.istore X124.here hx rfl (Jvm.hb hby at_195) rfl (l' := #[.val (.int p1), .val (.int p2), .val (.int p3), .val (.int p4), .val (.int p5), .val (.int p6), .val (.int vk), .val (.int (1 : Int32)), .val (.ref b106), .val (.int (1 : Int32))]) rfl k) ?_
  refine own_go (B := T124.setTop (mkF m 199 #[.val (.int p1), .val (.int p2), .val (.int p3), .val (.int p4), .val (.int p5), .val (.int p6), .val (.int vk), .val (.int (1 : Int32)), .val (.ref b106), .val (.int (1 : Int32))] [(.ref b106)])) (fun t k => XS.aload X124.here hx rfl (Jvm.hb hby at_197) rfl rfl k) ?_
  obtain ⟨cq125, kq125, q125a, q125b, q125c⟩ := isOf hZ e124 E_b106
  obtain ⟨_, _, ⟨T125, La125, ka125, na125⟩, -, X125, ⟨Lc125, hQ125, l125, y125, z125⟩, st125⟩ := X124.virtualBack hx (y := (⟨"com/example/term_unifier/termunifier/IntPairStack", "pop", "()V"⟩ : MethodName)) (z := (⟨"com/example/term_unifier/termunifier/IntPairStack", "pop", "()V"⟩ : MethodName)) hown (mvT hZ (own_w hw 50 rfl)) (mvT hZ (own_w hw 51 rfl)) (notFace_of_selects (args := #[]) (mvT hZ (own_w hw 53 rfl))) (mvT hZ (own_w hw 53 rfl)) (mvT hZ (own_w hw 52 rfl)) (by decide) (backOf (W := 0) (rm_popd l Z a0 hw [] b106 b108 b109 b110 b111 (0 : Int32) (1 : Int32) (0 : Int32) (-1 : Int32) (0 : Int32) 0 (own_upd (own_upd (own_upd (fun _ => 0) 0 (-1 : Int32)) 1 (0 : Int32)) 0 (-1 : Int32)) T121.heap n0 Zs E_b106 F_b106_firsts F_b106_seconds F_b106_below F_b106_top F_b106_used F_b106_kept F_b106_marks V_b110 g_b106 ne_b106_b110 (by decide) (by decide) (by decide) rfl (by decide) (by decide) (by decide)) hZ (own_w hw 54 rfl) (own_w hw 2 rfl) (by decide) (by decide)) q125a q125c (g := (mkF m 199 #[.val (.int p1), .val (.int p2), .val (.int p3), .val (.int p4), .val (.int p5), .val (.int p6), .val (.int vk), .val (.int (1 : Int32)), .val (.ref b106), .val (.int (1 : Int32))] [(.ref b106)])) rfl (by rw [hml]; rfl) (Steps.refl _) (argsL := []) (rest := []) (lenOf pd_0 rfl) rfl (by show 2 * 0 + _ ≤ _; exact Nat.le_of_eq rfl) (Jvm.hb hby at_199) (fun _ _ => ⟨rfl, e124, (by decide : 6 + 0 ≤ _), (by decide : 73 + 0 ≤ _)⟩)
  dsimp only [Pt.U, Pt.locs, Pt.cells, Pt.slots] at X125 l125 y125 z125 st125 hQ125
  have y125 : ka125 = 6 := y125
  have z125 : na125 = 73 := z125
  subst y125 z125
  obtain ⟨rfl, N125q, Kc125, E_b106_q, F_b106_firsts_q, F_b106_seconds_q, F_b106_below_q, F_b106_top_q, F_b106_used_q, F_b106_kept_q, F_b106_marks_q⟩ := hQ125
  have N125 : Fr n0 La125 := by rw [l125]; exact Fr.app N124 N125q
  have E_b111 := E_b111.keep Kc125
  have F_b111_items := F_b111_items.keep Kc125 (ninS (Ne.symm ne_b106_b111) nin0)
  have F_b111_size := F_b111_size.keep Kc125 (ninS (Ne.symm ne_b106_b111) nin0)
  have V_b112 := V_b112.keep Kc125 (ninS (Ne.symm ne_b106_b112) nin0)
  have V_b108 := V_b108.keep Kc125 (ninS (Ne.symm ne_b106_b108) nin0)
  have V_b109 := V_b109.keep Kc125 (ninS (Ne.symm ne_b106_b109) nin0)
  have V_b110 := V_b110.keep Kc125 (ninS (Ne.symm ne_b106_b110) nin0)
  have Zs := Nat.le_trans Zs Kc125.1
  have E_b106 := E_b106_q
  have F_b106_firsts := F_b106_firsts_q
  have F_b106_seconds := F_b106_seconds_q
  have F_b106_below := F_b106_below_q
  have F_b106_top := F_b106_top_q
  have F_b106_used := F_b106_used_q
  have F_b106_kept := F_b106_kept_q
  have F_b106_marks := F_b106_marks_q
  refine own_go (B := T125.setTop (mkF m 202 #[.val (.int p1), .val (.int p2), .val (.int p3), .val (.int p4), .val (.int p5), .val (.int p6), .val (.int vk), .val (.int (1 : Int32)), .val (.ref b106), .val (.int (1 : Int32))] [])) (fun t k => own_st st125 k) ?_
  refine own_go (B := T125.setTop (mkF m 204 #[.val (.int p1), .val (.int p2), .val (.int p3), .val (.int p4), .val (.int p5), .val (.int p6), .val (.int vk), .val (.int (1 : Int32)), .val (.ref b106), .val (.int (1 : Int32))] [(.int (1 : Int32))])) (fun t k => XS.iload X125.here hx rfl (Jvm.hb hby at_202) rfl k) ?_
  refine own_go (B := T125.setTop (mkF m 207 #[.val (.int p1), .val (.int p2), .val (.int p3), .val (.int p4), .val (.int p5), .val (.int p6), .val (.int vk), .val (.int (1 : Int32)), .val (.ref b106), .val (.int (1 : Int32))] [])) (fun t k => XS.ifNo X125.here hx rfl (Jvm.hb hby at_204) rfl ((if0 _ _).trans (feq (by decide : ¬ ((1 : Int32) = (0 : Int32)))).1) k) ?_
  refine own_go (B := T125.setTop (mkF m 209 #[.val (.int p1), .val (.int p2), .val (.int p3), .val (.int p4), .val (.int p5), .val (.int p6), .val (.int vk), .val (.int (1 : Int32)), .val (.ref b106), .val (.int (1 : Int32))] [(.int (1 : Int32))])) (fun t k => XS.iload X125.here hx rfl (Jvm.hb hby at_207) rfl k) ?_
  refine own_go (B := T125.setTop (mkF m 212 #[.val (.int p1), .val (.int p2), .val (.int p3), .val (.int p4), .val (.int p5), .val (.int p6), .val (.int vk), .val (.int (1 : Int32)), .val (.ref b106), .val (.int (1 : Int32))] [])) (fun t k => XS.ifNo X125.here hx rfl (Jvm.hb hby at_209) rfl ((if0 _ _).trans (feq (by decide : ¬ ((1 : Int32) = (0 : Int32)))).1) k) ?_
  refine own_go (B := T125.setTop (mkF m 214 #[.val (.int p1), .val (.int p2), .val (.int p3), .val (.int p4), .val (.int p5), .val (.int p6), .val (.int vk), .val (.int (1 : Int32)), .val (.ref b106), .val (.int (1 : Int32))] [(.ref b106)])) (fun t k => XS.aload X125.here hx rfl (Jvm.hb hby at_212) rfl rfl k) ?_
  obtain ⟨cq126, kq126, q126a, q126b, q126c⟩ := isOf hZ rfl E_b106
  obtain ⟨_, _, ⟨T126, La126, ka126, na126⟩, -, X126, ⟨Lc126, hQ126, l126, y126, z126⟩, st126⟩ := X125.virtualBack hx (y := (⟨"com/example/term_unifier/termunifier/IntPairStack", "isEmpty", "()Z"⟩ : MethodName)) (z := (⟨"com/example/term_unifier/termunifier/IntPairStack", "isEmpty", "()Z"⟩ : MethodName)) hown (mvT hZ (own_w hw 55 rfl)) (mvT hZ (own_w hw 56 rfl)) (notFace_of_selects (args := #[]) (mvT hZ (own_w hw 58 rfl))) (mvT hZ (own_w hw 58 rfl)) (mvT hZ (own_w hw 57 rfl)) (by decide) (backOf (W := 0) (rm8 l Z a0 hw [] b106 (-1 : Int32) (1 : Int32) T125.heap n0 Zs F_b106_top (by decide)) hZ (own_w hw 59 rfl) (own_w hw 2 rfl) (by decide) (by decide)) q126a q126c (g := (mkF m 214 #[.val (.int p1), .val (.int p2), .val (.int p3), .val (.int p4), .val (.int p5), .val (.int p6), .val (.int vk), .val (.int (1 : Int32)), .val (.ref b106), .val (.int (1 : Int32))] [(.ref b106)])) rfl (by rw [hml]; rfl) (Steps.refl _) (argsL := []) (rest := []) (lenOf pd_4 rfl) rfl (by show 2 * 0 + _ ≤ _; exact Nat.le_of_eq rfl) (Jvm.hb hby at_214) (fun _ _ => ⟨rfl, rfl, (by decide : 6 + 0 ≤ _), (by decide : 73 + 0 ≤ _)⟩)
  dsimp only [Pt.U, Pt.locs, Pt.cells, Pt.slots] at X126 l126 y126 z126 st126 hQ126
  have y126 : ka126 = 6 := y126
  have z126 : na126 = 73 := z126
  subst y126 z126
  obtain ⟨rfl, N126q, e126⟩ := hQ126
  have N126 : Fr n0 La126 := by rw [l126]; exact Fr.app N125 N126q
  refine own_go (B := T126.setTop (mkF m 217 #[.val (.int p1), .val (.int p2), .val (.int p3), .val (.int p4), .val (.int p5), .val (.int p6), .val (.int vk), .val (.int (1 : Int32)), .val (.ref b106), .val (.int (1 : Int32))] [(.int (1 : Int32))])) (fun t k => own_st st126 k) ?_
  refine own_go (B := T126.setTop (mkF m 220 #[.val (.int p1), .val (.int p2), .val (.int p3), .val (.int p4), .val (.int p5), .val (.int p6), .val (.int vk), .val (.int (1 : Int32)), .val (.ref b106), .val (.int (1 : Int32))] [])) (fun t k => XS.ifNo X126.here hx rfl (Jvm.hb hby at_217) rfl ((if0 _ _).trans (feq (by decide : ¬ ((1 : Int32) = (0 : Int32)))).1) k) ?_
  refine own_go (B := T126.setTop (mkF m 221 #[.val (.int p1), .val (.int p2), .val (.int p3), .val (.int p4), .val (.int p5), .val (.int p6), .val (.int vk), .val (.int (1 : Int32)), .val (.ref b106), .val (.int (1 : Int32))] [(.int (1 : Int32))])) (fun t k => XS.iconst X126.here hx rfl (Jvm.hb hby at_220) k) ?_
  refine own_go (B := T126.setTop (mkF m 225 #[.val (.int p1), .val (.int p2), .val (.int p3), .val (.int p4), .val (.int p5), .val (.int p6), .val (.int vk), .val (.int (1 : Int32)), .val (.ref b106), .val (.int (1 : Int32))] [(.int (1 : Int32))])) (fun t k => XS.goto X126.here hx rfl (pc0 := 221) (pc' := 225) rfl (Jvm.hb hby at_221) (by decide) (by decide) k) ?_
  refine own_go (B := T126.setTop (mkF m 227 #[.val (.int p1), .val (.int p2), .val (.int p3), .val (.int p4), .val (.int p5), .val (.int p6), .val (.int vk), .val (.int (1 : Int32)), .val (.ref b106), .val (.int (1 : Int32))] [])) (fun t k => XS.istore X126.here hx rfl (Jvm.hb hby at_225) rfl (l' := #[.val (.int p1), .val (.int p2), .val (.int p3), .val (.int p4), .val (.int p5), .val (.int p6), .val (.int vk), .val (.int (1 : Int32)), .val (.ref b106), .val (.int (1 : Int32))]) rfl k) ?_
  refine own_go (B := T126.setTop (mkF m 268 #[.val (.int p1), .val (.int p2), .val (.int p3), .val (.int p4), .val (.int p5), .val (.int p6), .val (.int vk), .val (.int (1 : Int32)), .val (.ref b106), .val (.int (1 : Int32))] [])) (fun t k => XS.goto X126.here hx rfl (pc0 := 227) (pc' := 268) rfl (Jvm.hb hby at_227) (by decide) (by decide) k) ?_
  refine own_go (B := T126.setTop (mkF m 270 #[.val (.int p1), .val (.int p2), .val (.int p3), .val (.int p4), .val (.int p5), .val (.int p6), .val (.int vk), .val (.int (1 : Int32)), .val (.ref b106), .val (.int (1 : Int32))] [(.int vk)])) (fun t k => XS.iload X126.here hx rfl (Jvm.hb hby at_268) rfl k) ?_
  refine own_go (B := T126.setTop (mkF m 435 #[.val (.int p1), .val (.int p2), .val (.int p3), .val (.int p4), .val (.int p5), .val (.int p6), .val (.int vk), .val (.int (1 : Int32)), .val (.ref b106), .val (.int (1 : Int32))] [])) (fun t k => XS.ifYes X126.here hx rfl (pc0 := 270) (pc' := 435) rfl (Jvm.hb hby at_270) rfl ((if0 _ _).trans (teq (hvk.trans hk)).1) (by decide) (by decide) k) ?_
  refine own_go (B := T126.setTop (mkF m 437 #[.val (.int p1), .val (.int p2), .val (.int p3), .val (.int p4), .val (.int p5), .val (.int p6), .val (.int vk), .val (.int (1 : Int32)), .val (.ref b106), .val (.int (1 : Int32))] [(.int (1 : Int32))])) (fun t k => XS.iload X126.here hx rfl (Jvm.hb hby at_435) rfl k) ?_
  refine own_out X126 (v := (some (.int (1 : Int32)))) (fun h => by rw [Bd.returns] at h; cases h) Bd.notSynchronized (fun fs hr => retOut X126 hx (t := .boolean) Bd.returns rfl (by first | exact Or.inl ⟨rfl, by simp, _, rfl⟩) (Jvm.hb hby at_437) hr) ?_ (by decide) (by decide)
  show own_Q0 Z p1 p2 p3 p4 p5 p6 h0 n0 (some (.int (1 : Int32))) T126.heap _
  rw [e126]
  exact ⟨rfl, N126⟩
theorem ef_0_11 (m : MethodId) (x0 : Int32) (x1 : Int32) (x2 : Int32) (x3 : Int32) (x4 : Int32) (x5 : Int32) : entryFrame m #[(.int x0), (.int x1), (.int x2), (.int x3), (.int x4), (.int x5)] maxLocals = mkF m 0 #[.val (.int x0), .val (.int x1), .val (.int x2), .val (.int x3), .val (.int x4), .val (.int x5), .unset, .unset, .unset, .unset] [] := by first | (simp [entryFrame, mkF, argsToLocals, Value.category, maxLocals]; done) | rfl
set_option maxRecDepth 65536 in
set_option maxHeartbeats 40000000 in
theorem rm0_11 (l : Launch) (Z : State) (a0 : Array Value) (hw : ∀ d ∈ tables_1, d.before a0 Z = true) (ws : List Jvm.Cond) (p1 : Int32) (p2 : Int32) (p3 : Int32) (p4 : Int32) (p5 : Int32) (p6 : Int32) (h0 : Heap) (n0 : Nat) (Z0 : n0 ≤ h0.size) (hk : (p6 &&& (3 : Int32)) = (1 : Int32)) (ht : (p6 &&& (4 : Int32)) = (0 : Int32)) :
    MetFree l x (head1 (Jvm.Cond.code x code maxLocals ret :: ws) room_1) (fun a U => a = #[(.int p1), (.int p2), (.int p3), (.int p4), (.int p5), (.int p6)] ∧ Z.Warmed39 U.vm ∧ U.heap = h0) (fun _ _ _ _ _ => True) (fun _ U o U' => ∃ v L, o = .returned v ∧ own_Q0 Z p1 p2 p3 p4 p5 p6 h0 n0 v U'.heap L ∧ FrameEnd U o U' L room_1.cells room_1.slots) := by
  refine MetFree.of_bodySF (plainFor_of_name pn_com_example_term_unifier_termunifier_IntPairStackPopPinLaw) hisR ?_
  intro p e s m args below meth c s₁ Bd hml0 hP hK
  obtain ⟨rfl, hZ, hh⟩ := hP
  have hx := Bd.exec
  have hby := Bd.bytes
  have hml : c.maxLocals = 10 := hml0
  have hown : s.vm.findClass "com/example/term_unifier/termunifier/IntPairStackPopPinLaw" = some m.cls := findClass_of_methodNamed Bd.named
  have hnm := (name_of_methodNamed Bd.named Bd.method).1
  have X0 : Stand p l e room_1 s m #[(.int p1), (.int p2), (.int p3), (.int p4), (.int p5), (.int p6)] below meth c s₁ [] 0 0 := Stand.of_body Bd
  have e0 : s₁.heap = h0 := by rw [← hh, Bd.state]; rfl
  have N0 := Fr.nil n0
  have Zs := Z0
  show own_Goes p e below s (own_Q0 Z p1 p2 p3 p4 p5 p6 h0 n0) room_1.cells room_1.slots _
  refine own_go (B := s₁.setTop (mkF m 0 #[.val (.int p1), .val (.int p2), .val (.int p3), .val (.int p4), .val (.int p5), .val (.int p6), .unset, .unset, .unset, .unset] [])) (fun t k => castTop (ef_0_11 m p1 p2 p3 p4 p5 p6) k) ?_
  refine own_go (B := s₁.setTop (mkF m 2 #[.val (.int p1), .val (.int p2), .val (.int p3), .val (.int p4), .val (.int p5), .val (.int p6), .unset, .unset, .unset, .unset] [(.int p6)])) (fun t k => XS.iload X0.here hx rfl (Jvm.hb hby at_0) rfl k) ?_
  refine own_go (B := s₁.setTop (mkF m 3 #[.val (.int p1), .val (.int p2), .val (.int p3), .val (.int p4), .val (.int p5), .val (.int p6), .unset, .unset, .unset, .unset] [(.int (3 : Int32)), (.int p6)])) (fun t k => XS.iconst X0.here hx rfl (Jvm.hb hby at_2) k) ?_
  refine own_go (B := s₁.setTop (mkF m 4 #[.val (.int p1), .val (.int p2), .val (.int p3), .val (.int p4), .val (.int p5), .val (.int p6), .unset, .unset, .unset, .unset] [(.int (p6 &&& (3 : Int32)))])) (fun t k => XS.iand X0.here hx rfl (Jvm.hb hby at_3) rfl k) ?_
  obtain ⟨vk, hvk⟩ : ∃ z : Int32, z = (p6 &&& (3 : Int32)) := ⟨_, rfl⟩
  rw [← hvk]
  refine own_go (B := s₁.setTop (mkF m 6 #[.val (.int p1), .val (.int p2), .val (.int p3), .val (.int p4), .val (.int p5), .val (.int p6), .val (.int vk), .unset, .unset, .unset] [])) (fun t k => XS.istore X0.here hx rfl (Jvm.hb hby at_4) rfl (l' := #[.val (.int p1), .val (.int p2), .val (.int p3), .val (.int p4), .val (.int p5), .val (.int p6), .val (.int vk), .unset, .unset, .unset]) rfl k) ?_
  refine own_go (B := s₁.setTop (mkF m 8 #[.val (.int p1), .val (.int p2), .val (.int p3), .val (.int p4), .val (.int p5), .val (.int p6), .val (.int vk), .unset, .unset, .unset] [(.int p6)])) (fun t k => XS.iload X0.here hx rfl (Jvm.hb hby at_6) rfl k) ?_
  refine own_go (B := s₁.setTop (mkF m 9 #[.val (.int p1), .val (.int p2), .val (.int p3), .val (.int p4), .val (.int p5), .val (.int p6), .val (.int vk), .unset, .unset, .unset] [(.int (4 : Int32)), (.int p6)])) (fun t k => XS.iconst X0.here hx rfl (Jvm.hb hby at_8) k) ?_
  refine own_go (B := s₁.setTop (mkF m 10 #[.val (.int p1), .val (.int p2), .val (.int p3), .val (.int p4), .val (.int p5), .val (.int p6), .val (.int vk), .unset, .unset, .unset] [(.int (p6 &&& (4 : Int32)))])) (fun t k => XS.iand X0.here hx rfl (Jvm.hb hby at_9) rfl k) ?_
  refine own_go (B := s₁.setTop (mkF m 17 #[.val (.int p1), .val (.int p2), .val (.int p3), .val (.int p4), .val (.int p5), .val (.int p6), .val (.int vk), .unset, .unset, .unset] [])) (fun t k => XS.ifYes X0.here hx rfl (pc0 := 10) (pc' := 17) rfl (Jvm.hb hby at_10) rfl ((if0 _ _).trans (teq ht).1) (by decide) (by decide) k) ?_
  refine own_go (B := s₁.setTop (mkF m 18 #[.val (.int p1), .val (.int p2), .val (.int p3), .val (.int p4), .val (.int p5), .val (.int p6), .val (.int vk), .unset, .unset, .unset] [(.int (0 : Int32))])) (fun t k => XS.iconst X0.here hx rfl (Jvm.hb hby at_17) k) ?_
  refine own_go (B := s₁.setTop (mkF m 20 #[.val (.int p1), .val (.int p2), .val (.int p3), .val (.int p4), .val (.int p5), .val (.int p6), .val (.int vk), .val (.int (0 : Int32)), .unset, .unset] [])) (fun t k => XS.istore X0.here hx rfl (Jvm.hb hby at_18) rfl (l' := #[.val (.int p1), .val (.int p2), .val (.int p3), .val (.int p4), .val (.int p5), .val (.int p6), .val (.int vk), .val (.int (0 : Int32)), .unset, .unset]) rfl k) ?_
  obtain ⟨T127, h127, X127, e127, E127, A127, D127, -, st127⟩ := newO X0 hx hZ hown (own_w hw 0 rfl) (own_w hw 1 rfl) (own_w hw 2 rfl) e0 (g := (mkF m 20 #[.val (.int p1), .val (.int p2), .val (.int p3), .val (.int p4), .val (.int p5), .val (.int p6), .val (.int vk), .val (.int (0 : Int32)), .unset, .unset] [])) rfl (Jvm.hb hby at_20) (by decide) (by decide)
  obtain ⟨b127, g127⟩ : ∃ z, z = h0.size := ⟨_, rfl⟩
  rw [← g127] at A127 D127 st127
  have g_b127 : n0 ≤ b127 := Nat.le_trans Zs (Nat.le_of_eq g127.symm)
  have Zs := Nat.le_trans Zs E127.1
  have E_b127 := A127
  have F_b127_firsts : Fld Z h127 b127 "com/example/term_unifier/termunifier/IntPairStack" "firsts" "[I" .null := D127 (Or.inl (own_w hw 11 rfl)) (ty := (.array .int)) (by decide)
  have F_b127_seconds : Fld Z h127 b127 "com/example/term_unifier/termunifier/IntPairStack" "seconds" "[I" .null := D127 (Or.inl (own_w hw 13 rfl)) (ty := (.array .int)) (by decide)
  have F_b127_below : Fld Z h127 b127 "com/example/term_unifier/termunifier/IntPairStack" "below" "[I" .null := D127 (Or.inl (own_w hw 15 rfl)) (ty := (.array .int)) (by decide)
  have F_b127_top : Fld Z h127 b127 "com/example/term_unifier/termunifier/IntPairStack" "top" "I" (.int (0 : Int32)) := D127 (Or.inl (own_w hw 17 rfl)) (ty := .int) (by decide)
  have F_b127_marks : Fld Z h127 b127 "com/example/term_unifier/termunifier/IntPairStack" "marks" "Lcom/example/term_unifier/termunifier/IntStack;" .null := D127 (Or.inr (own_w hw 28 rfl)) (ty := (.object "com/example/term_unifier/termunifier/IntStack")) (by decide)
  have F_b127_used : Fld Z h127 b127 "com/example/term_unifier/termunifier/IntPairStack" "used" "I" (.int (0 : Int32)) := D127 (Or.inl (own_w hw 35 rfl)) (ty := .int) (by decide)
  have F_b127_kept : Fld Z h127 b127 "com/example/term_unifier/termunifier/IntPairStack" "kept" "I" (.int (0 : Int32)) := D127 (Or.inl (own_w hw 49 rfl)) (ty := .int) (by decide)
  refine own_go (B := T127.setTop (mkF m 23 #[.val (.int p1), .val (.int p2), .val (.int p3), .val (.int p4), .val (.int p5), .val (.int p6), .val (.int vk), .val (.int (0 : Int32)), .unset, .unset] [(.ref b127)])) (fun t k => st127 _ k) ?_
  refine own_go (B := T127.setTop (mkF m 24 #[.val (.int p1), .val (.int p2), .val (.int p3), .val (.int p4), .val (.int p5), .val (.int p6), .val (.int vk), .val (.int (0 : Int32)), .unset, .unset] [(.ref b127), (.ref b127)])) (fun t k => XS.dup X127.here hx rfl (Jvm.hb hby at_23) rfl rfl k) ?_
  obtain ⟨_, _, ⟨T128, La128, ka128, na128⟩, -, X128, ⟨Lc128, hQ128, l128, y128, z128⟩, st128⟩ := X127.specialBack hx (y := (⟨"com/example/term_unifier/termunifier/IntPairStack", "<init>", "()V"⟩ : MethodName)) rfl hown (mvT hZ (own_w hw 3 rfl)) (mvT hZ (own_w hw 4 rfl)) (mvT hZ (own_w hw 5 rfl)) (by decide) (backOf (W := 1) (rm1 l Z a0 hw [] b127 h127 n0 Zs E_b127 F_b127_firsts F_b127_seconds F_b127_below F_b127_top F_b127_used F_b127_kept F_b127_marks g_b127) hZ (own_w hw 5 rfl) (own_w hw 2 rfl) (by decide) (by decide)) (g := (mkF m 24 #[.val (.int p1), .val (.int p2), .val (.int p3), .val (.int p4), .val (.int p5), .val (.int p6), .val (.int vk), .val (.int (0 : Int32)), .unset, .unset] [(.ref b127), (.ref b127)])) rfl (by rw [hml]; rfl) (Steps.refl _) (a := b127) (argsL := []) (rest := [(.ref b127)]) (lenOf pd_0 rfl) rfl (by show 2 * 0 + _ ≤ _; exact Nat.le_of_eq rfl) (Jvm.hb hby at_24) (fun _ _ => ⟨rfl, e127, (by decide : 1 + 5 ≤ _), (by decide : 7 + 66 ≤ _)⟩)
  dsimp only [Pt.U, Pt.locs, Pt.cells, Pt.slots] at X128 l128 y128 z128 st128 hQ128
  have y128 : ka128 = 6 := y128
  have z128 : na128 = 73 := z128
  subst y128 z128
  obtain ⟨rfl, N128q, b129, sq_b129, b130, sq_b130, b131, sq_b131, b132, sq_b132, b133, sq_b133, ne_b129_b130, ne_b129_b131, ne_b129_b132, ne_b129_b133, ne_b130_b131, ne_b130_b132, ne_b130_b133, ne_b131_b132, ne_b131_b133, ne_b132_b133, Kc128, E_b127_q, F_b127_firsts_q, F_b127_seconds_q, F_b127_below_q, F_b127_top_q, F_b127_used_q, F_b127_kept_q, F_b127_marks_q, V_b129_q, V_b130_q, V_b131_q, E_b132_q, F_b132_items_q, F_b132_size_q, V_b133_q⟩ := hQ128
  have g_b129 : n0 ≤ b129 := Nat.le_trans Zs sq_b129
  have ne_b127_b129 : b127 ≠ b129 := Nat.ne_of_lt (Nat.lt_of_lt_of_le E_b127.lt sq_b129)
  have g_b130 : n0 ≤ b130 := Nat.le_trans Zs sq_b130
  have ne_b127_b130 : b127 ≠ b130 := Nat.ne_of_lt (Nat.lt_of_lt_of_le E_b127.lt sq_b130)
  have g_b131 : n0 ≤ b131 := Nat.le_trans Zs sq_b131
  have ne_b127_b131 : b127 ≠ b131 := Nat.ne_of_lt (Nat.lt_of_lt_of_le E_b127.lt sq_b131)
  have g_b132 : n0 ≤ b132 := Nat.le_trans Zs sq_b132
  have ne_b127_b132 : b127 ≠ b132 := Nat.ne_of_lt (Nat.lt_of_lt_of_le E_b127.lt sq_b132)
  have g_b133 : n0 ≤ b133 := Nat.le_trans Zs sq_b133
  have ne_b127_b133 : b127 ≠ b133 := Nat.ne_of_lt (Nat.lt_of_lt_of_le E_b127.lt sq_b133)
  have N128 : Fr n0 La128 := by rw [l128]; exact Fr.app N0 N128q
  have Zs := Nat.le_trans Zs Kc128.1
  have E_b127 := E_b127_q
  have F_b127_firsts := F_b127_firsts_q
  have F_b127_seconds := F_b127_seconds_q
  have F_b127_below := F_b127_below_q
  have F_b127_top := F_b127_top_q
  have F_b127_used := F_b127_used_q
  have F_b127_kept := F_b127_kept_q
  have F_b127_marks := F_b127_marks_q
  have V_b129 := V_b129_q
  have V_b130 := V_b130_q
  have V_b131 := V_b131_q
  have E_b132 := E_b132_q
  have F_b132_items := F_b132_items_q
  have F_b132_size := F_b132_size_q
  have V_b133 := V_b133_q
  refine own_go (B := T128.setTop (mkF m 27 #[.val (.int p1), .val (.int p2), .val (.int p3), .val (.int p4), .val (.int p5), .val (.int p6), .val (.int vk), .val (.int (0 : Int32)), .unset, .unset] [(.ref b127)])) (fun t k => own_st st128 k) ?_
  refine own_go (B := T128.setTop (mkF m 29 #[.val (.int p1), .val (.int p2), .val (.int p3), .val (.int p4), .val (.int p5), .val (.int p6), .val (.int vk), .val (.int (0 : Int32)), .val (.ref b127), .unset] [])) (fun t k => XS.astore X128.here hx rfl (Jvm.hb hby at_27) rfl rfl (l' := #[.val (.int p1), .val (.int p2), .val (.int p3), .val (.int p4), .val (.int p5), .val (.int p6), .val (.int vk), .val (.int (0 : Int32)), .val (.ref b127), .unset]) rfl k) ?_
  refine own_go (B := T128.setTop (mkF m 31 #[.val (.int p1), .val (.int p2), .val (.int p3), .val (.int p4), .val (.int p5), .val (.int p6), .val (.int vk), .val (.int (0 : Int32)), .val (.ref b127), .unset] [(.int vk)])) (fun t k => XS.iload X128.here hx rfl (Jvm.hb hby at_29) rfl k) ?_
  refine own_go (B := T128.setTop (mkF m 32 #[.val (.int p1), .val (.int p2), .val (.int p3), .val (.int p4), .val (.int p5), .val (.int p6), .val (.int vk), .val (.int (0 : Int32)), .val (.ref b127), .unset] [(.int (1 : Int32)), (.int vk)])) (fun t k => XS.iconst X128.here hx rfl (Jvm.hb hby at_31) k) ?_
  refine own_go (B := T128.setTop (mkF m 35 #[.val (.int p1), .val (.int p2), .val (.int p3), .val (.int p4), .val (.int p5), .val (.int p6), .val (.int vk), .val (.int (0 : Int32)), .val (.ref b127), .unset] [])) (fun t k => XS.icmpNo X128.here hx rfl (Jvm.hb hby at_32) rfl (teq (hvk.trans hk)).2 k) ?_
  refine own_go (B := T128.setTop (mkF m 37 #[.val (.int p1), .val (.int p2), .val (.int p3), .val (.int p4), .val (.int p5), .val (.int p6), .val (.int vk), .val (.int (0 : Int32)), .val (.ref b127), .unset] [(.ref b127)])) (fun t k => XS.aload X128.here hx rfl (Jvm.hb hby at_35) rfl rfl k) ?_
  obtain ⟨cq134, kq134, q134a, q134b, q134c⟩ := isOf hZ rfl E_b127
  obtain ⟨_, _, ⟨T134, La134, ka134, na134⟩, -, X134, ⟨Lc134, hQ134, l134, y134, z134⟩, st134⟩ := X128.virtualBack hx (y := (⟨"com/example/term_unifier/termunifier/IntPairStack", "mark", "()V"⟩ : MethodName)) (z := (⟨"com/example/term_unifier/termunifier/IntPairStack", "mark", "()V"⟩ : MethodName)) hown (mvT hZ (own_w hw 36 rfl)) (mvT hZ (own_w hw 37 rfl)) (notFace_of_selects (args := #[]) (mvT hZ (own_w hw 39 rfl))) (mvT hZ (own_w hw 39 rfl)) (mvT hZ (own_w hw 38 rfl)) (by decide) (backOf (W := 0) (rm5 l Z a0 hw [] b127 b129 b130 b131 b132 b133 (-1 : Int32) (0 : Int32) (0 : Int32) (fun _ => 0) T128.heap n0 Zs E_b127 F_b127_firsts F_b127_seconds F_b127_below F_b127_top F_b127_used F_b127_kept F_b127_marks E_b132 F_b132_items F_b132_size V_b133 g_b127 g_b132 g_b133 ne_b127_b132 ne_b127_b133 ne_b132_b133) hZ (own_w hw 40 rfl) (own_w hw 2 rfl) (by decide) (by decide)) q134a q134c (g := (mkF m 37 #[.val (.int p1), .val (.int p2), .val (.int p3), .val (.int p4), .val (.int p5), .val (.int p6), .val (.int vk), .val (.int (0 : Int32)), .val (.ref b127), .unset] [(.ref b127)])) rfl (by rw [hml]; rfl) (Steps.refl _) (argsL := []) (rest := []) (lenOf pd_0 rfl) rfl (by show 2 * 0 + _ ≤ _; exact Nat.le_of_eq rfl) (Jvm.hb hby at_37) (fun _ _ => ⟨rfl, rfl, (by decide : 6 + 0 ≤ _), (by decide : 73 + 0 ≤ _)⟩)
  dsimp only [Pt.U, Pt.locs, Pt.cells, Pt.slots] at X134 l134 y134 z134 st134 hQ134
  have y134 : ka134 = 6 := y134
  have z134 : na134 = 73 := z134
  subst y134 z134
  obtain ⟨rfl, N134q, Kc134, E_b127_q, F_b127_firsts_q, F_b127_seconds_q, F_b127_below_q, F_b127_top_q, F_b127_used_q, F_b127_kept_q, F_b127_marks_q, E_b132_q, F_b132_items_q, F_b132_size_q, V_b133_q⟩ := hQ134
  have N134 : Fr n0 La134 := by rw [l134]; exact Fr.app N128 N134q
  have V_b129 := V_b129.keep Kc134 (ninS (Ne.symm ne_b127_b129) (ninS ne_b129_b132 (ninS ne_b129_b133 nin0)))
  have V_b130 := V_b130.keep Kc134 (ninS (Ne.symm ne_b127_b130) (ninS ne_b130_b132 (ninS ne_b130_b133 nin0)))
  have V_b131 := V_b131.keep Kc134 (ninS (Ne.symm ne_b127_b131) (ninS ne_b131_b132 (ninS ne_b131_b133 nin0)))
  have Zs := Nat.le_trans Zs Kc134.1
  have E_b127 := E_b127_q
  have F_b127_firsts := F_b127_firsts_q
  have F_b127_seconds := F_b127_seconds_q
  have F_b127_below := F_b127_below_q
  have F_b127_top := F_b127_top_q
  have F_b127_used := F_b127_used_q
  have F_b127_kept := F_b127_kept_q
  have F_b127_marks := F_b127_marks_q
  have E_b132 := E_b132_q
  have F_b132_items := F_b132_items_q
  have F_b132_size := F_b132_size_q
  have V_b133 := V_b133_q
  refine own_go (B := T134.setTop (mkF m 40 #[.val (.int p1), .val (.int p2), .val (.int p3), .val (.int p4), .val (.int p5), .val (.int p6), .val (.int vk), .val (.int (0 : Int32)), .val (.ref b127), .unset] [])) (fun t k => own_st st134 k) ?_
  refine own_go (B := T134.setTop (mkF m 42 #[.val (.int p1), .val (.int p2), .val (.int p3), .val (.int p4), .val (.int p5), .val (.int p6), .val (.int vk), .val (.int (0 : Int32)), .val (.ref b127), .unset] [(.ref b127)])) (fun t k => XS.aload X134.here hx rfl (Jvm.hb hby at_40) rfl rfl k) ?_
  refine own_go (B := T134.setTop (mkF m 43 #[.val (.int p1), .val (.int p2), .val (.int p3), .val (.int p4), .val (.int p5), .val (.int p6), .val (.int vk), .val (.int (0 : Int32)), .val (.ref b127), .unset] [(.int p1), (.ref b127)])) (fun t k => XS.iloadN X134.here hx rfl (Jvm.hb hby at_42) rfl k) ?_
  refine own_go (B := T134.setTop (mkF m 44 #[.val (.int p1), .val (.int p2), .val (.int p3), .val (.int p4), .val (.int p5), .val (.int p6), .val (.int vk), .val (.int (0 : Int32)), .val (.ref b127), .unset] [(.int p2), (.int p1), (.ref b127)])) (fun t k => XS.iloadN X134.here hx rfl (Jvm.hb hby at_43) rfl k) ?_
  obtain ⟨cq135, kq135, q135a, q135b, q135c⟩ := isOf hZ rfl E_b127
  obtain ⟨_, _, ⟨T135, La135, ka135, na135⟩, -, X135, ⟨Lc135, hQ135, l135, y135, z135⟩, st135⟩ := X134.virtualBack hx (y := (⟨"com/example/term_unifier/termunifier/IntPairStack", "push", "(II)V"⟩ : MethodName)) (z := (⟨"com/example/term_unifier/termunifier/IntPairStack", "push", "(II)V"⟩ : MethodName)) hown (mvT hZ (own_w hw 29 rfl)) (mvT hZ (own_w hw 30 rfl)) (notFace_of_selects (args := #[]) (mvT hZ (own_w hw 32 rfl))) (mvT hZ (own_w hw 32 rfl)) (mvT hZ (own_w hw 31 rfl)) (by decide) (backOf (W := 0) (rm4 l Z a0 hw [] b127 p1 p2 b129 b130 b131 b132 (-1 : Int32) (0 : Int32) (0 : Int32) (1 : Int32) 0 (fun _ => 0) (fun _ => 0) (fun _ => 0) T134.heap n0 Zs E_b127 F_b127_firsts F_b127_seconds F_b127_below F_b127_top F_b127_used F_b127_kept F_b127_marks V_b129 V_b130 V_b131 g_b127 g_b129 g_b130 g_b131 ne_b127_b129 ne_b127_b130 ne_b127_b131 ne_b129_b130 ne_b129_b131 ne_b130_b131 (by decide) (by decide) (by decide) (by decide) (by decide)) hZ (own_w hw 33 rfl) (own_w hw 2 rfl) (by decide) (by decide)) q135a q135c (g := (mkF m 44 #[.val (.int p1), .val (.int p2), .val (.int p3), .val (.int p4), .val (.int p5), .val (.int p6), .val (.int vk), .val (.int (0 : Int32)), .val (.ref b127), .unset] [(.int p2), (.int p1), (.ref b127)])) rfl (by rw [hml]; rfl) (Steps.refl _) (argsL := [(.int p1), (.int p2)]) (rest := []) (lenOf pd_3 rfl) rfl (by show 2 * 0 + _ ≤ _; exact Nat.le_of_eq rfl) (Jvm.hb hby at_44) (fun _ _ => ⟨rfl, rfl, (by decide : 6 + 0 ≤ _), (by decide : 73 + 0 ≤ _)⟩)
  dsimp only [Pt.U, Pt.locs, Pt.cells, Pt.slots] at X135 l135 y135 z135 st135 hQ135
  have y135 : ka135 = 6 := y135
  have z135 : na135 = 73 := z135
  subst y135 z135
  obtain ⟨rfl, N135q, Kc135, E_b127_q, F_b127_firsts_q, F_b127_seconds_q, F_b127_below_q, F_b127_top_q, F_b127_used_q, F_b127_kept_q, F_b127_marks_q, V_b129_q, V_b130_q, V_b131_q⟩ := hQ135
  have N135 : Fr n0 La135 := by rw [l135]; exact Fr.app N134 N135q
  have E_b132 := E_b132.keep Kc135
  have F_b132_items := F_b132_items.keep Kc135 (ninS (Ne.symm ne_b127_b132) (ninS (Ne.symm ne_b129_b132) (ninS (Ne.symm ne_b130_b132) (ninS (Ne.symm ne_b131_b132) nin0))))
  have F_b132_size := F_b132_size.keep Kc135 (ninS (Ne.symm ne_b127_b132) (ninS (Ne.symm ne_b129_b132) (ninS (Ne.symm ne_b130_b132) (ninS (Ne.symm ne_b131_b132) nin0))))
  have V_b133 := V_b133.keep Kc135 (ninS (Ne.symm ne_b127_b133) (ninS (Ne.symm ne_b129_b133) (ninS (Ne.symm ne_b130_b133) (ninS (Ne.symm ne_b131_b133) nin0))))
  have Zs := Nat.le_trans Zs Kc135.1
  have E_b127 := E_b127_q
  have F_b127_firsts := F_b127_firsts_q
  have F_b127_seconds := F_b127_seconds_q
  have F_b127_below := F_b127_below_q
  have F_b127_top := F_b127_top_q
  have F_b127_used := F_b127_used_q
  have F_b127_kept := F_b127_kept_q
  have F_b127_marks := F_b127_marks_q
  have V_b129 := V_b129_q
  have V_b130 := V_b130_q
  have V_b131 := V_b131_q
  refine own_go (B := T135.setTop (mkF m 47 #[.val (.int p1), .val (.int p2), .val (.int p3), .val (.int p4), .val (.int p5), .val (.int p6), .val (.int vk), .val (.int (0 : Int32)), .val (.ref b127), .unset] [])) (fun t k => own_st st135 k) ?_
  refine own_go (B := T135.setTop (mkF m 49 #[.val (.int p1), .val (.int p2), .val (.int p3), .val (.int p4), .val (.int p5), .val (.int p6), .val (.int vk), .val (.int (0 : Int32)), .val (.ref b127), .unset] [(.int vk)])) (fun t k => XS.iload X135.here hx rfl (Jvm.hb hby at_47) rfl k) ?_
  refine own_go (B := T135.setTop (mkF m 50 #[.val (.int p1), .val (.int p2), .val (.int p3), .val (.int p4), .val (.int p5), .val (.int p6), .val (.int vk), .val (.int (0 : Int32)), .val (.ref b127), .unset] [(.int (2 : Int32)), (.int vk)])) (fun t k => XS.iconst X135.here hx rfl (Jvm.hb hby at_49) k) ?_
  refine own_go (B := T135.setTop (mkF m 58 #[.val (.int p1), .val (.int p2), .val (.int p3), .val (.int p4), .val (.int p5), .val (.int p6), .val (.int vk), .val (.int (0 : Int32)), .val (.ref b127), .unset] [])) (fun t k => XS.icmpYes X135.here hx rfl (pc0 := 50) (pc' := 58) rfl (Jvm.hb hby at_50) rfl (feq (by rw [hvk, hk]; decide)).2 (by decide) (by decide) k) ?_
  refine own_go (B := T135.setTop (mkF m 60 #[.val (.int p1), .val (.int p2), .val (.int p3), .val (.int p4), .val (.int p5), .val (.int p6), .val (.int vk), .val (.int (0 : Int32)), .val (.ref b127), .unset] [(.ref b127)])) (fun t k => XS.aload X135.here hx rfl (Jvm.hb hby at_58) rfl rfl k) ?_
  refine own_go (B := T135.setTop (mkF m 61 #[.val (.int p1), .val (.int p2), .val (.int p3), .val (.int p4), .val (.int p5), .val (.int p6), .val (.int vk), .val (.int (0 : Int32)), .val (.ref b127), .unset] [(.int p3), (.ref b127)])) (fun t k => XS.iloadN X135.here hx rfl (Jvm.hb hby at_60) rfl k) ?_
  refine own_go (B := T135.setTop (mkF m 62 #[.val (.int p1), .val (.int p2), .val (.int p3), .val (.int p4), .val (.int p5), .val (.int p6), .val (.int vk), .val (.int (0 : Int32)), .val (.ref b127), .unset] [(.int p4), (.int p3), (.ref b127)])) (fun t k => XS.iloadN X135.here hx rfl (Jvm.hb hby at_61) rfl k) ?_
  obtain ⟨cq136, kq136, q136a, q136b, q136c⟩ := isOf hZ rfl E_b127
  obtain ⟨_, _, ⟨T136, La136, ka136, na136⟩, -, X136, ⟨Lc136, hQ136, l136, y136, z136⟩, st136⟩ := X135.virtualBack hx (y := (⟨"com/example/term_unifier/termunifier/IntPairStack", "push", "(II)V"⟩ : MethodName)) (z := (⟨"com/example/term_unifier/termunifier/IntPairStack", "push", "(II)V"⟩ : MethodName)) hown (mvT hZ (own_w hw 29 rfl)) (mvT hZ (own_w hw 30 rfl)) (notFace_of_selects (args := #[]) (mvT hZ (own_w hw 32 rfl))) (mvT hZ (own_w hw 32 rfl)) (mvT hZ (own_w hw 31 rfl)) (by decide) (backOf (W := 0) (rm4 l Z a0 hw [] b127 p3 p4 b129 b130 b131 b132 (0 : Int32) (1 : Int32) (0 : Int32) (2 : Int32) 1 (own_upd (fun _ => 0) 0 p1) (own_upd (fun _ => 0) 0 p2) (own_upd (fun _ => 0) 0 (-1 : Int32)) T135.heap n0 Zs E_b127 F_b127_firsts F_b127_seconds F_b127_below F_b127_top F_b127_used F_b127_kept F_b127_marks V_b129 V_b130 V_b131 g_b127 g_b129 g_b130 g_b131 ne_b127_b129 ne_b127_b130 ne_b127_b131 ne_b129_b130 ne_b129_b131 ne_b130_b131 (by decide) (by decide) (by decide) (by decide) (by decide)) hZ (own_w hw 33 rfl) (own_w hw 2 rfl) (by decide) (by decide)) q136a q136c (g := (mkF m 62 #[.val (.int p1), .val (.int p2), .val (.int p3), .val (.int p4), .val (.int p5), .val (.int p6), .val (.int vk), .val (.int (0 : Int32)), .val (.ref b127), .unset] [(.int p4), (.int p3), (.ref b127)])) rfl (by rw [hml]; rfl) (Steps.refl _) (argsL := [(.int p3), (.int p4)]) (rest := []) (lenOf pd_3 rfl) rfl (by show 2 * 0 + _ ≤ _; exact Nat.le_of_eq rfl) (Jvm.hb hby at_62) (fun _ _ => ⟨rfl, rfl, (by decide : 6 + 0 ≤ _), (by decide : 73 + 0 ≤ _)⟩)
  dsimp only [Pt.U, Pt.locs, Pt.cells, Pt.slots] at X136 l136 y136 z136 st136 hQ136
  have y136 : ka136 = 6 := y136
  have z136 : na136 = 73 := z136
  subst y136 z136
  obtain ⟨rfl, N136q, Kc136, E_b127_q, F_b127_firsts_q, F_b127_seconds_q, F_b127_below_q, F_b127_top_q, F_b127_used_q, F_b127_kept_q, F_b127_marks_q, V_b129_q, V_b130_q, V_b131_q⟩ := hQ136
  have N136 : Fr n0 La136 := by rw [l136]; exact Fr.app N135 N136q
  have E_b132 := E_b132.keep Kc136
  have F_b132_items := F_b132_items.keep Kc136 (ninS (Ne.symm ne_b127_b132) (ninS (Ne.symm ne_b129_b132) (ninS (Ne.symm ne_b130_b132) (ninS (Ne.symm ne_b131_b132) nin0))))
  have F_b132_size := F_b132_size.keep Kc136 (ninS (Ne.symm ne_b127_b132) (ninS (Ne.symm ne_b129_b132) (ninS (Ne.symm ne_b130_b132) (ninS (Ne.symm ne_b131_b132) nin0))))
  have V_b133 := V_b133.keep Kc136 (ninS (Ne.symm ne_b127_b133) (ninS (Ne.symm ne_b129_b133) (ninS (Ne.symm ne_b130_b133) (ninS (Ne.symm ne_b131_b133) nin0))))
  have Zs := Nat.le_trans Zs Kc136.1
  have E_b127 := E_b127_q
  have F_b127_firsts := F_b127_firsts_q
  have F_b127_seconds := F_b127_seconds_q
  have F_b127_below := F_b127_below_q
  have F_b127_top := F_b127_top_q
  have F_b127_used := F_b127_used_q
  have F_b127_kept := F_b127_kept_q
  have F_b127_marks := F_b127_marks_q
  have V_b129 := V_b129_q
  have V_b130 := V_b130_q
  have V_b131 := V_b131_q
  refine own_go (B := T136.setTop (mkF m 65 #[.val (.int p1), .val (.int p2), .val (.int p3), .val (.int p4), .val (.int p5), .val (.int p6), .val (.int vk), .val (.int (0 : Int32)), .val (.ref b127), .unset] [])) (fun t k => own_st st136 k) ?_
  refine own_go (B := T136.setTop (mkF m 67 #[.val (.int p1), .val (.int p2), .val (.int p3), .val (.int p4), .val (.int p5), .val (.int p6), .val (.int vk), .val (.int (0 : Int32)), .val (.ref b127), .unset] [(.int vk)])) (fun t k => XS.iload X136.here hx rfl (Jvm.hb hby at_65) rfl k) ?_
  refine own_go (B := T136.setTop (mkF m 68 #[.val (.int p1), .val (.int p2), .val (.int p3), .val (.int p4), .val (.int p5), .val (.int p6), .val (.int vk), .val (.int (0 : Int32)), .val (.ref b127), .unset] [(.int (3 : Int32)), (.int vk)])) (fun t k => XS.iconst X136.here hx rfl (Jvm.hb hby at_67) k) ?_
  refine own_go (B := T136.setTop (mkF m 76 #[.val (.int p1), .val (.int p2), .val (.int p3), .val (.int p4), .val (.int p5), .val (.int p6), .val (.int vk), .val (.int (0 : Int32)), .val (.ref b127), .unset] [])) (fun t k => XS.icmpYes X136.here hx rfl (pc0 := 68) (pc' := 76) rfl (Jvm.hb hby at_68) rfl (feq (by rw [hvk, hk]; decide)).2 (by decide) (by decide) k) ?_
  refine own_go (B := T136.setTop (mkF m 78 #[.val (.int p1), .val (.int p2), .val (.int p3), .val (.int p4), .val (.int p5), .val (.int p6), .val (.int vk), .val (.int (0 : Int32)), .val (.ref b127), .unset] [(.ref b127)])) (fun t k => XS.aload X136.here hx rfl (Jvm.hb hby at_76) rfl rfl k) ?_
  obtain ⟨cq137, kq137, q137a, q137b, q137c⟩ := isOf hZ rfl E_b127
  obtain ⟨_, _, ⟨T137, La137, ka137, na137⟩, -, X137, ⟨Lc137, hQ137, l137, y137, z137⟩, st137⟩ := X136.virtualBack hx (y := (⟨"com/example/term_unifier/termunifier/IntPairStack", "pop", "()V"⟩ : MethodName)) (z := (⟨"com/example/term_unifier/termunifier/IntPairStack", "pop", "()V"⟩ : MethodName)) hown (mvT hZ (own_w hw 50 rfl)) (mvT hZ (own_w hw 51 rfl)) (notFace_of_selects (args := #[]) (mvT hZ (own_w hw 53 rfl))) (mvT hZ (own_w hw 53 rfl)) (mvT hZ (own_w hw 52 rfl)) (by decide) (backOf (W := 0) (rm_popd l Z a0 hw [] b127 b129 b130 b131 b132 (1 : Int32) (2 : Int32) (0 : Int32) (0 : Int32) (1 : Int32) 1 (own_upd (own_upd (fun _ => 0) 0 (-1 : Int32)) 1 (0 : Int32)) T136.heap n0 Zs E_b127 F_b127_firsts F_b127_seconds F_b127_below F_b127_top F_b127_used F_b127_kept F_b127_marks V_b131 g_b127 ne_b127_b131 (by decide) (by decide) (by decide) rfl (by decide) (by decide) (by decide)) hZ (own_w hw 54 rfl) (own_w hw 2 rfl) (by decide) (by decide)) q137a q137c (g := (mkF m 78 #[.val (.int p1), .val (.int p2), .val (.int p3), .val (.int p4), .val (.int p5), .val (.int p6), .val (.int vk), .val (.int (0 : Int32)), .val (.ref b127), .unset] [(.ref b127)])) rfl (by rw [hml]; rfl) (Steps.refl _) (argsL := []) (rest := []) (lenOf pd_0 rfl) rfl (by show 2 * 0 + _ ≤ _; exact Nat.le_of_eq rfl) (Jvm.hb hby at_78) (fun _ _ => ⟨rfl, rfl, (by decide : 6 + 0 ≤ _), (by decide : 73 + 0 ≤ _)⟩)
  dsimp only [Pt.U, Pt.locs, Pt.cells, Pt.slots] at X137 l137 y137 z137 st137 hQ137
  have y137 : ka137 = 6 := y137
  have z137 : na137 = 73 := z137
  subst y137 z137
  obtain ⟨rfl, N137q, Kc137, E_b127_q, F_b127_firsts_q, F_b127_seconds_q, F_b127_below_q, F_b127_top_q, F_b127_used_q, F_b127_kept_q, F_b127_marks_q⟩ := hQ137
  have N137 : Fr n0 La137 := by rw [l137]; exact Fr.app N136 N137q
  have E_b132 := E_b132.keep Kc137
  have F_b132_items := F_b132_items.keep Kc137 (ninS (Ne.symm ne_b127_b132) nin0)
  have F_b132_size := F_b132_size.keep Kc137 (ninS (Ne.symm ne_b127_b132) nin0)
  have V_b133 := V_b133.keep Kc137 (ninS (Ne.symm ne_b127_b133) nin0)
  have V_b129 := V_b129.keep Kc137 (ninS (Ne.symm ne_b127_b129) nin0)
  have V_b130 := V_b130.keep Kc137 (ninS (Ne.symm ne_b127_b130) nin0)
  have V_b131 := V_b131.keep Kc137 (ninS (Ne.symm ne_b127_b131) nin0)
  have Zs := Nat.le_trans Zs Kc137.1
  have E_b127 := E_b127_q
  have F_b127_firsts := F_b127_firsts_q
  have F_b127_seconds := F_b127_seconds_q
  have F_b127_below := F_b127_below_q
  have F_b127_top := F_b127_top_q
  have F_b127_used := F_b127_used_q
  have F_b127_kept := F_b127_kept_q
  have F_b127_marks := F_b127_marks_q
  refine own_go (B := T137.setTop (mkF m 81 #[.val (.int p1), .val (.int p2), .val (.int p3), .val (.int p4), .val (.int p5), .val (.int p6), .val (.int vk), .val (.int (0 : Int32)), .val (.ref b127), .unset] [])) (fun t k => own_st st137 k) ?_
  refine own_go (B := T137.setTop (mkF m 83 #[.val (.int p1), .val (.int p2), .val (.int p3), .val (.int p4), .val (.int p5), .val (.int p6), .val (.int vk), .val (.int (0 : Int32)), .val (.ref b127), .unset] [(.ref b127)])) (fun t k => XS.aload X137.here hx rfl (Jvm.hb hby at_81) rfl rfl k) ?_
  obtain ⟨cq138, kq138, q138a, q138b, q138c⟩ := isOf hZ rfl E_b127
  obtain ⟨_, _, ⟨T138, La138, ka138, na138⟩, -, X138, ⟨Lc138, hQ138, l138, y138, z138⟩, st138⟩ := X137.virtualBack hx (y := (⟨"com/example/term_unifier/termunifier/IntPairStack", "isEmpty", "()Z"⟩ : MethodName)) (z := (⟨"com/example/term_unifier/termunifier/IntPairStack", "isEmpty", "()Z"⟩ : MethodName)) hown (mvT hZ (own_w hw 55 rfl)) (mvT hZ (own_w hw 56 rfl)) (notFace_of_selects (args := #[]) (mvT hZ (own_w hw 58 rfl))) (mvT hZ (own_w hw 58 rfl)) (mvT hZ (own_w hw 57 rfl)) (by decide) (backOf (W := 0) (rm8 l Z a0 hw [] b127 (0 : Int32) (0 : Int32) T137.heap n0 Zs F_b127_top (by decide)) hZ (own_w hw 59 rfl) (own_w hw 2 rfl) (by decide) (by decide)) q138a q138c (g := (mkF m 83 #[.val (.int p1), .val (.int p2), .val (.int p3), .val (.int p4), .val (.int p5), .val (.int p6), .val (.int vk), .val (.int (0 : Int32)), .val (.ref b127), .unset] [(.ref b127)])) rfl (by rw [hml]; rfl) (Steps.refl _) (argsL := []) (rest := []) (lenOf pd_4 rfl) rfl (by show 2 * 0 + _ ≤ _; exact Nat.le_of_eq rfl) (Jvm.hb hby at_83) (fun _ _ => ⟨rfl, rfl, (by decide : 6 + 0 ≤ _), (by decide : 73 + 0 ≤ _)⟩)
  dsimp only [Pt.U, Pt.locs, Pt.cells, Pt.slots] at X138 l138 y138 z138 st138 hQ138
  have y138 : ka138 = 6 := y138
  have z138 : na138 = 73 := z138
  subst y138 z138
  obtain ⟨rfl, N138q, e138⟩ := hQ138
  have N138 : Fr n0 La138 := by rw [l138]; exact Fr.app N137 N138q
  refine own_go (B := T138.setTop (mkF m 86 #[.val (.int p1), .val (.int p2), .val (.int p3), .val (.int p4), .val (.int p5), .val (.int p6), .val (.int vk), .val (.int (0 : Int32)), .val (.ref b127), .unset] [(.int (0 : Int32))])) (fun t k => own_st st138 k) ?_
  refine own_go (B := T138.setTop (mkF m 89 #[.val (.int p1), .val (.int p2), .val (.int p3), .val (.int p4), .val (.int p5), .val (.int p6), .val (.int vk), .val (.int (0 : Int32)), .val (.ref b127), .unset] [])) (fun t k => XS.ifNo X138.here hx rfl (Jvm.hb hby at_86) rfl ((if0 _ _).trans (teq (by decide : (0 : Int32) = (0 : Int32))).2) k) ?_
  refine own_go (B := T138.setTop (mkF m 91 #[.val (.int p1), .val (.int p2), .val (.int p3), .val (.int p4), .val (.int p5), .val (.int p6), .val (.int vk), .val (.int (0 : Int32)), .val (.ref b127), .unset] [(.ref b127)])) (fun t k => XS.aload X138.here hx rfl (Jvm.hb hby at_89) rfl rfl k) ?_
  obtain ⟨cq139, kq139, q139a, q139b, q139c⟩ := isOf hZ e138 E_b127
  obtain ⟨_, _, ⟨T139, La139, ka139, na139⟩, -, X139, ⟨Lc139, hQ139, l139, y139, z139⟩, st139⟩ := X138.virtualBack hx (y := (⟨"com/example/term_unifier/termunifier/IntPairStack", "first", "()I"⟩ : MethodName)) (z := (⟨"com/example/term_unifier/termunifier/IntPairStack", "first", "()I"⟩ : MethodName)) hown (mvT hZ (own_w hw 60 rfl)) (mvT hZ (own_w hw 61 rfl)) (notFace_of_selects (args := #[]) (mvT hZ (own_w hw 63 rfl))) (mvT hZ (own_w hw 63 rfl)) (mvT hZ (own_w hw 62 rfl)) (by decide) (backOf (W := 0) (rm9 l Z a0 hw [] b127 b129 (0 : Int32) 0 (own_upd (own_upd (fun _ => 0) 0 p1) 1 p3) p1 T137.heap n0 Zs F_b127_firsts F_b127_top V_b129 (by decide) (by decide) (by decide) rfl) hZ (own_w hw 64 rfl) (own_w hw 2 rfl) (by decide) (by decide)) q139a q139c (g := (mkF m 91 #[.val (.int p1), .val (.int p2), .val (.int p3), .val (.int p4), .val (.int p5), .val (.int p6), .val (.int vk), .val (.int (0 : Int32)), .val (.ref b127), .unset] [(.ref b127)])) rfl (by rw [hml]; rfl) (Steps.refl _) (argsL := []) (rest := []) (lenOf pd_2 rfl) rfl (by show 2 * 0 + _ ≤ _; exact Nat.le_of_eq rfl) (Jvm.hb hby at_91) (fun _ _ => ⟨rfl, e138, (by decide : 6 + 0 ≤ _), (by decide : 73 + 0 ≤ _)⟩)
  dsimp only [Pt.U, Pt.locs, Pt.cells, Pt.slots] at X139 l139 y139 z139 st139 hQ139
  have y139 : ka139 = 6 := y139
  have z139 : na139 = 73 := z139
  subst y139 z139
  obtain ⟨rfl, N139q, e139⟩ := hQ139
  have N139 : Fr n0 La139 := by rw [l139]; exact Fr.app N138 N139q
  refine own_go (B := T139.setTop (mkF m 94 #[.val (.int p1), .val (.int p2), .val (.int p3), .val (.int p4), .val (.int p5), .val (.int p6), .val (.int vk), .val (.int (0 : Int32)), .val (.ref b127), .unset] [(.int p1)])) (fun t k => own_st st139 k) ?_
  refine own_go (B := T139.setTop (mkF m 95 #[.val (.int p1), .val (.int p2), .val (.int p3), .val (.int p4), .val (.int p5), .val (.int p6), .val (.int vk), .val (.int (0 : Int32)), .val (.ref b127), .unset] [(.int p1), (.int p1)])) (fun t k => XS.iloadN X139.here hx rfl (Jvm.hb hby at_94) rfl k) ?_
  refine own_go (B := T139.setTop (mkF m 98 #[.val (.int p1), .val (.int p2), .val (.int p3), .val (.int p4), .val (.int p5), .val (.int p6), .val (.int vk), .val (.int (0 : Int32)), .val (.ref b127), .unset] [])) (fun t k => XS.icmpNo X139.here hx rfl (Jvm.hb hby at_95) rfl (teq (rfl : p1 = p1)).2 k) ?_
  refine own_go (B := T139.setTop (mkF m 100 #[.val (.int p1), .val (.int p2), .val (.int p3), .val (.int p4), .val (.int p5), .val (.int p6), .val (.int vk), .val (.int (0 : Int32)), .val (.ref b127), .unset] [(.ref b127)])) (fun t k => XS.aload X139.here hx rfl (Jvm.hb hby at_98) rfl rfl k) ?_
  obtain ⟨cq140, kq140, q140a, q140b, q140c⟩ := isOf hZ e139 E_b127
  obtain ⟨_, _, ⟨T140, La140, ka140, na140⟩, -, X140, ⟨Lc140, hQ140, l140, y140, z140⟩, st140⟩ := X139.virtualBack hx (y := (⟨"com/example/term_unifier/termunifier/IntPairStack", "second", "()I"⟩ : MethodName)) (z := (⟨"com/example/term_unifier/termunifier/IntPairStack", "second", "()I"⟩ : MethodName)) hown (mvT hZ (own_w hw 65 rfl)) (mvT hZ (own_w hw 66 rfl)) (notFace_of_selects (args := #[]) (mvT hZ (own_w hw 68 rfl))) (mvT hZ (own_w hw 68 rfl)) (mvT hZ (own_w hw 67 rfl)) (by decide) (backOf (W := 0) (rm10 l Z a0 hw [] b127 b130 (0 : Int32) 0 (own_upd (own_upd (fun _ => 0) 0 p2) 1 p4) p2 T137.heap n0 Zs F_b127_seconds F_b127_top V_b130 (by decide) (by decide) (by decide) rfl) hZ (own_w hw 69 rfl) (own_w hw 2 rfl) (by decide) (by decide)) q140a q140c (g := (mkF m 100 #[.val (.int p1), .val (.int p2), .val (.int p3), .val (.int p4), .val (.int p5), .val (.int p6), .val (.int vk), .val (.int (0 : Int32)), .val (.ref b127), .unset] [(.ref b127)])) rfl (by rw [hml]; rfl) (Steps.refl _) (argsL := []) (rest := []) (lenOf pd_2 rfl) rfl (by show 2 * 0 + _ ≤ _; exact Nat.le_of_eq rfl) (Jvm.hb hby at_100) (fun _ _ => ⟨rfl, e139, (by decide : 6 + 0 ≤ _), (by decide : 73 + 0 ≤ _)⟩)
  dsimp only [Pt.U, Pt.locs, Pt.cells, Pt.slots] at X140 l140 y140 z140 st140 hQ140
  have y140 : ka140 = 6 := y140
  have z140 : na140 = 73 := z140
  subst y140 z140
  obtain ⟨rfl, N140q, e140⟩ := hQ140
  have N140 : Fr n0 La140 := by rw [l140]; exact Fr.app N139 N140q
  refine own_go (B := T140.setTop (mkF m 103 #[.val (.int p1), .val (.int p2), .val (.int p3), .val (.int p4), .val (.int p5), .val (.int p6), .val (.int vk), .val (.int (0 : Int32)), .val (.ref b127), .unset] [(.int p2)])) (fun t k => own_st st140 k) ?_
  refine own_go (B := T140.setTop (mkF m 104 #[.val (.int p1), .val (.int p2), .val (.int p3), .val (.int p4), .val (.int p5), .val (.int p6), .val (.int vk), .val (.int (0 : Int32)), .val (.ref b127), .unset] [(.int p2), (.int p2)])) (fun t k => XS.iloadN X140.here hx rfl (Jvm.hb hby at_103) rfl k) ?_
  refine own_go (B := T140.setTop (mkF m 107 #[.val (.int p1), .val (.int p2), .val (.int p3), .val (.int p4), .val (.int p5), .val (.int p6), .val (.int vk), .val (.int (0 : Int32)), .val (.ref b127), .unset] [])) (fun t k => XS.icmpNo X140.here hx rfl (Jvm.hb hby at_104) rfl (teq (rfl : p2 = p2)).2 k) ?_
  refine own_go (B := T140.setTop (mkF m 108 #[.val (.int p1), .val (.int p2), .val (.int p3), .val (.int p4), .val (.int p5), .val (.int p6), .val (.int vk), .val (.int (0 : Int32)), .val (.ref b127), .unset] [(.int (1 : Int32))])) (fun t k => XS.iconst X140.here hx rfl (Jvm.hb hby at_107) k) ?_
  refine own_go (B := T140.setTop (mkF m 112 #[.val (.int p1), .val (.int p2), .val (.int p3), .val (.int p4), .val (.int p5), .val (.int p6), .val (.int vk), .val (.int (0 : Int32)), .val (.ref b127), .unset] [(.int (1 : Int32))])) (fun t k => XS.goto X140.here hx rfl (pc0 := 108) (pc' := 112) rfl (Jvm.hb hby at_108) (by decide) (by decide) k) ?_
  refine own_go (B := T140.setTop (mkF m 114 #[.val (.int p1), .val (.int p2), .val (.int p3), .val (.int p4), .val (.int p5), .val (.int p6), .val (.int vk), .val (.int (0 : Int32)), .val (.ref b127), .val (.int (1 : Int32))] [])) (fun t k => XS.istore X140.here hx rfl (Jvm.hb hby at_112) rfl (l' := #[.val (.int p1), .val (.int p2), .val (.int p3), .val (.int p4), .val (.int p5), .val (.int p6), .val (.int vk), .val (.int (0 : Int32)), .val (.ref b127), .val (.int (1 : Int32))]) rfl k) ?_
  refine own_go (B := T140.setTop (mkF m 116 #[.val (.int p1), .val (.int p2), .val (.int p3), .val (.int p4), .val (.int p5), .val (.int p6), .val (.int vk), .val (.int (0 : Int32)), .val (.ref b127), .val (.int (1 : Int32))] [(.int (0 : Int32))])) (fun t k => XS.iload X140.here hx rfl (Jvm.hb hby at_114) rfl k) ?_
  refine own_go (B := T140.setTop (mkF m 144 #[.val (.int p1), .val (.int p2), .val (.int p3), .val (.int p4), .val (.int p5), .val (.int p6), .val (.int vk), .val (.int (0 : Int32)), .val (.ref b127), .val (.int (1 : Int32))] [])) (fun t k => XS.ifYes X140.here hx rfl (pc0 := 116) (pc' := 144) rfl (Jvm.hb hby at_116) rfl ((if0 _ _).trans (teq (by decide : (0 : Int32) = (0 : Int32))).1) (by decide) (by decide) k) ?_
  refine own_go (B := T140.setTop (mkF m 146 #[.val (.int p1), .val (.int p2), .val (.int p3), .val (.int p4), .val (.int p5), .val (.int p6), .val (.int vk), .val (.int (0 : Int32)), .val (.ref b127), .val (.int (1 : Int32))] [(.ref b127)])) (fun t k => XS.aload X140.here hx rfl (Jvm.hb hby at_144) rfl rfl k) ?_
  refine own_go (B := T140.setTop (mkF m 148 #[.val (.int p1), .val (.int p2), .val (.int p3), .val (.int p4), .val (.int p5), .val (.int p6), .val (.int vk), .val (.int (0 : Int32)), .val (.ref b127), .val (.int (1 : Int32))] [(.int p5), (.ref b127)])) (fun t k => XS.iload X140.here hx rfl (Jvm.hb hby at_146) rfl k) ?_
  refine own_go (B := T140.setTop (mkF m 150 #[.val (.int p1), .val (.int p2), .val (.int p3), .val (.int p4), .val (.int p5), .val (.int p6), .val (.int vk), .val (.int (0 : Int32)), .val (.ref b127), .val (.int (1 : Int32))] [(.int p5), (.int p5), (.ref b127)])) (fun t k => XS.iload X140.here hx rfl (Jvm.hb hby at_148) rfl k) ?_
  refine own_go (B := T140.setTop (mkF m 151 #[.val (.int p1), .val (.int p2), .val (.int p3), .val (.int p4), .val (.int p5), .val (.int p6), .val (.int vk), .val (.int (0 : Int32)), .val (.ref b127), .val (.int (1 : Int32))] [(.int (-1 : Int32)), (.int p5), (.int p5), (.ref b127)])) (fun t k => XS.iconst X140.here hx rfl (Jvm.hb hby at_150) k) ?_
  refine own_go (B := T140.setTop (mkF m 152 #[.val (.int p1), .val (.int p2), .val (.int p3), .val (.int p4), .val (.int p5), .val (.int p6), .val (.int vk), .val (.int (0 : Int32)), .val (.ref b127), .val (.int (1 : Int32))] [(.int (p5 ^^^ (-1 : Int32))), (.int p5), (.ref b127)])) (fun t k => XS.ixor X140.here hx rfl (Jvm.hb hby at_151) rfl k) ?_
  obtain ⟨cq141, kq141, q141a, q141b, q141c⟩ := isOf hZ e140 E_b127
  obtain ⟨_, _, ⟨T141, La141, ka141, na141⟩, -, X141, ⟨Lc141, hQ141, l141, y141, z141⟩, st141⟩ := X140.virtualBack hx (y := (⟨"com/example/term_unifier/termunifier/IntPairStack", "push", "(II)V"⟩ : MethodName)) (z := (⟨"com/example/term_unifier/termunifier/IntPairStack", "push", "(II)V"⟩ : MethodName)) hown (mvT hZ (own_w hw 29 rfl)) (mvT hZ (own_w hw 30 rfl)) (notFace_of_selects (args := #[]) (mvT hZ (own_w hw 32 rfl))) (mvT hZ (own_w hw 32 rfl)) (mvT hZ (own_w hw 31 rfl)) (by decide) (backOf (W := 0) (rm4 l Z a0 hw [] b127 p5 (p5 ^^^ (-1 : Int32)) b129 b130 b131 b132 (0 : Int32) (1 : Int32) (0 : Int32) (2 : Int32) 1 (own_upd (own_upd (fun _ => 0) 0 p1) 1 p3) (own_upd (own_upd (fun _ => 0) 0 p2) 1 p4) (own_upd (own_upd (fun _ => 0) 0 (-1 : Int32)) 1 (0 : Int32)) T137.heap n0 Zs E_b127 F_b127_firsts F_b127_seconds F_b127_below F_b127_top F_b127_used F_b127_kept F_b127_marks V_b129 V_b130 V_b131 g_b127 g_b129 g_b130 g_b131 ne_b127_b129 ne_b127_b130 ne_b127_b131 ne_b129_b130 ne_b129_b131 ne_b130_b131 (by decide) (by decide) (by decide) (by decide) (by decide)) hZ (own_w hw 33 rfl) (own_w hw 2 rfl) (by decide) (by decide)) q141a q141c (g := (mkF m 152 #[.val (.int p1), .val (.int p2), .val (.int p3), .val (.int p4), .val (.int p5), .val (.int p6), .val (.int vk), .val (.int (0 : Int32)), .val (.ref b127), .val (.int (1 : Int32))] [(.int (p5 ^^^ (-1 : Int32))), (.int p5), (.ref b127)])) rfl (by rw [hml]; rfl) (Steps.refl _) (argsL := [(.int p5), (.int (p5 ^^^ (-1 : Int32)))]) (rest := []) (lenOf pd_3 rfl) rfl (by show 2 * 0 + _ ≤ _; exact Nat.le_of_eq rfl) (Jvm.hb hby at_152) (fun _ _ => ⟨rfl, e140, (by decide : 6 + 0 ≤ _), (by decide : 73 + 0 ≤ _)⟩)
  dsimp only [Pt.U, Pt.locs, Pt.cells, Pt.slots] at X141 l141 y141 z141 st141 hQ141
  have y141 : ka141 = 6 := y141
  have z141 : na141 = 73 := z141
  subst y141 z141
  obtain ⟨rfl, N141q, Kc141, E_b127_q, F_b127_firsts_q, F_b127_seconds_q, F_b127_below_q, F_b127_top_q, F_b127_used_q, F_b127_kept_q, F_b127_marks_q, V_b129_q, V_b130_q, V_b131_q⟩ := hQ141
  have N141 : Fr n0 La141 := by rw [l141]; exact Fr.app N140 N141q
  have E_b132 := E_b132.keep Kc141
  have F_b132_items := F_b132_items.keep Kc141 (ninS (Ne.symm ne_b127_b132) (ninS (Ne.symm ne_b129_b132) (ninS (Ne.symm ne_b130_b132) (ninS (Ne.symm ne_b131_b132) nin0))))
  have F_b132_size := F_b132_size.keep Kc141 (ninS (Ne.symm ne_b127_b132) (ninS (Ne.symm ne_b129_b132) (ninS (Ne.symm ne_b130_b132) (ninS (Ne.symm ne_b131_b132) nin0))))
  have V_b133 := V_b133.keep Kc141 (ninS (Ne.symm ne_b127_b133) (ninS (Ne.symm ne_b129_b133) (ninS (Ne.symm ne_b130_b133) (ninS (Ne.symm ne_b131_b133) nin0))))
  have Zs := Nat.le_trans Zs Kc141.1
  have E_b127 := E_b127_q
  have F_b127_firsts := F_b127_firsts_q
  have F_b127_seconds := F_b127_seconds_q
  have F_b127_below := F_b127_below_q
  have F_b127_top := F_b127_top_q
  have F_b127_used := F_b127_used_q
  have F_b127_kept := F_b127_kept_q
  have F_b127_marks := F_b127_marks_q
  have V_b129 := V_b129_q
  have V_b130 := V_b130_q
  have V_b131 := V_b131_q
  refine own_go (B := T141.setTop (mkF m 155 #[.val (.int p1), .val (.int p2), .val (.int p3), .val (.int p4), .val (.int p5), .val (.int p6), .val (.int vk), .val (.int (0 : Int32)), .val (.ref b127), .val (.int (1 : Int32))] [])) (fun t k => own_st st141 k) ?_
  refine own_go (B := T141.setTop (mkF m 157 #[.val (.int p1), .val (.int p2), .val (.int p3), .val (.int p4), .val (.int p5), .val (.int p6), .val (.int vk), .val (.int (0 : Int32)), .val (.ref b127), .val (.int (1 : Int32))] [(.int (1 : Int32))])) (fun t k => XS.iload X141.here hx rfl (Jvm.hb hby at_155) rfl k) ?_
  refine own_go (B := T141.setTop (mkF m 160 #[.val (.int p1), .val (.int p2), .val (.int p3), .val (.int p4), .val (.int p5), .val (.int p6), .val (.int vk), .val (.int (0 : Int32)), .val (.ref b127), .val (.int (1 : Int32))] [])) (fun t k => XS.ifNo X141.here hx rfl (Jvm.hb hby at_157) rfl ((if0 _ _).trans (feq (by decide : ¬ ((1 : Int32) = (0 : Int32)))).1) k) ?_
  refine own_go (B := T141.setTop (mkF m 162 #[.val (.int p1), .val (.int p2), .val (.int p3), .val (.int p4), .val (.int p5), .val (.int p6), .val (.int vk), .val (.int (0 : Int32)), .val (.ref b127), .val (.int (1 : Int32))] [(.ref b127)])) (fun t k => XS.aload X141.here hx rfl (Jvm.hb hby at_160) rfl rfl k) ?_
  obtain ⟨cq142, kq142, q142a, q142b, q142c⟩ := isOf hZ rfl E_b127
  obtain ⟨_, _, ⟨T142, La142, ka142, na142⟩, -, X142, ⟨Lc142, hQ142, l142, y142, z142⟩, st142⟩ := X141.virtualBack hx (y := (⟨"com/example/term_unifier/termunifier/IntPairStack", "isEmpty", "()Z"⟩ : MethodName)) (z := (⟨"com/example/term_unifier/termunifier/IntPairStack", "isEmpty", "()Z"⟩ : MethodName)) hown (mvT hZ (own_w hw 55 rfl)) (mvT hZ (own_w hw 56 rfl)) (notFace_of_selects (args := #[]) (mvT hZ (own_w hw 58 rfl))) (mvT hZ (own_w hw 58 rfl)) (mvT hZ (own_w hw 57 rfl)) (by decide) (backOf (W := 0) (rm8 l Z a0 hw [] b127 (1 : Int32) (0 : Int32) T141.heap n0 Zs F_b127_top (by decide)) hZ (own_w hw 59 rfl) (own_w hw 2 rfl) (by decide) (by decide)) q142a q142c (g := (mkF m 162 #[.val (.int p1), .val (.int p2), .val (.int p3), .val (.int p4), .val (.int p5), .val (.int p6), .val (.int vk), .val (.int (0 : Int32)), .val (.ref b127), .val (.int (1 : Int32))] [(.ref b127)])) rfl (by rw [hml]; rfl) (Steps.refl _) (argsL := []) (rest := []) (lenOf pd_4 rfl) rfl (by show 2 * 0 + _ ≤ _; exact Nat.le_of_eq rfl) (Jvm.hb hby at_162) (fun _ _ => ⟨rfl, rfl, (by decide : 6 + 0 ≤ _), (by decide : 73 + 0 ≤ _)⟩)
  dsimp only [Pt.U, Pt.locs, Pt.cells, Pt.slots] at X142 l142 y142 z142 st142 hQ142
  have y142 : ka142 = 6 := y142
  have z142 : na142 = 73 := z142
  subst y142 z142
  obtain ⟨rfl, N142q, e142⟩ := hQ142
  have N142 : Fr n0 La142 := by rw [l142]; exact Fr.app N141 N142q
  refine own_go (B := T142.setTop (mkF m 165 #[.val (.int p1), .val (.int p2), .val (.int p3), .val (.int p4), .val (.int p5), .val (.int p6), .val (.int vk), .val (.int (0 : Int32)), .val (.ref b127), .val (.int (1 : Int32))] [(.int (0 : Int32))])) (fun t k => own_st st142 k) ?_
  refine own_go (B := T142.setTop (mkF m 168 #[.val (.int p1), .val (.int p2), .val (.int p3), .val (.int p4), .val (.int p5), .val (.int p6), .val (.int vk), .val (.int (0 : Int32)), .val (.ref b127), .val (.int (1 : Int32))] [])) (fun t k => XS.ifNo X142.here hx rfl (Jvm.hb hby at_165) rfl ((if0 _ _).trans (teq (by decide : (0 : Int32) = (0 : Int32))).2) k) ?_
  refine own_go (B := T142.setTop (mkF m 170 #[.val (.int p1), .val (.int p2), .val (.int p3), .val (.int p4), .val (.int p5), .val (.int p6), .val (.int vk), .val (.int (0 : Int32)), .val (.ref b127), .val (.int (1 : Int32))] [(.ref b127)])) (fun t k => XS.aload X142.here hx rfl (Jvm.hb hby at_168) rfl rfl k) ?_
  obtain ⟨cq143, kq143, q143a, q143b, q143c⟩ := isOf hZ e142 E_b127
  obtain ⟨_, _, ⟨T143, La143, ka143, na143⟩, -, X143, ⟨Lc143, hQ143, l143, y143, z143⟩, st143⟩ := X142.virtualBack hx (y := (⟨"com/example/term_unifier/termunifier/IntPairStack", "first", "()I"⟩ : MethodName)) (z := (⟨"com/example/term_unifier/termunifier/IntPairStack", "first", "()I"⟩ : MethodName)) hown (mvT hZ (own_w hw 60 rfl)) (mvT hZ (own_w hw 61 rfl)) (notFace_of_selects (args := #[]) (mvT hZ (own_w hw 63 rfl))) (mvT hZ (own_w hw 63 rfl)) (mvT hZ (own_w hw 62 rfl)) (by decide) (backOf (W := 0) (rm9 l Z a0 hw [] b127 b129 (1 : Int32) 1 (own_upd (own_upd (own_upd (fun _ => 0) 0 p1) 1 p3) 1 p5) p5 T141.heap n0 Zs F_b127_firsts F_b127_top V_b129 (by decide) (by decide) (by decide) rfl) hZ (own_w hw 64 rfl) (own_w hw 2 rfl) (by decide) (by decide)) q143a q143c (g := (mkF m 170 #[.val (.int p1), .val (.int p2), .val (.int p3), .val (.int p4), .val (.int p5), .val (.int p6), .val (.int vk), .val (.int (0 : Int32)), .val (.ref b127), .val (.int (1 : Int32))] [(.ref b127)])) rfl (by rw [hml]; rfl) (Steps.refl _) (argsL := []) (rest := []) (lenOf pd_2 rfl) rfl (by show 2 * 0 + _ ≤ _; exact Nat.le_of_eq rfl) (Jvm.hb hby at_170) (fun _ _ => ⟨rfl, e142, (by decide : 6 + 0 ≤ _), (by decide : 73 + 0 ≤ _)⟩)
  dsimp only [Pt.U, Pt.locs, Pt.cells, Pt.slots] at X143 l143 y143 z143 st143 hQ143
  have y143 : ka143 = 6 := y143
  have z143 : na143 = 73 := z143
  subst y143 z143
  obtain ⟨rfl, N143q, e143⟩ := hQ143
  have N143 : Fr n0 La143 := by rw [l143]; exact Fr.app N142 N143q
  refine own_go (B := T143.setTop (mkF m 173 #[.val (.int p1), .val (.int p2), .val (.int p3), .val (.int p4), .val (.int p5), .val (.int p6), .val (.int vk), .val (.int (0 : Int32)), .val (.ref b127), .val (.int (1 : Int32))] [(.int p5)])) (fun t k => own_st st143 k) ?_
  refine own_go (B := T143.setTop (mkF m 175 #[.val (.int p1), .val (.int p2), .val (.int p3), .val (.int p4), .val (.int p5), .val (.int p6), .val (.int vk), .val (.int (0 : Int32)), .val (.ref b127), .val (.int (1 : Int32))] [(.int p5), (.int p5)])) (fun t k => XS.iload X143.here hx rfl (Jvm.hb hby at_173) rfl k) ?_
  refine own_go (B := T143.setTop (mkF m 178 #[.val (.int p1), .val (.int p2), .val (.int p3), .val (.int p4), .val (.int p5), .val (.int p6), .val (.int vk), .val (.int (0 : Int32)), .val (.ref b127), .val (.int (1 : Int32))] [])) (fun t k => XS.icmpNo X143.here hx rfl (Jvm.hb hby at_175) rfl (teq (rfl : p5 = p5)).2 k) ?_
  refine own_go (B := T143.setTop (mkF m 180 #[.val (.int p1), .val (.int p2), .val (.int p3), .val (.int p4), .val (.int p5), .val (.int p6), .val (.int vk), .val (.int (0 : Int32)), .val (.ref b127), .val (.int (1 : Int32))] [(.ref b127)])) (fun t k => XS.aload X143.here hx rfl (Jvm.hb hby at_178) rfl rfl k) ?_
  obtain ⟨cq144, kq144, q144a, q144b, q144c⟩ := isOf hZ e143 E_b127
  obtain ⟨_, _, ⟨T144, La144, ka144, na144⟩, -, X144, ⟨Lc144, hQ144, l144, y144, z144⟩, st144⟩ := X143.virtualBack hx (y := (⟨"com/example/term_unifier/termunifier/IntPairStack", "second", "()I"⟩ : MethodName)) (z := (⟨"com/example/term_unifier/termunifier/IntPairStack", "second", "()I"⟩ : MethodName)) hown (mvT hZ (own_w hw 65 rfl)) (mvT hZ (own_w hw 66 rfl)) (notFace_of_selects (args := #[]) (mvT hZ (own_w hw 68 rfl))) (mvT hZ (own_w hw 68 rfl)) (mvT hZ (own_w hw 67 rfl)) (by decide) (backOf (W := 0) (rm10 l Z a0 hw [] b127 b130 (1 : Int32) 1 (own_upd (own_upd (own_upd (fun _ => 0) 0 p2) 1 p4) 1 (p5 ^^^ (-1 : Int32))) (p5 ^^^ (-1 : Int32)) T141.heap n0 Zs F_b127_seconds F_b127_top V_b130 (by decide) (by decide) (by decide) rfl) hZ (own_w hw 69 rfl) (own_w hw 2 rfl) (by decide) (by decide)) q144a q144c (g := (mkF m 180 #[.val (.int p1), .val (.int p2), .val (.int p3), .val (.int p4), .val (.int p5), .val (.int p6), .val (.int vk), .val (.int (0 : Int32)), .val (.ref b127), .val (.int (1 : Int32))] [(.ref b127)])) rfl (by rw [hml]; rfl) (Steps.refl _) (argsL := []) (rest := []) (lenOf pd_2 rfl) rfl (by show 2 * 0 + _ ≤ _; exact Nat.le_of_eq rfl) (Jvm.hb hby at_180) (fun _ _ => ⟨rfl, e143, (by decide : 6 + 0 ≤ _), (by decide : 73 + 0 ≤ _)⟩)
  dsimp only [Pt.U, Pt.locs, Pt.cells, Pt.slots] at X144 l144 y144 z144 st144 hQ144
  have y144 : ka144 = 6 := y144
  have z144 : na144 = 73 := z144
  subst y144 z144
  obtain ⟨rfl, N144q, e144⟩ := hQ144
  have N144 : Fr n0 La144 := by rw [l144]; exact Fr.app N143 N144q
  refine own_go (B := T144.setTop (mkF m 183 #[.val (.int p1), .val (.int p2), .val (.int p3), .val (.int p4), .val (.int p5), .val (.int p6), .val (.int vk), .val (.int (0 : Int32)), .val (.ref b127), .val (.int (1 : Int32))] [(.int (p5 ^^^ (-1 : Int32)))])) (fun t k => own_st st144 k) ?_
  refine own_go (B := T144.setTop (mkF m 185 #[.val (.int p1), .val (.int p2), .val (.int p3), .val (.int p4), .val (.int p5), .val (.int p6), .val (.int vk), .val (.int (0 : Int32)), .val (.ref b127), .val (.int (1 : Int32))] [(.int p5), (.int (p5 ^^^ (-1 : Int32)))])) (fun t k => XS.iload X144.here hx rfl (Jvm.hb hby at_183) rfl k) ?_
  refine own_go (B := T144.setTop (mkF m 186 #[.val (.int p1), .val (.int p2), .val (.int p3), .val (.int p4), .val (.int p5), .val (.int p6), .val (.int vk), .val (.int (0 : Int32)), .val (.ref b127), .val (.int (1 : Int32))] [(.int (-1 : Int32)), (.int p5), (.int (p5 ^^^ (-1 : Int32)))])) (fun t k => XS.iconst X144.here hx rfl (Jvm.hb hby at_185) k) ?_
  refine own_go (B := T144.setTop (mkF m 187 #[.val (.int p1), .val (.int p2), .val (.int p3), .val (.int p4), .val (.int p5), .val (.int p6), .val (.int vk), .val (.int (0 : Int32)), .val (.ref b127), .val (.int (1 : Int32))] [(.int (p5 ^^^ (-1 : Int32))), (.int (p5 ^^^ (-1 : Int32)))])) (fun t k => XS.ixor X144.here hx rfl (Jvm.hb hby at_186) rfl k) ?_
  refine own_go (B := T144.setTop (mkF m 190 #[.val (.int p1), .val (.int p2), .val (.int p3), .val (.int p4), .val (.int p5), .val (.int p6), .val (.int vk), .val (.int (0 : Int32)), .val (.ref b127), .val (.int (1 : Int32))] [])) (fun t k => XS.icmpNo X144.here hx rfl (Jvm.hb hby at_187) rfl (teq (rfl : (p5 ^^^ (-1 : Int32)) = (p5 ^^^ (-1 : Int32)))).2 k) ?_
  refine own_go (B := T144.setTop (mkF m 191 #[.val (.int p1), .val (.int p2), .val (.int p3), .val (.int p4), .val (.int p5), .val (.int p6), .val (.int vk), .val (.int (0 : Int32)), .val (.ref b127), .val (.int (1 : Int32))] [(.int (1 : Int32))])) (fun t k => XS.iconst X144.here hx rfl (Jvm.hb hby at_190) k) ?_
  refine own_go (B := T144.setTop (mkF m 195 #[.val (.int p1), .val (.int p2), .val (.int p3), .val (.int p4), .val (.int p5), .val (.int p6), .val (.int vk), .val (.int (0 : Int32)), .val (.ref b127), .val (.int (1 : Int32))] [(.int (1 : Int32))])) (fun t k => XS.goto X144.here hx rfl (pc0 := 191) (pc' := 195) rfl (Jvm.hb hby at_191) (by decide) (by decide) k) ?_
  refine own_go (B := T144.setTop (mkF m 197 #[.val (.int p1), .val (.int p2), .val (.int p3), .val (.int p4), .val (.int p5), .val (.int p6), .val (.int vk), .val (.int (0 : Int32)), .val (.ref b127), .val (.int (1 : Int32))] [])) (fun t k => XS.istore X144.here hx rfl (Jvm.hb hby at_195) rfl (l' := #[.val (.int p1), .val (.int p2), .val (.int p3), .val (.int p4), .val (.int p5), .val (.int p6), .val (.int vk), .val (.int (0 : Int32)), .val (.ref b127), .val (.int (1 : Int32))]) rfl k) ?_
  refine own_go (B := T144.setTop (mkF m 199 #[.val (.int p1), .val (.int p2), .val (.int p3), .val (.int p4), .val (.int p5), .val (.int p6), .val (.int vk), .val (.int (0 : Int32)), .val (.ref b127), .val (.int (1 : Int32))] [(.ref b127)])) (fun t k => XS.aload X144.here hx rfl (Jvm.hb hby at_197) rfl rfl k) ?_
  obtain ⟨cq145, kq145, q145a, q145b, q145c⟩ := isOf hZ e144 E_b127
  obtain ⟨_, _, ⟨T145, La145, ka145, na145⟩, -, X145, ⟨Lc145, hQ145, l145, y145, z145⟩, st145⟩ := X144.virtualBack hx (y := (⟨"com/example/term_unifier/termunifier/IntPairStack", "pop", "()V"⟩ : MethodName)) (z := (⟨"com/example/term_unifier/termunifier/IntPairStack", "pop", "()V"⟩ : MethodName)) hown (mvT hZ (own_w hw 50 rfl)) (mvT hZ (own_w hw 51 rfl)) (notFace_of_selects (args := #[]) (mvT hZ (own_w hw 53 rfl))) (mvT hZ (own_w hw 53 rfl)) (mvT hZ (own_w hw 52 rfl)) (by decide) (backOf (W := 0) (rm_popd l Z a0 hw [] b127 b129 b130 b131 b132 (1 : Int32) (2 : Int32) (0 : Int32) (0 : Int32) (1 : Int32) 1 (own_upd (own_upd (own_upd (fun _ => 0) 0 (-1 : Int32)) 1 (0 : Int32)) 1 (0 : Int32)) T141.heap n0 Zs E_b127 F_b127_firsts F_b127_seconds F_b127_below F_b127_top F_b127_used F_b127_kept F_b127_marks V_b131 g_b127 ne_b127_b131 (by decide) (by decide) (by decide) rfl (by decide) (by decide) (by decide)) hZ (own_w hw 54 rfl) (own_w hw 2 rfl) (by decide) (by decide)) q145a q145c (g := (mkF m 199 #[.val (.int p1), .val (.int p2), .val (.int p3), .val (.int p4), .val (.int p5), .val (.int p6), .val (.int vk), .val (.int (0 : Int32)), .val (.ref b127), .val (.int (1 : Int32))] [(.ref b127)])) rfl (by rw [hml]; rfl) (Steps.refl _) (argsL := []) (rest := []) (lenOf pd_0 rfl) rfl (by show 2 * 0 + _ ≤ _; exact Nat.le_of_eq rfl) (Jvm.hb hby at_199) (fun _ _ => ⟨rfl, e144, (by decide : 6 + 0 ≤ _), (by decide : 73 + 0 ≤ _)⟩)
  dsimp only [Pt.U, Pt.locs, Pt.cells, Pt.slots] at X145 l145 y145 z145 st145 hQ145
  have y145 : ka145 = 6 := y145
  have z145 : na145 = 73 := z145
  subst y145 z145
  obtain ⟨rfl, N145q, Kc145, E_b127_q, F_b127_firsts_q, F_b127_seconds_q, F_b127_below_q, F_b127_top_q, F_b127_used_q, F_b127_kept_q, F_b127_marks_q⟩ := hQ145
  have N145 : Fr n0 La145 := by rw [l145]; exact Fr.app N144 N145q
  have E_b132 := E_b132.keep Kc145
  have F_b132_items := F_b132_items.keep Kc145 (ninS (Ne.symm ne_b127_b132) nin0)
  have F_b132_size := F_b132_size.keep Kc145 (ninS (Ne.symm ne_b127_b132) nin0)
  have V_b133 := V_b133.keep Kc145 (ninS (Ne.symm ne_b127_b133) nin0)
  have V_b129 := V_b129.keep Kc145 (ninS (Ne.symm ne_b127_b129) nin0)
  have V_b130 := V_b130.keep Kc145 (ninS (Ne.symm ne_b127_b130) nin0)
  have V_b131 := V_b131.keep Kc145 (ninS (Ne.symm ne_b127_b131) nin0)
  have Zs := Nat.le_trans Zs Kc145.1
  have E_b127 := E_b127_q
  have F_b127_firsts := F_b127_firsts_q
  have F_b127_seconds := F_b127_seconds_q
  have F_b127_below := F_b127_below_q
  have F_b127_top := F_b127_top_q
  have F_b127_used := F_b127_used_q
  have F_b127_kept := F_b127_kept_q
  have F_b127_marks := F_b127_marks_q
  refine own_go (B := T145.setTop (mkF m 202 #[.val (.int p1), .val (.int p2), .val (.int p3), .val (.int p4), .val (.int p5), .val (.int p6), .val (.int vk), .val (.int (0 : Int32)), .val (.ref b127), .val (.int (1 : Int32))] [])) (fun t k => own_st st145 k) ?_
  refine own_go (B := T145.setTop (mkF m 204 #[.val (.int p1), .val (.int p2), .val (.int p3), .val (.int p4), .val (.int p5), .val (.int p6), .val (.int vk), .val (.int (0 : Int32)), .val (.ref b127), .val (.int (1 : Int32))] [(.int (0 : Int32))])) (fun t k => XS.iload X145.here hx rfl (Jvm.hb hby at_202) rfl k) ?_
  refine own_go (B := T145.setTop (mkF m 230 #[.val (.int p1), .val (.int p2), .val (.int p3), .val (.int p4), .val (.int p5), .val (.int p6), .val (.int vk), .val (.int (0 : Int32)), .val (.ref b127), .val (.int (1 : Int32))] [])) (fun t k => XS.ifYes X145.here hx rfl (pc0 := 204) (pc' := 230) rfl (Jvm.hb hby at_204) rfl ((if0 _ _).trans (teq (by decide : (0 : Int32) = (0 : Int32))).1) (by decide) (by decide) k) ?_
  refine own_go (B := T145.setTop (mkF m 232 #[.val (.int p1), .val (.int p2), .val (.int p3), .val (.int p4), .val (.int p5), .val (.int p6), .val (.int vk), .val (.int (0 : Int32)), .val (.ref b127), .val (.int (1 : Int32))] [(.int (1 : Int32))])) (fun t k => XS.iload X145.here hx rfl (Jvm.hb hby at_230) rfl k) ?_
  refine own_go (B := T145.setTop (mkF m 235 #[.val (.int p1), .val (.int p2), .val (.int p3), .val (.int p4), .val (.int p5), .val (.int p6), .val (.int vk), .val (.int (0 : Int32)), .val (.ref b127), .val (.int (1 : Int32))] [])) (fun t k => XS.ifNo X145.here hx rfl (Jvm.hb hby at_232) rfl ((if0 _ _).trans (feq (by decide : ¬ ((1 : Int32) = (0 : Int32)))).1) k) ?_
  refine own_go (B := T145.setTop (mkF m 237 #[.val (.int p1), .val (.int p2), .val (.int p3), .val (.int p4), .val (.int p5), .val (.int p6), .val (.int vk), .val (.int (0 : Int32)), .val (.ref b127), .val (.int (1 : Int32))] [(.ref b127)])) (fun t k => XS.aload X145.here hx rfl (Jvm.hb hby at_235) rfl rfl k) ?_
  obtain ⟨cq146, kq146, q146a, q146b, q146c⟩ := isOf hZ rfl E_b127
  obtain ⟨_, _, ⟨T146, La146, ka146, na146⟩, -, X146, ⟨Lc146, hQ146, l146, y146, z146⟩, st146⟩ := X145.virtualBack hx (y := (⟨"com/example/term_unifier/termunifier/IntPairStack", "isEmpty", "()Z"⟩ : MethodName)) (z := (⟨"com/example/term_unifier/termunifier/IntPairStack", "isEmpty", "()Z"⟩ : MethodName)) hown (mvT hZ (own_w hw 55 rfl)) (mvT hZ (own_w hw 56 rfl)) (notFace_of_selects (args := #[]) (mvT hZ (own_w hw 58 rfl))) (mvT hZ (own_w hw 58 rfl)) (mvT hZ (own_w hw 57 rfl)) (by decide) (backOf (W := 0) (rm8 l Z a0 hw [] b127 (0 : Int32) (0 : Int32) T145.heap n0 Zs F_b127_top (by decide)) hZ (own_w hw 59 rfl) (own_w hw 2 rfl) (by decide) (by decide)) q146a q146c (g := (mkF m 237 #[.val (.int p1), .val (.int p2), .val (.int p3), .val (.int p4), .val (.int p5), .val (.int p6), .val (.int vk), .val (.int (0 : Int32)), .val (.ref b127), .val (.int (1 : Int32))] [(.ref b127)])) rfl (by rw [hml]; rfl) (Steps.refl _) (argsL := []) (rest := []) (lenOf pd_4 rfl) rfl (by show 2 * 0 + _ ≤ _; exact Nat.le_of_eq rfl) (Jvm.hb hby at_237) (fun _ _ => ⟨rfl, rfl, (by decide : 6 + 0 ≤ _), (by decide : 73 + 0 ≤ _)⟩)
  dsimp only [Pt.U, Pt.locs, Pt.cells, Pt.slots] at X146 l146 y146 z146 st146 hQ146
  have y146 : ka146 = 6 := y146
  have z146 : na146 = 73 := z146
  subst y146 z146
  obtain ⟨rfl, N146q, e146⟩ := hQ146
  have N146 : Fr n0 La146 := by rw [l146]; exact Fr.app N145 N146q
  refine own_go (B := T146.setTop (mkF m 240 #[.val (.int p1), .val (.int p2), .val (.int p3), .val (.int p4), .val (.int p5), .val (.int p6), .val (.int vk), .val (.int (0 : Int32)), .val (.ref b127), .val (.int (1 : Int32))] [(.int (0 : Int32))])) (fun t k => own_st st146 k) ?_
  refine own_go (B := T146.setTop (mkF m 243 #[.val (.int p1), .val (.int p2), .val (.int p3), .val (.int p4), .val (.int p5), .val (.int p6), .val (.int vk), .val (.int (0 : Int32)), .val (.ref b127), .val (.int (1 : Int32))] [])) (fun t k => XS.ifNo X146.here hx rfl (Jvm.hb hby at_240) rfl ((if0 _ _).trans (teq (by decide : (0 : Int32) = (0 : Int32))).2) k) ?_
  refine own_go (B := T146.setTop (mkF m 245 #[.val (.int p1), .val (.int p2), .val (.int p3), .val (.int p4), .val (.int p5), .val (.int p6), .val (.int vk), .val (.int (0 : Int32)), .val (.ref b127), .val (.int (1 : Int32))] [(.ref b127)])) (fun t k => XS.aload X146.here hx rfl (Jvm.hb hby at_243) rfl rfl k) ?_
  obtain ⟨cq147, kq147, q147a, q147b, q147c⟩ := isOf hZ e146 E_b127
  obtain ⟨_, _, ⟨T147, La147, ka147, na147⟩, -, X147, ⟨Lc147, hQ147, l147, y147, z147⟩, st147⟩ := X146.virtualBack hx (y := (⟨"com/example/term_unifier/termunifier/IntPairStack", "first", "()I"⟩ : MethodName)) (z := (⟨"com/example/term_unifier/termunifier/IntPairStack", "first", "()I"⟩ : MethodName)) hown (mvT hZ (own_w hw 60 rfl)) (mvT hZ (own_w hw 61 rfl)) (notFace_of_selects (args := #[]) (mvT hZ (own_w hw 63 rfl))) (mvT hZ (own_w hw 63 rfl)) (mvT hZ (own_w hw 62 rfl)) (by decide) (backOf (W := 0) (rm9 l Z a0 hw [] b127 b129 (0 : Int32) 0 (own_upd (own_upd (own_upd (fun _ => 0) 0 p1) 1 p3) 1 p5) p1 T145.heap n0 Zs F_b127_firsts F_b127_top V_b129 (by decide) (by decide) (by decide) rfl) hZ (own_w hw 64 rfl) (own_w hw 2 rfl) (by decide) (by decide)) q147a q147c (g := (mkF m 245 #[.val (.int p1), .val (.int p2), .val (.int p3), .val (.int p4), .val (.int p5), .val (.int p6), .val (.int vk), .val (.int (0 : Int32)), .val (.ref b127), .val (.int (1 : Int32))] [(.ref b127)])) rfl (by rw [hml]; rfl) (Steps.refl _) (argsL := []) (rest := []) (lenOf pd_2 rfl) rfl (by show 2 * 0 + _ ≤ _; exact Nat.le_of_eq rfl) (Jvm.hb hby at_245) (fun _ _ => ⟨rfl, e146, (by decide : 6 + 0 ≤ _), (by decide : 73 + 0 ≤ _)⟩)
  dsimp only [Pt.U, Pt.locs, Pt.cells, Pt.slots] at X147 l147 y147 z147 st147 hQ147
  have y147 : ka147 = 6 := y147
  have z147 : na147 = 73 := z147
  subst y147 z147
  obtain ⟨rfl, N147q, e147⟩ := hQ147
  have N147 : Fr n0 La147 := by rw [l147]; exact Fr.app N146 N147q
  refine own_go (B := T147.setTop (mkF m 248 #[.val (.int p1), .val (.int p2), .val (.int p3), .val (.int p4), .val (.int p5), .val (.int p6), .val (.int vk), .val (.int (0 : Int32)), .val (.ref b127), .val (.int (1 : Int32))] [(.int p1)])) (fun t k => own_st st147 k) ?_
  refine own_go (B := T147.setTop (mkF m 249 #[.val (.int p1), .val (.int p2), .val (.int p3), .val (.int p4), .val (.int p5), .val (.int p6), .val (.int vk), .val (.int (0 : Int32)), .val (.ref b127), .val (.int (1 : Int32))] [(.int p1), (.int p1)])) (fun t k => XS.iloadN X147.here hx rfl (Jvm.hb hby at_248) rfl k) ?_
  refine own_go (B := T147.setTop (mkF m 252 #[.val (.int p1), .val (.int p2), .val (.int p3), .val (.int p4), .val (.int p5), .val (.int p6), .val (.int vk), .val (.int (0 : Int32)), .val (.ref b127), .val (.int (1 : Int32))] [])) (fun t k => XS.icmpNo X147.here hx rfl (Jvm.hb hby at_249) rfl (teq (rfl : p1 = p1)).2 k) ?_
  refine own_go (B := T147.setTop (mkF m 254 #[.val (.int p1), .val (.int p2), .val (.int p3), .val (.int p4), .val (.int p5), .val (.int p6), .val (.int vk), .val (.int (0 : Int32)), .val (.ref b127), .val (.int (1 : Int32))] [(.ref b127)])) (fun t k => XS.aload X147.here hx rfl (Jvm.hb hby at_252) rfl rfl k) ?_
  obtain ⟨cq148, kq148, q148a, q148b, q148c⟩ := isOf hZ e147 E_b127
  obtain ⟨_, _, ⟨T148, La148, ka148, na148⟩, -, X148, ⟨Lc148, hQ148, l148, y148, z148⟩, st148⟩ := X147.virtualBack hx (y := (⟨"com/example/term_unifier/termunifier/IntPairStack", "second", "()I"⟩ : MethodName)) (z := (⟨"com/example/term_unifier/termunifier/IntPairStack", "second", "()I"⟩ : MethodName)) hown (mvT hZ (own_w hw 65 rfl)) (mvT hZ (own_w hw 66 rfl)) (notFace_of_selects (args := #[]) (mvT hZ (own_w hw 68 rfl))) (mvT hZ (own_w hw 68 rfl)) (mvT hZ (own_w hw 67 rfl)) (by decide) (backOf (W := 0) (rm10 l Z a0 hw [] b127 b130 (0 : Int32) 0 (own_upd (own_upd (own_upd (fun _ => 0) 0 p2) 1 p4) 1 (p5 ^^^ (-1 : Int32))) p2 T145.heap n0 Zs F_b127_seconds F_b127_top V_b130 (by decide) (by decide) (by decide) rfl) hZ (own_w hw 69 rfl) (own_w hw 2 rfl) (by decide) (by decide)) q148a q148c (g := (mkF m 254 #[.val (.int p1), .val (.int p2), .val (.int p3), .val (.int p4), .val (.int p5), .val (.int p6), .val (.int vk), .val (.int (0 : Int32)), .val (.ref b127), .val (.int (1 : Int32))] [(.ref b127)])) rfl (by rw [hml]; rfl) (Steps.refl _) (argsL := []) (rest := []) (lenOf pd_2 rfl) rfl (by show 2 * 0 + _ ≤ _; exact Nat.le_of_eq rfl) (Jvm.hb hby at_254) (fun _ _ => ⟨rfl, e147, (by decide : 6 + 0 ≤ _), (by decide : 73 + 0 ≤ _)⟩)
  dsimp only [Pt.U, Pt.locs, Pt.cells, Pt.slots] at X148 l148 y148 z148 st148 hQ148
  have y148 : ka148 = 6 := y148
  have z148 : na148 = 73 := z148
  subst y148 z148
  obtain ⟨rfl, N148q, e148⟩ := hQ148
  have N148 : Fr n0 La148 := by rw [l148]; exact Fr.app N147 N148q
  refine own_go (B := T148.setTop (mkF m 257 #[.val (.int p1), .val (.int p2), .val (.int p3), .val (.int p4), .val (.int p5), .val (.int p6), .val (.int vk), .val (.int (0 : Int32)), .val (.ref b127), .val (.int (1 : Int32))] [(.int p2)])) (fun t k => own_st st148 k) ?_
  refine own_go (B := T148.setTop (mkF m 258 #[.val (.int p1), .val (.int p2), .val (.int p3), .val (.int p4), .val (.int p5), .val (.int p6), .val (.int vk), .val (.int (0 : Int32)), .val (.ref b127), .val (.int (1 : Int32))] [(.int p2), (.int p2)])) (fun t k => XS.iloadN X148.here hx rfl (Jvm.hb hby at_257) rfl k) ?_
  refine own_go (B := T148.setTop (mkF m 261 #[.val (.int p1), .val (.int p2), .val (.int p3), .val (.int p4), .val (.int p5), .val (.int p6), .val (.int vk), .val (.int (0 : Int32)), .val (.ref b127), .val (.int (1 : Int32))] [])) (fun t k => XS.icmpNo X148.here hx rfl (Jvm.hb hby at_258) rfl (teq (rfl : p2 = p2)).2 k) ?_
  refine own_go (B := T148.setTop (mkF m 262 #[.val (.int p1), .val (.int p2), .val (.int p3), .val (.int p4), .val (.int p5), .val (.int p6), .val (.int vk), .val (.int (0 : Int32)), .val (.ref b127), .val (.int (1 : Int32))] [(.int (1 : Int32))])) (fun t k => XS.iconst X148.here hx rfl (Jvm.hb hby at_261) k) ?_
  refine own_go (B := T148.setTop (mkF m 266 #[.val (.int p1), .val (.int p2), .val (.int p3), .val (.int p4), .val (.int p5), .val (.int p6), .val (.int vk), .val (.int (0 : Int32)), .val (.ref b127), .val (.int (1 : Int32))] [(.int (1 : Int32))])) (fun t k => XS.goto X148.here hx rfl (pc0 := 262) (pc' := 266) rfl (Jvm.hb hby at_262) (by decide) (by decide) k) ?_
  refine own_go (B := T148.setTop (mkF m 268 #[.val (.int p1), .val (.int p2), .val (.int p3), .val (.int p4), .val (.int p5), .val (.int p6), .val (.int vk), .val (.int (0 : Int32)), .val (.ref b127), .val (.int (1 : Int32))] [])) (fun t k => XS.istore X148.here hx rfl (Jvm.hb hby at_266) rfl (l' := #[.val (.int p1), .val (.int p2), .val (.int p3), .val (.int p4), .val (.int p5), .val (.int p6), .val (.int vk), .val (.int (0 : Int32)), .val (.ref b127), .val (.int (1 : Int32))]) rfl k) ?_
  refine own_go (B := T148.setTop (mkF m 270 #[.val (.int p1), .val (.int p2), .val (.int p3), .val (.int p4), .val (.int p5), .val (.int p6), .val (.int vk), .val (.int (0 : Int32)), .val (.ref b127), .val (.int (1 : Int32))] [(.int vk)])) (fun t k => XS.iload X148.here hx rfl (Jvm.hb hby at_268) rfl k) ?_
  refine own_go (B := T148.setTop (mkF m 273 #[.val (.int p1), .val (.int p2), .val (.int p3), .val (.int p4), .val (.int p5), .val (.int p6), .val (.int vk), .val (.int (0 : Int32)), .val (.ref b127), .val (.int (1 : Int32))] [])) (fun t k => XS.ifNo X148.here hx rfl (Jvm.hb hby at_270) rfl ((if0 _ _).trans (feq (by rw [hvk, hk]; decide)).1) k) ?_
  refine own_go (B := T148.setTop (mkF m 275 #[.val (.int p1), .val (.int p2), .val (.int p3), .val (.int p4), .val (.int p5), .val (.int p6), .val (.int vk), .val (.int (0 : Int32)), .val (.ref b127), .val (.int (1 : Int32))] [(.ref b127)])) (fun t k => XS.aload X148.here hx rfl (Jvm.hb hby at_273) rfl rfl k) ?_
  obtain ⟨cq149, kq149, q149a, q149b, q149c⟩ := isOf hZ e148 E_b127
  obtain ⟨_, _, ⟨T149, La149, ka149, na149⟩, -, X149, ⟨Lc149, hQ149, l149, y149, z149⟩, st149⟩ := X148.virtualBack hx (y := (⟨"com/example/term_unifier/termunifier/IntPairStack", "returnToMark", "()V"⟩ : MethodName)) (z := (⟨"com/example/term_unifier/termunifier/IntPairStack", "returnToMark", "()V"⟩ : MethodName)) hown (mvT hZ (own_w hw 70 rfl)) (mvT hZ (own_w hw 71 rfl)) (notFace_of_selects (args := #[]) (mvT hZ (own_w hw 73 rfl))) (mvT hZ (own_w hw 73 rfl)) (mvT hZ (own_w hw 72 rfl)) (by decide) (backOf (W := 0) (rm11 l Z a0 hw [] b127 b129 b130 b131 b132 b133 (0 : Int32) (1 : Int32) (0 : Int32) (0 : Int32) (0 : Int32) (-1 : Int32) (own_upd (own_upd (own_upd (fun _ => 0) 0 (-1 : Int32)) 1 (0 : Int32)) 2 (0 : Int32)) T145.heap n0 Zs E_b127 F_b127_firsts F_b127_seconds F_b127_below F_b127_top F_b127_used F_b127_kept F_b127_marks E_b132 F_b132_items F_b132_size V_b133 g_b127 g_b132 ne_b127_b132 ne_b127_b133 ne_b132_b133 rfl rfl rfl) hZ (own_w hw 74 rfl) (own_w hw 2 rfl) (by decide) (by decide)) q149a q149c (g := (mkF m 275 #[.val (.int p1), .val (.int p2), .val (.int p3), .val (.int p4), .val (.int p5), .val (.int p6), .val (.int vk), .val (.int (0 : Int32)), .val (.ref b127), .val (.int (1 : Int32))] [(.ref b127)])) rfl (by rw [hml]; rfl) (Steps.refl _) (argsL := []) (rest := []) (lenOf pd_0 rfl) rfl (by show 2 * 0 + _ ≤ _; exact Nat.le_of_eq rfl) (Jvm.hb hby at_275) (fun _ _ => ⟨rfl, e148, (by decide : 6 + 0 ≤ _), (by decide : 73 + 0 ≤ _)⟩)
  dsimp only [Pt.U, Pt.locs, Pt.cells, Pt.slots] at X149 l149 y149 z149 st149 hQ149
  have y149 : ka149 = 6 := y149
  have z149 : na149 = 73 := z149
  subst y149 z149
  obtain ⟨rfl, N149q, Kc149, E_b127_q, F_b127_firsts_q, F_b127_seconds_q, F_b127_below_q, F_b127_top_q, F_b127_used_q, F_b127_kept_q, F_b127_marks_q, E_b132_q, F_b132_items_q, F_b132_size_q, V_b133_q⟩ := hQ149
  have N149 : Fr n0 La149 := by rw [l149]; exact Fr.app N148 N149q
  have V_b129 := V_b129.keep Kc149 (ninS (Ne.symm ne_b127_b129) (ninS ne_b129_b132 nin0))
  have V_b130 := V_b130.keep Kc149 (ninS (Ne.symm ne_b127_b130) (ninS ne_b130_b132 nin0))
  have V_b131 := V_b131.keep Kc149 (ninS (Ne.symm ne_b127_b131) (ninS ne_b131_b132 nin0))
  have Zs := Nat.le_trans Zs Kc149.1
  have E_b127 := E_b127_q
  have F_b127_firsts := F_b127_firsts_q
  have F_b127_seconds := F_b127_seconds_q
  have F_b127_below := F_b127_below_q
  have F_b127_top := F_b127_top_q
  have F_b127_used := F_b127_used_q
  have F_b127_kept := F_b127_kept_q
  have F_b127_marks := F_b127_marks_q
  have E_b132 := E_b132_q
  have F_b132_items := F_b132_items_q
  have F_b132_size := F_b132_size_q
  have V_b133 := V_b133_q
  refine own_go (B := T149.setTop (mkF m 278 #[.val (.int p1), .val (.int p2), .val (.int p3), .val (.int p4), .val (.int p5), .val (.int p6), .val (.int vk), .val (.int (0 : Int32)), .val (.ref b127), .val (.int (1 : Int32))] [])) (fun t k => own_st st149 k) ?_
  refine own_go (B := T149.setTop (mkF m 280 #[.val (.int p1), .val (.int p2), .val (.int p3), .val (.int p4), .val (.int p5), .val (.int p6), .val (.int vk), .val (.int (0 : Int32)), .val (.ref b127), .val (.int (1 : Int32))] [(.int vk)])) (fun t k => XS.iload X149.here hx rfl (Jvm.hb hby at_278) rfl k) ?_
  refine own_go (B := T149.setTop (mkF m 281 #[.val (.int p1), .val (.int p2), .val (.int p3), .val (.int p4), .val (.int p5), .val (.int p6), .val (.int vk), .val (.int (0 : Int32)), .val (.ref b127), .val (.int (1 : Int32))] [(.int (1 : Int32)), (.int vk)])) (fun t k => XS.iconst X149.here hx rfl (Jvm.hb hby at_280) k) ?_
  refine own_go (B := T149.setTop (mkF m 284 #[.val (.int p1), .val (.int p2), .val (.int p3), .val (.int p4), .val (.int p5), .val (.int p6), .val (.int vk), .val (.int (0 : Int32)), .val (.ref b127), .val (.int (1 : Int32))] [])) (fun t k => XS.icmpNo X149.here hx rfl (Jvm.hb hby at_281) rfl (teq (hvk.trans hk)).2 k) ?_
  refine own_go (B := T149.setTop (mkF m 286 #[.val (.int p1), .val (.int p2), .val (.int p3), .val (.int p4), .val (.int p5), .val (.int p6), .val (.int vk), .val (.int (0 : Int32)), .val (.ref b127), .val (.int (1 : Int32))] [(.int (1 : Int32))])) (fun t k => XS.iload X149.here hx rfl (Jvm.hb hby at_284) rfl k) ?_
  refine own_go (B := T149.setTop (mkF m 289 #[.val (.int p1), .val (.int p2), .val (.int p3), .val (.int p4), .val (.int p5), .val (.int p6), .val (.int vk), .val (.int (0 : Int32)), .val (.ref b127), .val (.int (1 : Int32))] [])) (fun t k => XS.ifNo X149.here hx rfl (Jvm.hb hby at_286) rfl ((if0 _ _).trans (feq (by decide : ¬ ((1 : Int32) = (0 : Int32)))).1) k) ?_
  refine own_go (B := T149.setTop (mkF m 291 #[.val (.int p1), .val (.int p2), .val (.int p3), .val (.int p4), .val (.int p5), .val (.int p6), .val (.int vk), .val (.int (0 : Int32)), .val (.ref b127), .val (.int (1 : Int32))] [(.ref b127)])) (fun t k => XS.aload X149.here hx rfl (Jvm.hb hby at_289) rfl rfl k) ?_
  obtain ⟨cq150, kq150, q150a, q150b, q150c⟩ := isOf hZ rfl E_b127
  obtain ⟨_, _, ⟨T150, La150, ka150, na150⟩, -, X150, ⟨Lc150, hQ150, l150, y150, z150⟩, st150⟩ := X149.virtualBack hx (y := (⟨"com/example/term_unifier/termunifier/IntPairStack", "isEmpty", "()Z"⟩ : MethodName)) (z := (⟨"com/example/term_unifier/termunifier/IntPairStack", "isEmpty", "()Z"⟩ : MethodName)) hown (mvT hZ (own_w hw 55 rfl)) (mvT hZ (own_w hw 56 rfl)) (notFace_of_selects (args := #[]) (mvT hZ (own_w hw 58 rfl))) (mvT hZ (own_w hw 58 rfl)) (mvT hZ (own_w hw 57 rfl)) (by decide) (backOf (W := 0) (rm8 l Z a0 hw [] b127 (-1 : Int32) (1 : Int32) T149.heap n0 Zs F_b127_top (by decide)) hZ (own_w hw 59 rfl) (own_w hw 2 rfl) (by decide) (by decide)) q150a q150c (g := (mkF m 291 #[.val (.int p1), .val (.int p2), .val (.int p3), .val (.int p4), .val (.int p5), .val (.int p6), .val (.int vk), .val (.int (0 : Int32)), .val (.ref b127), .val (.int (1 : Int32))] [(.ref b127)])) rfl (by rw [hml]; rfl) (Steps.refl _) (argsL := []) (rest := []) (lenOf pd_4 rfl) rfl (by show 2 * 0 + _ ≤ _; exact Nat.le_of_eq rfl) (Jvm.hb hby at_291) (fun _ _ => ⟨rfl, rfl, (by decide : 6 + 0 ≤ _), (by decide : 73 + 0 ≤ _)⟩)
  dsimp only [Pt.U, Pt.locs, Pt.cells, Pt.slots] at X150 l150 y150 z150 st150 hQ150
  have y150 : ka150 = 6 := y150
  have z150 : na150 = 73 := z150
  subst y150 z150
  obtain ⟨rfl, N150q, e150⟩ := hQ150
  have N150 : Fr n0 La150 := by rw [l150]; exact Fr.app N149 N150q
  refine own_go (B := T150.setTop (mkF m 294 #[.val (.int p1), .val (.int p2), .val (.int p3), .val (.int p4), .val (.int p5), .val (.int p6), .val (.int vk), .val (.int (0 : Int32)), .val (.ref b127), .val (.int (1 : Int32))] [(.int (1 : Int32))])) (fun t k => own_st st150 k) ?_
  refine own_go (B := T150.setTop (mkF m 297 #[.val (.int p1), .val (.int p2), .val (.int p3), .val (.int p4), .val (.int p5), .val (.int p6), .val (.int vk), .val (.int (0 : Int32)), .val (.ref b127), .val (.int (1 : Int32))] [])) (fun t k => XS.ifNo X150.here hx rfl (Jvm.hb hby at_294) rfl ((if0 _ _).trans (feq (by decide : ¬ ((1 : Int32) = (0 : Int32)))).1) k) ?_
  refine own_go (B := T150.setTop (mkF m 298 #[.val (.int p1), .val (.int p2), .val (.int p3), .val (.int p4), .val (.int p5), .val (.int p6), .val (.int vk), .val (.int (0 : Int32)), .val (.ref b127), .val (.int (1 : Int32))] [(.int (1 : Int32))])) (fun t k => XS.iconst X150.here hx rfl (Jvm.hb hby at_297) k) ?_
  refine own_go (B := T150.setTop (mkF m 302 #[.val (.int p1), .val (.int p2), .val (.int p3), .val (.int p4), .val (.int p5), .val (.int p6), .val (.int vk), .val (.int (0 : Int32)), .val (.ref b127), .val (.int (1 : Int32))] [(.int (1 : Int32))])) (fun t k => XS.goto X150.here hx rfl (pc0 := 298) (pc' := 302) rfl (Jvm.hb hby at_298) (by decide) (by decide) k) ?_
  refine own_go (B := T150.setTop (mkF m 304 #[.val (.int p1), .val (.int p2), .val (.int p3), .val (.int p4), .val (.int p5), .val (.int p6), .val (.int vk), .val (.int (0 : Int32)), .val (.ref b127), .val (.int (1 : Int32))] [])) (fun t k => XS.istore X150.here hx rfl (Jvm.hb hby at_302) rfl (l' := #[.val (.int p1), .val (.int p2), .val (.int p3), .val (.int p4), .val (.int p5), .val (.int p6), .val (.int vk), .val (.int (0 : Int32)), .val (.ref b127), .val (.int (1 : Int32))]) rfl k) ?_
  refine own_go (B := T150.setTop (mkF m 435 #[.val (.int p1), .val (.int p2), .val (.int p3), .val (.int p4), .val (.int p5), .val (.int p6), .val (.int vk), .val (.int (0 : Int32)), .val (.ref b127), .val (.int (1 : Int32))] [])) (fun t k => XS.goto X150.here hx rfl (pc0 := 304) (pc' := 435) rfl (Jvm.hb hby at_304) (by decide) (by decide) k) ?_
  refine own_go (B := T150.setTop (mkF m 437 #[.val (.int p1), .val (.int p2), .val (.int p3), .val (.int p4), .val (.int p5), .val (.int p6), .val (.int vk), .val (.int (0 : Int32)), .val (.ref b127), .val (.int (1 : Int32))] [(.int (1 : Int32))])) (fun t k => XS.iload X150.here hx rfl (Jvm.hb hby at_435) rfl k) ?_
  refine own_out X150 (v := (some (.int (1 : Int32)))) (fun h => by rw [Bd.returns] at h; cases h) Bd.notSynchronized (fun fs hr => retOut X150 hx (t := .boolean) Bd.returns rfl (by first | exact Or.inl ⟨rfl, by simp, _, rfl⟩) (Jvm.hb hby at_437) hr) ?_ (by decide) (by decide)
  show own_Q0 Z p1 p2 p3 p4 p5 p6 h0 n0 (some (.int (1 : Int32))) T150.heap _
  rw [e150]
  exact ⟨rfl, N150⟩
theorem ef_0_10 (m : MethodId) (x0 : Int32) (x1 : Int32) (x2 : Int32) (x3 : Int32) (x4 : Int32) (x5 : Int32) : entryFrame m #[(.int x0), (.int x1), (.int x2), (.int x3), (.int x4), (.int x5)] maxLocals = mkF m 0 #[.val (.int x0), .val (.int x1), .val (.int x2), .val (.int x3), .val (.int x4), .val (.int x5), .unset, .unset, .unset, .unset] [] := by first | (simp [entryFrame, mkF, argsToLocals, Value.category, maxLocals]; done) | rfl
set_option maxRecDepth 65536 in
set_option maxHeartbeats 40000000 in
theorem rm0_10 (l : Launch) (Z : State) (a0 : Array Value) (hw : ∀ d ∈ tables_1, d.before a0 Z = true) (ws : List Jvm.Cond) (p1 : Int32) (p2 : Int32) (p3 : Int32) (p4 : Int32) (p5 : Int32) (p6 : Int32) (h0 : Heap) (n0 : Nat) (Z0 : n0 ≤ h0.size) (hk : (p6 &&& (3 : Int32)) = (1 : Int32)) (ht : ¬ ((p6 &&& (4 : Int32)) = (0 : Int32))) :
    MetFree l x (head1 (Jvm.Cond.code x code maxLocals ret :: ws) room_1) (fun a U => a = #[(.int p1), (.int p2), (.int p3), (.int p4), (.int p5), (.int p6)] ∧ Z.Warmed39 U.vm ∧ U.heap = h0) (fun _ _ _ _ _ => True) (fun _ U o U' => ∃ v L, o = .returned v ∧ own_Q0 Z p1 p2 p3 p4 p5 p6 h0 n0 v U'.heap L ∧ FrameEnd U o U' L room_1.cells room_1.slots) := by
  refine MetFree.of_bodySF (plainFor_of_name pn_com_example_term_unifier_termunifier_IntPairStackPopPinLaw) hisR ?_
  intro p e s m args below meth c s₁ Bd hml0 hP hK
  obtain ⟨rfl, hZ, hh⟩ := hP
  have hx := Bd.exec
  have hby := Bd.bytes
  have hml : c.maxLocals = 10 := hml0
  have hown : s.vm.findClass "com/example/term_unifier/termunifier/IntPairStackPopPinLaw" = some m.cls := findClass_of_methodNamed Bd.named
  have hnm := (name_of_methodNamed Bd.named Bd.method).1
  have X0 : Stand p l e room_1 s m #[(.int p1), (.int p2), (.int p3), (.int p4), (.int p5), (.int p6)] below meth c s₁ [] 0 0 := Stand.of_body Bd
  have e0 : s₁.heap = h0 := by rw [← hh, Bd.state]; rfl
  have N0 := Fr.nil n0
  have Zs := Z0
  show own_Goes p e below s (own_Q0 Z p1 p2 p3 p4 p5 p6 h0 n0) room_1.cells room_1.slots _
  refine own_go (B := s₁.setTop (mkF m 0 #[.val (.int p1), .val (.int p2), .val (.int p3), .val (.int p4), .val (.int p5), .val (.int p6), .unset, .unset, .unset, .unset] [])) (fun t k => castTop (ef_0_10 m p1 p2 p3 p4 p5 p6) k) ?_
  refine own_go (B := s₁.setTop (mkF m 2 #[.val (.int p1), .val (.int p2), .val (.int p3), .val (.int p4), .val (.int p5), .val (.int p6), .unset, .unset, .unset, .unset] [(.int p6)])) (fun t k => XS.iload X0.here hx rfl (Jvm.hb hby at_0) rfl k) ?_
  refine own_go (B := s₁.setTop (mkF m 3 #[.val (.int p1), .val (.int p2), .val (.int p3), .val (.int p4), .val (.int p5), .val (.int p6), .unset, .unset, .unset, .unset] [(.int (3 : Int32)), (.int p6)])) (fun t k => XS.iconst X0.here hx rfl (Jvm.hb hby at_2) k) ?_
  refine own_go (B := s₁.setTop (mkF m 4 #[.val (.int p1), .val (.int p2), .val (.int p3), .val (.int p4), .val (.int p5), .val (.int p6), .unset, .unset, .unset, .unset] [(.int (p6 &&& (3 : Int32)))])) (fun t k => XS.iand X0.here hx rfl (Jvm.hb hby at_3) rfl k) ?_
  obtain ⟨vk, hvk⟩ : ∃ z : Int32, z = (p6 &&& (3 : Int32)) := ⟨_, rfl⟩
  rw [← hvk]
  refine own_go (B := s₁.setTop (mkF m 6 #[.val (.int p1), .val (.int p2), .val (.int p3), .val (.int p4), .val (.int p5), .val (.int p6), .val (.int vk), .unset, .unset, .unset] [])) (fun t k => XS.istore X0.here hx rfl (Jvm.hb hby at_4) rfl (l' := #[.val (.int p1), .val (.int p2), .val (.int p3), .val (.int p4), .val (.int p5), .val (.int p6), .val (.int vk), .unset, .unset, .unset]) rfl k) ?_
  refine own_go (B := s₁.setTop (mkF m 8 #[.val (.int p1), .val (.int p2), .val (.int p3), .val (.int p4), .val (.int p5), .val (.int p6), .val (.int vk), .unset, .unset, .unset] [(.int p6)])) (fun t k => XS.iload X0.here hx rfl (Jvm.hb hby at_6) rfl k) ?_
  refine own_go (B := s₁.setTop (mkF m 9 #[.val (.int p1), .val (.int p2), .val (.int p3), .val (.int p4), .val (.int p5), .val (.int p6), .val (.int vk), .unset, .unset, .unset] [(.int (4 : Int32)), (.int p6)])) (fun t k => XS.iconst X0.here hx rfl (Jvm.hb hby at_8) k) ?_
  refine own_go (B := s₁.setTop (mkF m 10 #[.val (.int p1), .val (.int p2), .val (.int p3), .val (.int p4), .val (.int p5), .val (.int p6), .val (.int vk), .unset, .unset, .unset] [(.int (p6 &&& (4 : Int32)))])) (fun t k => XS.iand X0.here hx rfl (Jvm.hb hby at_9) rfl k) ?_
  refine own_go (B := s₁.setTop (mkF m 13 #[.val (.int p1), .val (.int p2), .val (.int p3), .val (.int p4), .val (.int p5), .val (.int p6), .val (.int vk), .unset, .unset, .unset] [])) (fun t k => XS.ifNo X0.here hx rfl (Jvm.hb hby at_10) rfl ((if0 _ _).trans (feq ht).1) k) ?_
  refine own_go (B := s₁.setTop (mkF m 14 #[.val (.int p1), .val (.int p2), .val (.int p3), .val (.int p4), .val (.int p5), .val (.int p6), .val (.int vk), .unset, .unset, .unset] [(.int (1 : Int32))])) (fun t k => XS.iconst X0.here hx rfl (Jvm.hb hby at_13) k) ?_
  refine own_go (B := s₁.setTop (mkF m 18 #[.val (.int p1), .val (.int p2), .val (.int p3), .val (.int p4), .val (.int p5), .val (.int p6), .val (.int vk), .unset, .unset, .unset] [(.int (1 : Int32))])) (fun t k => XS.goto X0.here hx rfl (pc0 := 14) (pc' := 18) rfl (Jvm.hb hby at_14) (by decide) (by decide) k) ?_
  refine own_go (B := s₁.setTop (mkF m 20 #[.val (.int p1), .val (.int p2), .val (.int p3), .val (.int p4), .val (.int p5), .val (.int p6), .val (.int vk), .val (.int (1 : Int32)), .unset, .unset] [])) (fun t k => XS.istore X0.here hx rfl (Jvm.hb hby at_18) rfl (l' := #[.val (.int p1), .val (.int p2), .val (.int p3), .val (.int p4), .val (.int p5), .val (.int p6), .val (.int vk), .val (.int (1 : Int32)), .unset, .unset]) rfl k) ?_
  obtain ⟨T151, h151, X151, e151, E151, A151, D151, -, st151⟩ := newO X0 hx hZ hown (own_w hw 0 rfl) (own_w hw 1 rfl) (own_w hw 2 rfl) e0 (g := (mkF m 20 #[.val (.int p1), .val (.int p2), .val (.int p3), .val (.int p4), .val (.int p5), .val (.int p6), .val (.int vk), .val (.int (1 : Int32)), .unset, .unset] [])) rfl (Jvm.hb hby at_20) (by decide) (by decide)
  obtain ⟨b151, g151⟩ : ∃ z, z = h0.size := ⟨_, rfl⟩
  rw [← g151] at A151 D151 st151
  have g_b151 : n0 ≤ b151 := Nat.le_trans Zs (Nat.le_of_eq g151.symm)
  have Zs := Nat.le_trans Zs E151.1
  have E_b151 := A151
  have F_b151_firsts : Fld Z h151 b151 "com/example/term_unifier/termunifier/IntPairStack" "firsts" "[I" .null := D151 (Or.inl (own_w hw 11 rfl)) (ty := (.array .int)) (by decide)
  have F_b151_seconds : Fld Z h151 b151 "com/example/term_unifier/termunifier/IntPairStack" "seconds" "[I" .null := D151 (Or.inl (own_w hw 13 rfl)) (ty := (.array .int)) (by decide)
  have F_b151_below : Fld Z h151 b151 "com/example/term_unifier/termunifier/IntPairStack" "below" "[I" .null := D151 (Or.inl (own_w hw 15 rfl)) (ty := (.array .int)) (by decide)
  have F_b151_top : Fld Z h151 b151 "com/example/term_unifier/termunifier/IntPairStack" "top" "I" (.int (0 : Int32)) := D151 (Or.inl (own_w hw 17 rfl)) (ty := .int) (by decide)
  have F_b151_marks : Fld Z h151 b151 "com/example/term_unifier/termunifier/IntPairStack" "marks" "Lcom/example/term_unifier/termunifier/IntStack;" .null := D151 (Or.inr (own_w hw 28 rfl)) (ty := (.object "com/example/term_unifier/termunifier/IntStack")) (by decide)
  have F_b151_used : Fld Z h151 b151 "com/example/term_unifier/termunifier/IntPairStack" "used" "I" (.int (0 : Int32)) := D151 (Or.inl (own_w hw 35 rfl)) (ty := .int) (by decide)
  have F_b151_kept : Fld Z h151 b151 "com/example/term_unifier/termunifier/IntPairStack" "kept" "I" (.int (0 : Int32)) := D151 (Or.inl (own_w hw 49 rfl)) (ty := .int) (by decide)
  refine own_go (B := T151.setTop (mkF m 23 #[.val (.int p1), .val (.int p2), .val (.int p3), .val (.int p4), .val (.int p5), .val (.int p6), .val (.int vk), .val (.int (1 : Int32)), .unset, .unset] [(.ref b151)])) (fun t k => st151 _ k) ?_
  refine own_go (B := T151.setTop (mkF m 24 #[.val (.int p1), .val (.int p2), .val (.int p3), .val (.int p4), .val (.int p5), .val (.int p6), .val (.int vk), .val (.int (1 : Int32)), .unset, .unset] [(.ref b151), (.ref b151)])) (fun t k => XS.dup X151.here hx rfl (Jvm.hb hby at_23) rfl rfl k) ?_
  obtain ⟨_, _, ⟨T152, La152, ka152, na152⟩, -, X152, ⟨Lc152, hQ152, l152, y152, z152⟩, st152⟩ := X151.specialBack hx (y := (⟨"com/example/term_unifier/termunifier/IntPairStack", "<init>", "()V"⟩ : MethodName)) rfl hown (mvT hZ (own_w hw 3 rfl)) (mvT hZ (own_w hw 4 rfl)) (mvT hZ (own_w hw 5 rfl)) (by decide) (backOf (W := 1) (rm1 l Z a0 hw [] b151 h151 n0 Zs E_b151 F_b151_firsts F_b151_seconds F_b151_below F_b151_top F_b151_used F_b151_kept F_b151_marks g_b151) hZ (own_w hw 5 rfl) (own_w hw 2 rfl) (by decide) (by decide)) (g := (mkF m 24 #[.val (.int p1), .val (.int p2), .val (.int p3), .val (.int p4), .val (.int p5), .val (.int p6), .val (.int vk), .val (.int (1 : Int32)), .unset, .unset] [(.ref b151), (.ref b151)])) rfl (by rw [hml]; rfl) (Steps.refl _) (a := b151) (argsL := []) (rest := [(.ref b151)]) (lenOf pd_0 rfl) rfl (by show 2 * 0 + _ ≤ _; exact Nat.le_of_eq rfl) (Jvm.hb hby at_24) (fun _ _ => ⟨rfl, e151, (by decide : 1 + 5 ≤ _), (by decide : 7 + 66 ≤ _)⟩)
  dsimp only [Pt.U, Pt.locs, Pt.cells, Pt.slots] at X152 l152 y152 z152 st152 hQ152
  have y152 : ka152 = 6 := y152
  have z152 : na152 = 73 := z152
  subst y152 z152
  obtain ⟨rfl, N152q, b153, sq_b153, b154, sq_b154, b155, sq_b155, b156, sq_b156, b157, sq_b157, ne_b153_b154, ne_b153_b155, ne_b153_b156, ne_b153_b157, ne_b154_b155, ne_b154_b156, ne_b154_b157, ne_b155_b156, ne_b155_b157, ne_b156_b157, Kc152, E_b151_q, F_b151_firsts_q, F_b151_seconds_q, F_b151_below_q, F_b151_top_q, F_b151_used_q, F_b151_kept_q, F_b151_marks_q, V_b153_q, V_b154_q, V_b155_q, E_b156_q, F_b156_items_q, F_b156_size_q, V_b157_q⟩ := hQ152
  have g_b153 : n0 ≤ b153 := Nat.le_trans Zs sq_b153
  have ne_b151_b153 : b151 ≠ b153 := Nat.ne_of_lt (Nat.lt_of_lt_of_le E_b151.lt sq_b153)
  have g_b154 : n0 ≤ b154 := Nat.le_trans Zs sq_b154
  have ne_b151_b154 : b151 ≠ b154 := Nat.ne_of_lt (Nat.lt_of_lt_of_le E_b151.lt sq_b154)
  have g_b155 : n0 ≤ b155 := Nat.le_trans Zs sq_b155
  have ne_b151_b155 : b151 ≠ b155 := Nat.ne_of_lt (Nat.lt_of_lt_of_le E_b151.lt sq_b155)
  have g_b156 : n0 ≤ b156 := Nat.le_trans Zs sq_b156
  have ne_b151_b156 : b151 ≠ b156 := Nat.ne_of_lt (Nat.lt_of_lt_of_le E_b151.lt sq_b156)
  have g_b157 : n0 ≤ b157 := Nat.le_trans Zs sq_b157
  have ne_b151_b157 : b151 ≠ b157 := Nat.ne_of_lt (Nat.lt_of_lt_of_le E_b151.lt sq_b157)
  have N152 : Fr n0 La152 := by rw [l152]; exact Fr.app N0 N152q
  have Zs := Nat.le_trans Zs Kc152.1
  have E_b151 := E_b151_q
  have F_b151_firsts := F_b151_firsts_q
  have F_b151_seconds := F_b151_seconds_q
  have F_b151_below := F_b151_below_q
  have F_b151_top := F_b151_top_q
  have F_b151_used := F_b151_used_q
  have F_b151_kept := F_b151_kept_q
  have F_b151_marks := F_b151_marks_q
  have V_b153 := V_b153_q
  have V_b154 := V_b154_q
  have V_b155 := V_b155_q
  have E_b156 := E_b156_q
  have F_b156_items := F_b156_items_q
  have F_b156_size := F_b156_size_q
  have V_b157 := V_b157_q
  refine own_go (B := T152.setTop (mkF m 27 #[.val (.int p1), .val (.int p2), .val (.int p3), .val (.int p4), .val (.int p5), .val (.int p6), .val (.int vk), .val (.int (1 : Int32)), .unset, .unset] [(.ref b151)])) (fun t k => own_st st152 k) ?_
  refine own_go (B := T152.setTop (mkF m 29 #[.val (.int p1), .val (.int p2), .val (.int p3), .val (.int p4), .val (.int p5), .val (.int p6), .val (.int vk), .val (.int (1 : Int32)), .val (.ref b151), .unset] [])) (fun t k => XS.astore X152.here hx rfl (Jvm.hb hby at_27) rfl rfl (l' := #[.val (.int p1), .val (.int p2), .val (.int p3), .val (.int p4), .val (.int p5), .val (.int p6), .val (.int vk), .val (.int (1 : Int32)), .val (.ref b151), .unset]) rfl k) ?_
  refine own_go (B := T152.setTop (mkF m 31 #[.val (.int p1), .val (.int p2), .val (.int p3), .val (.int p4), .val (.int p5), .val (.int p6), .val (.int vk), .val (.int (1 : Int32)), .val (.ref b151), .unset] [(.int vk)])) (fun t k => XS.iload X152.here hx rfl (Jvm.hb hby at_29) rfl k) ?_
  refine own_go (B := T152.setTop (mkF m 32 #[.val (.int p1), .val (.int p2), .val (.int p3), .val (.int p4), .val (.int p5), .val (.int p6), .val (.int vk), .val (.int (1 : Int32)), .val (.ref b151), .unset] [(.int (1 : Int32)), (.int vk)])) (fun t k => XS.iconst X152.here hx rfl (Jvm.hb hby at_31) k) ?_
  refine own_go (B := T152.setTop (mkF m 35 #[.val (.int p1), .val (.int p2), .val (.int p3), .val (.int p4), .val (.int p5), .val (.int p6), .val (.int vk), .val (.int (1 : Int32)), .val (.ref b151), .unset] [])) (fun t k => XS.icmpNo X152.here hx rfl (Jvm.hb hby at_32) rfl (teq (hvk.trans hk)).2 k) ?_
  refine own_go (B := T152.setTop (mkF m 37 #[.val (.int p1), .val (.int p2), .val (.int p3), .val (.int p4), .val (.int p5), .val (.int p6), .val (.int vk), .val (.int (1 : Int32)), .val (.ref b151), .unset] [(.ref b151)])) (fun t k => XS.aload X152.here hx rfl (Jvm.hb hby at_35) rfl rfl k) ?_
  obtain ⟨cq158, kq158, q158a, q158b, q158c⟩ := isOf hZ rfl E_b151
  obtain ⟨_, _, ⟨T158, La158, ka158, na158⟩, -, X158, ⟨Lc158, hQ158, l158, y158, z158⟩, st158⟩ := X152.virtualBack hx (y := (⟨"com/example/term_unifier/termunifier/IntPairStack", "mark", "()V"⟩ : MethodName)) (z := (⟨"com/example/term_unifier/termunifier/IntPairStack", "mark", "()V"⟩ : MethodName)) hown (mvT hZ (own_w hw 36 rfl)) (mvT hZ (own_w hw 37 rfl)) (notFace_of_selects (args := #[]) (mvT hZ (own_w hw 39 rfl))) (mvT hZ (own_w hw 39 rfl)) (mvT hZ (own_w hw 38 rfl)) (by decide) (backOf (W := 0) (rm5 l Z a0 hw [] b151 b153 b154 b155 b156 b157 (-1 : Int32) (0 : Int32) (0 : Int32) (fun _ => 0) T152.heap n0 Zs E_b151 F_b151_firsts F_b151_seconds F_b151_below F_b151_top F_b151_used F_b151_kept F_b151_marks E_b156 F_b156_items F_b156_size V_b157 g_b151 g_b156 g_b157 ne_b151_b156 ne_b151_b157 ne_b156_b157) hZ (own_w hw 40 rfl) (own_w hw 2 rfl) (by decide) (by decide)) q158a q158c (g := (mkF m 37 #[.val (.int p1), .val (.int p2), .val (.int p3), .val (.int p4), .val (.int p5), .val (.int p6), .val (.int vk), .val (.int (1 : Int32)), .val (.ref b151), .unset] [(.ref b151)])) rfl (by rw [hml]; rfl) (Steps.refl _) (argsL := []) (rest := []) (lenOf pd_0 rfl) rfl (by show 2 * 0 + _ ≤ _; exact Nat.le_of_eq rfl) (Jvm.hb hby at_37) (fun _ _ => ⟨rfl, rfl, (by decide : 6 + 0 ≤ _), (by decide : 73 + 0 ≤ _)⟩)
  dsimp only [Pt.U, Pt.locs, Pt.cells, Pt.slots] at X158 l158 y158 z158 st158 hQ158
  have y158 : ka158 = 6 := y158
  have z158 : na158 = 73 := z158
  subst y158 z158
  obtain ⟨rfl, N158q, Kc158, E_b151_q, F_b151_firsts_q, F_b151_seconds_q, F_b151_below_q, F_b151_top_q, F_b151_used_q, F_b151_kept_q, F_b151_marks_q, E_b156_q, F_b156_items_q, F_b156_size_q, V_b157_q⟩ := hQ158
  have N158 : Fr n0 La158 := by rw [l158]; exact Fr.app N152 N158q
  have V_b153 := V_b153.keep Kc158 (ninS (Ne.symm ne_b151_b153) (ninS ne_b153_b156 (ninS ne_b153_b157 nin0)))
  have V_b154 := V_b154.keep Kc158 (ninS (Ne.symm ne_b151_b154) (ninS ne_b154_b156 (ninS ne_b154_b157 nin0)))
  have V_b155 := V_b155.keep Kc158 (ninS (Ne.symm ne_b151_b155) (ninS ne_b155_b156 (ninS ne_b155_b157 nin0)))
  have Zs := Nat.le_trans Zs Kc158.1
  have E_b151 := E_b151_q
  have F_b151_firsts := F_b151_firsts_q
  have F_b151_seconds := F_b151_seconds_q
  have F_b151_below := F_b151_below_q
  have F_b151_top := F_b151_top_q
  have F_b151_used := F_b151_used_q
  have F_b151_kept := F_b151_kept_q
  have F_b151_marks := F_b151_marks_q
  have E_b156 := E_b156_q
  have F_b156_items := F_b156_items_q
  have F_b156_size := F_b156_size_q
  have V_b157 := V_b157_q
  refine own_go (B := T158.setTop (mkF m 40 #[.val (.int p1), .val (.int p2), .val (.int p3), .val (.int p4), .val (.int p5), .val (.int p6), .val (.int vk), .val (.int (1 : Int32)), .val (.ref b151), .unset] [])) (fun t k => own_st st158 k) ?_
  refine own_go (B := T158.setTop (mkF m 42 #[.val (.int p1), .val (.int p2), .val (.int p3), .val (.int p4), .val (.int p5), .val (.int p6), .val (.int vk), .val (.int (1 : Int32)), .val (.ref b151), .unset] [(.ref b151)])) (fun t k => XS.aload X158.here hx rfl (Jvm.hb hby at_40) rfl rfl k) ?_
  refine own_go (B := T158.setTop (mkF m 43 #[.val (.int p1), .val (.int p2), .val (.int p3), .val (.int p4), .val (.int p5), .val (.int p6), .val (.int vk), .val (.int (1 : Int32)), .val (.ref b151), .unset] [(.int p1), (.ref b151)])) (fun t k => XS.iloadN X158.here hx rfl (Jvm.hb hby at_42) rfl k) ?_
  refine own_go (B := T158.setTop (mkF m 44 #[.val (.int p1), .val (.int p2), .val (.int p3), .val (.int p4), .val (.int p5), .val (.int p6), .val (.int vk), .val (.int (1 : Int32)), .val (.ref b151), .unset] [(.int p2), (.int p1), (.ref b151)])) (fun t k => XS.iloadN X158.here hx rfl (Jvm.hb hby at_43) rfl k) ?_
  obtain ⟨cq159, kq159, q159a, q159b, q159c⟩ := isOf hZ rfl E_b151
  obtain ⟨_, _, ⟨T159, La159, ka159, na159⟩, -, X159, ⟨Lc159, hQ159, l159, y159, z159⟩, st159⟩ := X158.virtualBack hx (y := (⟨"com/example/term_unifier/termunifier/IntPairStack", "push", "(II)V"⟩ : MethodName)) (z := (⟨"com/example/term_unifier/termunifier/IntPairStack", "push", "(II)V"⟩ : MethodName)) hown (mvT hZ (own_w hw 29 rfl)) (mvT hZ (own_w hw 30 rfl)) (notFace_of_selects (args := #[]) (mvT hZ (own_w hw 32 rfl))) (mvT hZ (own_w hw 32 rfl)) (mvT hZ (own_w hw 31 rfl)) (by decide) (backOf (W := 0) (rm4 l Z a0 hw [] b151 p1 p2 b153 b154 b155 b156 (-1 : Int32) (0 : Int32) (0 : Int32) (1 : Int32) 0 (fun _ => 0) (fun _ => 0) (fun _ => 0) T158.heap n0 Zs E_b151 F_b151_firsts F_b151_seconds F_b151_below F_b151_top F_b151_used F_b151_kept F_b151_marks V_b153 V_b154 V_b155 g_b151 g_b153 g_b154 g_b155 ne_b151_b153 ne_b151_b154 ne_b151_b155 ne_b153_b154 ne_b153_b155 ne_b154_b155 (by decide) (by decide) (by decide) (by decide) (by decide)) hZ (own_w hw 33 rfl) (own_w hw 2 rfl) (by decide) (by decide)) q159a q159c (g := (mkF m 44 #[.val (.int p1), .val (.int p2), .val (.int p3), .val (.int p4), .val (.int p5), .val (.int p6), .val (.int vk), .val (.int (1 : Int32)), .val (.ref b151), .unset] [(.int p2), (.int p1), (.ref b151)])) rfl (by rw [hml]; rfl) (Steps.refl _) (argsL := [(.int p1), (.int p2)]) (rest := []) (lenOf pd_3 rfl) rfl (by show 2 * 0 + _ ≤ _; exact Nat.le_of_eq rfl) (Jvm.hb hby at_44) (fun _ _ => ⟨rfl, rfl, (by decide : 6 + 0 ≤ _), (by decide : 73 + 0 ≤ _)⟩)
  dsimp only [Pt.U, Pt.locs, Pt.cells, Pt.slots] at X159 l159 y159 z159 st159 hQ159
  have y159 : ka159 = 6 := y159
  have z159 : na159 = 73 := z159
  subst y159 z159
  obtain ⟨rfl, N159q, Kc159, E_b151_q, F_b151_firsts_q, F_b151_seconds_q, F_b151_below_q, F_b151_top_q, F_b151_used_q, F_b151_kept_q, F_b151_marks_q, V_b153_q, V_b154_q, V_b155_q⟩ := hQ159
  have N159 : Fr n0 La159 := by rw [l159]; exact Fr.app N158 N159q
  have E_b156 := E_b156.keep Kc159
  have F_b156_items := F_b156_items.keep Kc159 (ninS (Ne.symm ne_b151_b156) (ninS (Ne.symm ne_b153_b156) (ninS (Ne.symm ne_b154_b156) (ninS (Ne.symm ne_b155_b156) nin0))))
  have F_b156_size := F_b156_size.keep Kc159 (ninS (Ne.symm ne_b151_b156) (ninS (Ne.symm ne_b153_b156) (ninS (Ne.symm ne_b154_b156) (ninS (Ne.symm ne_b155_b156) nin0))))
  have V_b157 := V_b157.keep Kc159 (ninS (Ne.symm ne_b151_b157) (ninS (Ne.symm ne_b153_b157) (ninS (Ne.symm ne_b154_b157) (ninS (Ne.symm ne_b155_b157) nin0))))
  have Zs := Nat.le_trans Zs Kc159.1
  have E_b151 := E_b151_q
  have F_b151_firsts := F_b151_firsts_q
  have F_b151_seconds := F_b151_seconds_q
  have F_b151_below := F_b151_below_q
  have F_b151_top := F_b151_top_q
  have F_b151_used := F_b151_used_q
  have F_b151_kept := F_b151_kept_q
  have F_b151_marks := F_b151_marks_q
  have V_b153 := V_b153_q
  have V_b154 := V_b154_q
  have V_b155 := V_b155_q
  refine own_go (B := T159.setTop (mkF m 47 #[.val (.int p1), .val (.int p2), .val (.int p3), .val (.int p4), .val (.int p5), .val (.int p6), .val (.int vk), .val (.int (1 : Int32)), .val (.ref b151), .unset] [])) (fun t k => own_st st159 k) ?_
  refine own_go (B := T159.setTop (mkF m 49 #[.val (.int p1), .val (.int p2), .val (.int p3), .val (.int p4), .val (.int p5), .val (.int p6), .val (.int vk), .val (.int (1 : Int32)), .val (.ref b151), .unset] [(.int vk)])) (fun t k => XS.iload X159.here hx rfl (Jvm.hb hby at_47) rfl k) ?_
  refine own_go (B := T159.setTop (mkF m 50 #[.val (.int p1), .val (.int p2), .val (.int p3), .val (.int p4), .val (.int p5), .val (.int p6), .val (.int vk), .val (.int (1 : Int32)), .val (.ref b151), .unset] [(.int (2 : Int32)), (.int vk)])) (fun t k => XS.iconst X159.here hx rfl (Jvm.hb hby at_49) k) ?_
  refine own_go (B := T159.setTop (mkF m 58 #[.val (.int p1), .val (.int p2), .val (.int p3), .val (.int p4), .val (.int p5), .val (.int p6), .val (.int vk), .val (.int (1 : Int32)), .val (.ref b151), .unset] [])) (fun t k => XS.icmpYes X159.here hx rfl (pc0 := 50) (pc' := 58) rfl (Jvm.hb hby at_50) rfl (feq (by rw [hvk, hk]; decide)).2 (by decide) (by decide) k) ?_
  refine own_go (B := T159.setTop (mkF m 60 #[.val (.int p1), .val (.int p2), .val (.int p3), .val (.int p4), .val (.int p5), .val (.int p6), .val (.int vk), .val (.int (1 : Int32)), .val (.ref b151), .unset] [(.ref b151)])) (fun t k => XS.aload X159.here hx rfl (Jvm.hb hby at_58) rfl rfl k) ?_
  refine own_go (B := T159.setTop (mkF m 61 #[.val (.int p1), .val (.int p2), .val (.int p3), .val (.int p4), .val (.int p5), .val (.int p6), .val (.int vk), .val (.int (1 : Int32)), .val (.ref b151), .unset] [(.int p3), (.ref b151)])) (fun t k => XS.iloadN X159.here hx rfl (Jvm.hb hby at_60) rfl k) ?_
  refine own_go (B := T159.setTop (mkF m 62 #[.val (.int p1), .val (.int p2), .val (.int p3), .val (.int p4), .val (.int p5), .val (.int p6), .val (.int vk), .val (.int (1 : Int32)), .val (.ref b151), .unset] [(.int p4), (.int p3), (.ref b151)])) (fun t k => XS.iloadN X159.here hx rfl (Jvm.hb hby at_61) rfl k) ?_
  obtain ⟨cq160, kq160, q160a, q160b, q160c⟩ := isOf hZ rfl E_b151
  obtain ⟨_, _, ⟨T160, La160, ka160, na160⟩, -, X160, ⟨Lc160, hQ160, l160, y160, z160⟩, st160⟩ := X159.virtualBack hx (y := (⟨"com/example/term_unifier/termunifier/IntPairStack", "push", "(II)V"⟩ : MethodName)) (z := (⟨"com/example/term_unifier/termunifier/IntPairStack", "push", "(II)V"⟩ : MethodName)) hown (mvT hZ (own_w hw 29 rfl)) (mvT hZ (own_w hw 30 rfl)) (notFace_of_selects (args := #[]) (mvT hZ (own_w hw 32 rfl))) (mvT hZ (own_w hw 32 rfl)) (mvT hZ (own_w hw 31 rfl)) (by decide) (backOf (W := 0) (rm4 l Z a0 hw [] b151 p3 p4 b153 b154 b155 b156 (0 : Int32) (1 : Int32) (0 : Int32) (2 : Int32) 1 (own_upd (fun _ => 0) 0 p1) (own_upd (fun _ => 0) 0 p2) (own_upd (fun _ => 0) 0 (-1 : Int32)) T159.heap n0 Zs E_b151 F_b151_firsts F_b151_seconds F_b151_below F_b151_top F_b151_used F_b151_kept F_b151_marks V_b153 V_b154 V_b155 g_b151 g_b153 g_b154 g_b155 ne_b151_b153 ne_b151_b154 ne_b151_b155 ne_b153_b154 ne_b153_b155 ne_b154_b155 (by decide) (by decide) (by decide) (by decide) (by decide)) hZ (own_w hw 33 rfl) (own_w hw 2 rfl) (by decide) (by decide)) q160a q160c (g := (mkF m 62 #[.val (.int p1), .val (.int p2), .val (.int p3), .val (.int p4), .val (.int p5), .val (.int p6), .val (.int vk), .val (.int (1 : Int32)), .val (.ref b151), .unset] [(.int p4), (.int p3), (.ref b151)])) rfl (by rw [hml]; rfl) (Steps.refl _) (argsL := [(.int p3), (.int p4)]) (rest := []) (lenOf pd_3 rfl) rfl (by show 2 * 0 + _ ≤ _; exact Nat.le_of_eq rfl) (Jvm.hb hby at_62) (fun _ _ => ⟨rfl, rfl, (by decide : 6 + 0 ≤ _), (by decide : 73 + 0 ≤ _)⟩)
  dsimp only [Pt.U, Pt.locs, Pt.cells, Pt.slots] at X160 l160 y160 z160 st160 hQ160
  have y160 : ka160 = 6 := y160
  have z160 : na160 = 73 := z160
  subst y160 z160
  obtain ⟨rfl, N160q, Kc160, E_b151_q, F_b151_firsts_q, F_b151_seconds_q, F_b151_below_q, F_b151_top_q, F_b151_used_q, F_b151_kept_q, F_b151_marks_q, V_b153_q, V_b154_q, V_b155_q⟩ := hQ160
  have N160 : Fr n0 La160 := by rw [l160]; exact Fr.app N159 N160q
  have E_b156 := E_b156.keep Kc160
  have F_b156_items := F_b156_items.keep Kc160 (ninS (Ne.symm ne_b151_b156) (ninS (Ne.symm ne_b153_b156) (ninS (Ne.symm ne_b154_b156) (ninS (Ne.symm ne_b155_b156) nin0))))
  have F_b156_size := F_b156_size.keep Kc160 (ninS (Ne.symm ne_b151_b156) (ninS (Ne.symm ne_b153_b156) (ninS (Ne.symm ne_b154_b156) (ninS (Ne.symm ne_b155_b156) nin0))))
  have V_b157 := V_b157.keep Kc160 (ninS (Ne.symm ne_b151_b157) (ninS (Ne.symm ne_b153_b157) (ninS (Ne.symm ne_b154_b157) (ninS (Ne.symm ne_b155_b157) nin0))))
  have Zs := Nat.le_trans Zs Kc160.1
  have E_b151 := E_b151_q
  have F_b151_firsts := F_b151_firsts_q
  have F_b151_seconds := F_b151_seconds_q
  have F_b151_below := F_b151_below_q
  have F_b151_top := F_b151_top_q
  have F_b151_used := F_b151_used_q
  have F_b151_kept := F_b151_kept_q
  have F_b151_marks := F_b151_marks_q
  have V_b153 := V_b153_q
  have V_b154 := V_b154_q
  have V_b155 := V_b155_q
  refine own_go (B := T160.setTop (mkF m 65 #[.val (.int p1), .val (.int p2), .val (.int p3), .val (.int p4), .val (.int p5), .val (.int p6), .val (.int vk), .val (.int (1 : Int32)), .val (.ref b151), .unset] [])) (fun t k => own_st st160 k) ?_
  refine own_go (B := T160.setTop (mkF m 67 #[.val (.int p1), .val (.int p2), .val (.int p3), .val (.int p4), .val (.int p5), .val (.int p6), .val (.int vk), .val (.int (1 : Int32)), .val (.ref b151), .unset] [(.int vk)])) (fun t k => XS.iload X160.here hx rfl (Jvm.hb hby at_65) rfl k) ?_
  refine own_go (B := T160.setTop (mkF m 68 #[.val (.int p1), .val (.int p2), .val (.int p3), .val (.int p4), .val (.int p5), .val (.int p6), .val (.int vk), .val (.int (1 : Int32)), .val (.ref b151), .unset] [(.int (3 : Int32)), (.int vk)])) (fun t k => XS.iconst X160.here hx rfl (Jvm.hb hby at_67) k) ?_
  refine own_go (B := T160.setTop (mkF m 76 #[.val (.int p1), .val (.int p2), .val (.int p3), .val (.int p4), .val (.int p5), .val (.int p6), .val (.int vk), .val (.int (1 : Int32)), .val (.ref b151), .unset] [])) (fun t k => XS.icmpYes X160.here hx rfl (pc0 := 68) (pc' := 76) rfl (Jvm.hb hby at_68) rfl (feq (by rw [hvk, hk]; decide)).2 (by decide) (by decide) k) ?_
  refine own_go (B := T160.setTop (mkF m 78 #[.val (.int p1), .val (.int p2), .val (.int p3), .val (.int p4), .val (.int p5), .val (.int p6), .val (.int vk), .val (.int (1 : Int32)), .val (.ref b151), .unset] [(.ref b151)])) (fun t k => XS.aload X160.here hx rfl (Jvm.hb hby at_76) rfl rfl k) ?_
  obtain ⟨cq161, kq161, q161a, q161b, q161c⟩ := isOf hZ rfl E_b151
  obtain ⟨_, _, ⟨T161, La161, ka161, na161⟩, -, X161, ⟨Lc161, hQ161, l161, y161, z161⟩, st161⟩ := X160.virtualBack hx (y := (⟨"com/example/term_unifier/termunifier/IntPairStack", "pop", "()V"⟩ : MethodName)) (z := (⟨"com/example/term_unifier/termunifier/IntPairStack", "pop", "()V"⟩ : MethodName)) hown (mvT hZ (own_w hw 50 rfl)) (mvT hZ (own_w hw 51 rfl)) (notFace_of_selects (args := #[]) (mvT hZ (own_w hw 53 rfl))) (mvT hZ (own_w hw 53 rfl)) (mvT hZ (own_w hw 52 rfl)) (by decide) (backOf (W := 0) (rm_popd l Z a0 hw [] b151 b153 b154 b155 b156 (1 : Int32) (2 : Int32) (0 : Int32) (0 : Int32) (1 : Int32) 1 (own_upd (own_upd (fun _ => 0) 0 (-1 : Int32)) 1 (0 : Int32)) T160.heap n0 Zs E_b151 F_b151_firsts F_b151_seconds F_b151_below F_b151_top F_b151_used F_b151_kept F_b151_marks V_b155 g_b151 ne_b151_b155 (by decide) (by decide) (by decide) rfl (by decide) (by decide) (by decide)) hZ (own_w hw 54 rfl) (own_w hw 2 rfl) (by decide) (by decide)) q161a q161c (g := (mkF m 78 #[.val (.int p1), .val (.int p2), .val (.int p3), .val (.int p4), .val (.int p5), .val (.int p6), .val (.int vk), .val (.int (1 : Int32)), .val (.ref b151), .unset] [(.ref b151)])) rfl (by rw [hml]; rfl) (Steps.refl _) (argsL := []) (rest := []) (lenOf pd_0 rfl) rfl (by show 2 * 0 + _ ≤ _; exact Nat.le_of_eq rfl) (Jvm.hb hby at_78) (fun _ _ => ⟨rfl, rfl, (by decide : 6 + 0 ≤ _), (by decide : 73 + 0 ≤ _)⟩)
  dsimp only [Pt.U, Pt.locs, Pt.cells, Pt.slots] at X161 l161 y161 z161 st161 hQ161
  have y161 : ka161 = 6 := y161
  have z161 : na161 = 73 := z161
  subst y161 z161
  obtain ⟨rfl, N161q, Kc161, E_b151_q, F_b151_firsts_q, F_b151_seconds_q, F_b151_below_q, F_b151_top_q, F_b151_used_q, F_b151_kept_q, F_b151_marks_q⟩ := hQ161
  have N161 : Fr n0 La161 := by rw [l161]; exact Fr.app N160 N161q
  have E_b156 := E_b156.keep Kc161
  have F_b156_items := F_b156_items.keep Kc161 (ninS (Ne.symm ne_b151_b156) nin0)
  have F_b156_size := F_b156_size.keep Kc161 (ninS (Ne.symm ne_b151_b156) nin0)
  have V_b157 := V_b157.keep Kc161 (ninS (Ne.symm ne_b151_b157) nin0)
  have V_b153 := V_b153.keep Kc161 (ninS (Ne.symm ne_b151_b153) nin0)
  have V_b154 := V_b154.keep Kc161 (ninS (Ne.symm ne_b151_b154) nin0)
  have V_b155 := V_b155.keep Kc161 (ninS (Ne.symm ne_b151_b155) nin0)
  have Zs := Nat.le_trans Zs Kc161.1
  have E_b151 := E_b151_q
  have F_b151_firsts := F_b151_firsts_q
  have F_b151_seconds := F_b151_seconds_q
  have F_b151_below := F_b151_below_q
  have F_b151_top := F_b151_top_q
  have F_b151_used := F_b151_used_q
  have F_b151_kept := F_b151_kept_q
  have F_b151_marks := F_b151_marks_q
  refine own_go (B := T161.setTop (mkF m 81 #[.val (.int p1), .val (.int p2), .val (.int p3), .val (.int p4), .val (.int p5), .val (.int p6), .val (.int vk), .val (.int (1 : Int32)), .val (.ref b151), .unset] [])) (fun t k => own_st st161 k) ?_
  refine own_go (B := T161.setTop (mkF m 83 #[.val (.int p1), .val (.int p2), .val (.int p3), .val (.int p4), .val (.int p5), .val (.int p6), .val (.int vk), .val (.int (1 : Int32)), .val (.ref b151), .unset] [(.ref b151)])) (fun t k => XS.aload X161.here hx rfl (Jvm.hb hby at_81) rfl rfl k) ?_
  obtain ⟨cq162, kq162, q162a, q162b, q162c⟩ := isOf hZ rfl E_b151
  obtain ⟨_, _, ⟨T162, La162, ka162, na162⟩, -, X162, ⟨Lc162, hQ162, l162, y162, z162⟩, st162⟩ := X161.virtualBack hx (y := (⟨"com/example/term_unifier/termunifier/IntPairStack", "isEmpty", "()Z"⟩ : MethodName)) (z := (⟨"com/example/term_unifier/termunifier/IntPairStack", "isEmpty", "()Z"⟩ : MethodName)) hown (mvT hZ (own_w hw 55 rfl)) (mvT hZ (own_w hw 56 rfl)) (notFace_of_selects (args := #[]) (mvT hZ (own_w hw 58 rfl))) (mvT hZ (own_w hw 58 rfl)) (mvT hZ (own_w hw 57 rfl)) (by decide) (backOf (W := 0) (rm8 l Z a0 hw [] b151 (0 : Int32) (0 : Int32) T161.heap n0 Zs F_b151_top (by decide)) hZ (own_w hw 59 rfl) (own_w hw 2 rfl) (by decide) (by decide)) q162a q162c (g := (mkF m 83 #[.val (.int p1), .val (.int p2), .val (.int p3), .val (.int p4), .val (.int p5), .val (.int p6), .val (.int vk), .val (.int (1 : Int32)), .val (.ref b151), .unset] [(.ref b151)])) rfl (by rw [hml]; rfl) (Steps.refl _) (argsL := []) (rest := []) (lenOf pd_4 rfl) rfl (by show 2 * 0 + _ ≤ _; exact Nat.le_of_eq rfl) (Jvm.hb hby at_83) (fun _ _ => ⟨rfl, rfl, (by decide : 6 + 0 ≤ _), (by decide : 73 + 0 ≤ _)⟩)
  dsimp only [Pt.U, Pt.locs, Pt.cells, Pt.slots] at X162 l162 y162 z162 st162 hQ162
  have y162 : ka162 = 6 := y162
  have z162 : na162 = 73 := z162
  subst y162 z162
  obtain ⟨rfl, N162q, e162⟩ := hQ162
  have N162 : Fr n0 La162 := by rw [l162]; exact Fr.app N161 N162q
  refine own_go (B := T162.setTop (mkF m 86 #[.val (.int p1), .val (.int p2), .val (.int p3), .val (.int p4), .val (.int p5), .val (.int p6), .val (.int vk), .val (.int (1 : Int32)), .val (.ref b151), .unset] [(.int (0 : Int32))])) (fun t k => own_st st162 k) ?_
  refine own_go (B := T162.setTop (mkF m 89 #[.val (.int p1), .val (.int p2), .val (.int p3), .val (.int p4), .val (.int p5), .val (.int p6), .val (.int vk), .val (.int (1 : Int32)), .val (.ref b151), .unset] [])) (fun t k => XS.ifNo X162.here hx rfl (Jvm.hb hby at_86) rfl ((if0 _ _).trans (teq (by decide : (0 : Int32) = (0 : Int32))).2) k) ?_
  refine own_go (B := T162.setTop (mkF m 91 #[.val (.int p1), .val (.int p2), .val (.int p3), .val (.int p4), .val (.int p5), .val (.int p6), .val (.int vk), .val (.int (1 : Int32)), .val (.ref b151), .unset] [(.ref b151)])) (fun t k => XS.aload X162.here hx rfl (Jvm.hb hby at_89) rfl rfl k) ?_
  obtain ⟨cq163, kq163, q163a, q163b, q163c⟩ := isOf hZ e162 E_b151
  obtain ⟨_, _, ⟨T163, La163, ka163, na163⟩, -, X163, ⟨Lc163, hQ163, l163, y163, z163⟩, st163⟩ := X162.virtualBack hx (y := (⟨"com/example/term_unifier/termunifier/IntPairStack", "first", "()I"⟩ : MethodName)) (z := (⟨"com/example/term_unifier/termunifier/IntPairStack", "first", "()I"⟩ : MethodName)) hown (mvT hZ (own_w hw 60 rfl)) (mvT hZ (own_w hw 61 rfl)) (notFace_of_selects (args := #[]) (mvT hZ (own_w hw 63 rfl))) (mvT hZ (own_w hw 63 rfl)) (mvT hZ (own_w hw 62 rfl)) (by decide) (backOf (W := 0) (rm9 l Z a0 hw [] b151 b153 (0 : Int32) 0 (own_upd (own_upd (fun _ => 0) 0 p1) 1 p3) p1 T161.heap n0 Zs F_b151_firsts F_b151_top V_b153 (by decide) (by decide) (by decide) rfl) hZ (own_w hw 64 rfl) (own_w hw 2 rfl) (by decide) (by decide)) q163a q163c (g := (mkF m 91 #[.val (.int p1), .val (.int p2), .val (.int p3), .val (.int p4), .val (.int p5), .val (.int p6), .val (.int vk), .val (.int (1 : Int32)), .val (.ref b151), .unset] [(.ref b151)])) rfl (by rw [hml]; rfl) (Steps.refl _) (argsL := []) (rest := []) (lenOf pd_2 rfl) rfl (by show 2 * 0 + _ ≤ _; exact Nat.le_of_eq rfl) (Jvm.hb hby at_91) (fun _ _ => ⟨rfl, e162, (by decide : 6 + 0 ≤ _), (by decide : 73 + 0 ≤ _)⟩)
  dsimp only [Pt.U, Pt.locs, Pt.cells, Pt.slots] at X163 l163 y163 z163 st163 hQ163
  have y163 : ka163 = 6 := y163
  have z163 : na163 = 73 := z163
  subst y163 z163
  obtain ⟨rfl, N163q, e163⟩ := hQ163
  have N163 : Fr n0 La163 := by rw [l163]; exact Fr.app N162 N163q
  refine own_go (B := T163.setTop (mkF m 94 #[.val (.int p1), .val (.int p2), .val (.int p3), .val (.int p4), .val (.int p5), .val (.int p6), .val (.int vk), .val (.int (1 : Int32)), .val (.ref b151), .unset] [(.int p1)])) (fun t k => own_st st163 k) ?_
  refine own_go (B := T163.setTop (mkF m 95 #[.val (.int p1), .val (.int p2), .val (.int p3), .val (.int p4), .val (.int p5), .val (.int p6), .val (.int vk), .val (.int (1 : Int32)), .val (.ref b151), .unset] [(.int p1), (.int p1)])) (fun t k => XS.iloadN X163.here hx rfl (Jvm.hb hby at_94) rfl k) ?_
  refine own_go (B := T163.setTop (mkF m 98 #[.val (.int p1), .val (.int p2), .val (.int p3), .val (.int p4), .val (.int p5), .val (.int p6), .val (.int vk), .val (.int (1 : Int32)), .val (.ref b151), .unset] [])) (fun t k => XS.icmpNo X163.here hx rfl (Jvm.hb hby at_95) rfl (teq (rfl : p1 = p1)).2 k) ?_
  refine own_go (B := T163.setTop (mkF m 100 #[.val (.int p1), .val (.int p2), .val (.int p3), .val (.int p4), .val (.int p5), .val (.int p6), .val (.int vk), .val (.int (1 : Int32)), .val (.ref b151), .unset] [(.ref b151)])) (fun t k => XS.aload X163.here hx rfl (Jvm.hb hby at_98) rfl rfl k) ?_
  obtain ⟨cq164, kq164, q164a, q164b, q164c⟩ := isOf hZ e163 E_b151
  obtain ⟨_, _, ⟨T164, La164, ka164, na164⟩, -, X164, ⟨Lc164, hQ164, l164, y164, z164⟩, st164⟩ := X163.virtualBack hx (y := (⟨"com/example/term_unifier/termunifier/IntPairStack", "second", "()I"⟩ : MethodName)) (z := (⟨"com/example/term_unifier/termunifier/IntPairStack", "second", "()I"⟩ : MethodName)) hown (mvT hZ (own_w hw 65 rfl)) (mvT hZ (own_w hw 66 rfl)) (notFace_of_selects (args := #[]) (mvT hZ (own_w hw 68 rfl))) (mvT hZ (own_w hw 68 rfl)) (mvT hZ (own_w hw 67 rfl)) (by decide) (backOf (W := 0) (rm10 l Z a0 hw [] b151 b154 (0 : Int32) 0 (own_upd (own_upd (fun _ => 0) 0 p2) 1 p4) p2 T161.heap n0 Zs F_b151_seconds F_b151_top V_b154 (by decide) (by decide) (by decide) rfl) hZ (own_w hw 69 rfl) (own_w hw 2 rfl) (by decide) (by decide)) q164a q164c (g := (mkF m 100 #[.val (.int p1), .val (.int p2), .val (.int p3), .val (.int p4), .val (.int p5), .val (.int p6), .val (.int vk), .val (.int (1 : Int32)), .val (.ref b151), .unset] [(.ref b151)])) rfl (by rw [hml]; rfl) (Steps.refl _) (argsL := []) (rest := []) (lenOf pd_2 rfl) rfl (by show 2 * 0 + _ ≤ _; exact Nat.le_of_eq rfl) (Jvm.hb hby at_100) (fun _ _ => ⟨rfl, e163, (by decide : 6 + 0 ≤ _), (by decide : 73 + 0 ≤ _)⟩)
  dsimp only [Pt.U, Pt.locs, Pt.cells, Pt.slots] at X164 l164 y164 z164 st164 hQ164
  have y164 : ka164 = 6 := y164
  have z164 : na164 = 73 := z164
  subst y164 z164
  obtain ⟨rfl, N164q, e164⟩ := hQ164
  have N164 : Fr n0 La164 := by rw [l164]; exact Fr.app N163 N164q
  refine own_go (B := T164.setTop (mkF m 103 #[.val (.int p1), .val (.int p2), .val (.int p3), .val (.int p4), .val (.int p5), .val (.int p6), .val (.int vk), .val (.int (1 : Int32)), .val (.ref b151), .unset] [(.int p2)])) (fun t k => own_st st164 k) ?_
  refine own_go (B := T164.setTop (mkF m 104 #[.val (.int p1), .val (.int p2), .val (.int p3), .val (.int p4), .val (.int p5), .val (.int p6), .val (.int vk), .val (.int (1 : Int32)), .val (.ref b151), .unset] [(.int p2), (.int p2)])) (fun t k => XS.iloadN X164.here hx rfl (Jvm.hb hby at_103) rfl k) ?_
  refine own_go (B := T164.setTop (mkF m 107 #[.val (.int p1), .val (.int p2), .val (.int p3), .val (.int p4), .val (.int p5), .val (.int p6), .val (.int vk), .val (.int (1 : Int32)), .val (.ref b151), .unset] [])) (fun t k => XS.icmpNo X164.here hx rfl (Jvm.hb hby at_104) rfl (teq (rfl : p2 = p2)).2 k) ?_
  refine own_go (B := T164.setTop (mkF m 108 #[.val (.int p1), .val (.int p2), .val (.int p3), .val (.int p4), .val (.int p5), .val (.int p6), .val (.int vk), .val (.int (1 : Int32)), .val (.ref b151), .unset] [(.int (1 : Int32))])) (fun t k => XS.iconst X164.here hx rfl (Jvm.hb hby at_107) k) ?_
  refine own_go (B := T164.setTop (mkF m 112 #[.val (.int p1), .val (.int p2), .val (.int p3), .val (.int p4), .val (.int p5), .val (.int p6), .val (.int vk), .val (.int (1 : Int32)), .val (.ref b151), .unset] [(.int (1 : Int32))])) (fun t k => XS.goto X164.here hx rfl (pc0 := 108) (pc' := 112) rfl (Jvm.hb hby at_108) (by decide) (by decide) k) ?_
  refine own_go (B := T164.setTop (mkF m 114 #[.val (.int p1), .val (.int p2), .val (.int p3), .val (.int p4), .val (.int p5), .val (.int p6), .val (.int vk), .val (.int (1 : Int32)), .val (.ref b151), .val (.int (1 : Int32))] [])) (fun t k => XS.istore X164.here hx rfl (Jvm.hb hby at_112) rfl (l' := #[.val (.int p1), .val (.int p2), .val (.int p3), .val (.int p4), .val (.int p5), .val (.int p6), .val (.int vk), .val (.int (1 : Int32)), .val (.ref b151), .val (.int (1 : Int32))]) rfl k) ?_
  refine own_go (B := T164.setTop (mkF m 116 #[.val (.int p1), .val (.int p2), .val (.int p3), .val (.int p4), .val (.int p5), .val (.int p6), .val (.int vk), .val (.int (1 : Int32)), .val (.ref b151), .val (.int (1 : Int32))] [(.int (1 : Int32))])) (fun t k => XS.iload X164.here hx rfl (Jvm.hb hby at_114) rfl k) ?_
  refine own_go (B := T164.setTop (mkF m 119 #[.val (.int p1), .val (.int p2), .val (.int p3), .val (.int p4), .val (.int p5), .val (.int p6), .val (.int vk), .val (.int (1 : Int32)), .val (.ref b151), .val (.int (1 : Int32))] [])) (fun t k => XS.ifNo X164.here hx rfl (Jvm.hb hby at_116) rfl ((if0 _ _).trans (feq (by decide : ¬ ((1 : Int32) = (0 : Int32)))).1) k) ?_
  refine own_go (B := T164.setTop (mkF m 121 #[.val (.int p1), .val (.int p2), .val (.int p3), .val (.int p4), .val (.int p5), .val (.int p6), .val (.int vk), .val (.int (1 : Int32)), .val (.ref b151), .val (.int (1 : Int32))] [(.ref b151)])) (fun t k => XS.aload X164.here hx rfl (Jvm.hb hby at_119) rfl rfl k) ?_
  obtain ⟨cq165, kq165, q165a, q165b, q165c⟩ := isOf hZ e164 E_b151
  obtain ⟨_, _, ⟨T165, La165, ka165, na165⟩, -, X165, ⟨Lc165, hQ165, l165, y165, z165⟩, st165⟩ := X164.virtualBack hx (y := (⟨"com/example/term_unifier/termunifier/IntPairStack", "pop", "()V"⟩ : MethodName)) (z := (⟨"com/example/term_unifier/termunifier/IntPairStack", "pop", "()V"⟩ : MethodName)) hown (mvT hZ (own_w hw 50 rfl)) (mvT hZ (own_w hw 51 rfl)) (notFace_of_selects (args := #[]) (mvT hZ (own_w hw 53 rfl))) (mvT hZ (own_w hw 53 rfl)) (mvT hZ (own_w hw 52 rfl)) (by decide) (backOf (W := 0) (rm_popd l Z a0 hw [] b151 b153 b154 b155 b156 (0 : Int32) (1 : Int32) (0 : Int32) (-1 : Int32) (0 : Int32) 0 (own_upd (own_upd (fun _ => 0) 0 (-1 : Int32)) 1 (0 : Int32)) T161.heap n0 Zs E_b151 F_b151_firsts F_b151_seconds F_b151_below F_b151_top F_b151_used F_b151_kept F_b151_marks V_b155 g_b151 ne_b151_b155 (by decide) (by decide) (by decide) rfl (by decide) (by decide) (by decide)) hZ (own_w hw 54 rfl) (own_w hw 2 rfl) (by decide) (by decide)) q165a q165c (g := (mkF m 121 #[.val (.int p1), .val (.int p2), .val (.int p3), .val (.int p4), .val (.int p5), .val (.int p6), .val (.int vk), .val (.int (1 : Int32)), .val (.ref b151), .val (.int (1 : Int32))] [(.ref b151)])) rfl (by rw [hml]; rfl) (Steps.refl _) (argsL := []) (rest := []) (lenOf pd_0 rfl) rfl (by show 2 * 0 + _ ≤ _; exact Nat.le_of_eq rfl) (Jvm.hb hby at_121) (fun _ _ => ⟨rfl, e164, (by decide : 6 + 0 ≤ _), (by decide : 73 + 0 ≤ _)⟩)
  dsimp only [Pt.U, Pt.locs, Pt.cells, Pt.slots] at X165 l165 y165 z165 st165 hQ165
  have y165 : ka165 = 6 := y165
  have z165 : na165 = 73 := z165
  subst y165 z165
  obtain ⟨rfl, N165q, Kc165, E_b151_q, F_b151_firsts_q, F_b151_seconds_q, F_b151_below_q, F_b151_top_q, F_b151_used_q, F_b151_kept_q, F_b151_marks_q⟩ := hQ165
  have N165 : Fr n0 La165 := by rw [l165]; exact Fr.app N164 N165q
  have E_b156 := E_b156.keep Kc165
  have F_b156_items := F_b156_items.keep Kc165 (ninS (Ne.symm ne_b151_b156) nin0)
  have F_b156_size := F_b156_size.keep Kc165 (ninS (Ne.symm ne_b151_b156) nin0)
  have V_b157 := V_b157.keep Kc165 (ninS (Ne.symm ne_b151_b157) nin0)
  have V_b153 := V_b153.keep Kc165 (ninS (Ne.symm ne_b151_b153) nin0)
  have V_b154 := V_b154.keep Kc165 (ninS (Ne.symm ne_b151_b154) nin0)
  have V_b155 := V_b155.keep Kc165 (ninS (Ne.symm ne_b151_b155) nin0)
  have Zs := Nat.le_trans Zs Kc165.1
  have E_b151 := E_b151_q
  have F_b151_firsts := F_b151_firsts_q
  have F_b151_seconds := F_b151_seconds_q
  have F_b151_below := F_b151_below_q
  have F_b151_top := F_b151_top_q
  have F_b151_used := F_b151_used_q
  have F_b151_kept := F_b151_kept_q
  have F_b151_marks := F_b151_marks_q
  refine own_go (B := T165.setTop (mkF m 124 #[.val (.int p1), .val (.int p2), .val (.int p3), .val (.int p4), .val (.int p5), .val (.int p6), .val (.int vk), .val (.int (1 : Int32)), .val (.ref b151), .val (.int (1 : Int32))] [])) (fun t k => own_st st165 k) ?_
  refine own_go (B := T165.setTop (mkF m 126 #[.val (.int p1), .val (.int p2), .val (.int p3), .val (.int p4), .val (.int p5), .val (.int p6), .val (.int vk), .val (.int (1 : Int32)), .val (.ref b151), .val (.int (1 : Int32))] [(.int (1 : Int32))])) (fun t k => XS.iload X165.here hx rfl (Jvm.hb hby at_124) rfl k) ?_
  refine own_go (B := T165.setTop (mkF m 129 #[.val (.int p1), .val (.int p2), .val (.int p3), .val (.int p4), .val (.int p5), .val (.int p6), .val (.int vk), .val (.int (1 : Int32)), .val (.ref b151), .val (.int (1 : Int32))] [])) (fun t k => XS.ifNo X165.here hx rfl (Jvm.hb hby at_126) rfl ((if0 _ _).trans (feq (by decide : ¬ ((1 : Int32) = (0 : Int32)))).1) k) ?_
  refine own_go (B := T165.setTop (mkF m 131 #[.val (.int p1), .val (.int p2), .val (.int p3), .val (.int p4), .val (.int p5), .val (.int p6), .val (.int vk), .val (.int (1 : Int32)), .val (.ref b151), .val (.int (1 : Int32))] [(.ref b151)])) (fun t k => XS.aload X165.here hx rfl (Jvm.hb hby at_129) rfl rfl k) ?_
  obtain ⟨cq166, kq166, q166a, q166b, q166c⟩ := isOf hZ rfl E_b151
  obtain ⟨_, _, ⟨T166, La166, ka166, na166⟩, -, X166, ⟨Lc166, hQ166, l166, y166, z166⟩, st166⟩ := X165.virtualBack hx (y := (⟨"com/example/term_unifier/termunifier/IntPairStack", "isEmpty", "()Z"⟩ : MethodName)) (z := (⟨"com/example/term_unifier/termunifier/IntPairStack", "isEmpty", "()Z"⟩ : MethodName)) hown (mvT hZ (own_w hw 55 rfl)) (mvT hZ (own_w hw 56 rfl)) (notFace_of_selects (args := #[]) (mvT hZ (own_w hw 58 rfl))) (mvT hZ (own_w hw 58 rfl)) (mvT hZ (own_w hw 57 rfl)) (by decide) (backOf (W := 0) (rm8 l Z a0 hw [] b151 (-1 : Int32) (1 : Int32) T165.heap n0 Zs F_b151_top (by decide)) hZ (own_w hw 59 rfl) (own_w hw 2 rfl) (by decide) (by decide)) q166a q166c (g := (mkF m 131 #[.val (.int p1), .val (.int p2), .val (.int p3), .val (.int p4), .val (.int p5), .val (.int p6), .val (.int vk), .val (.int (1 : Int32)), .val (.ref b151), .val (.int (1 : Int32))] [(.ref b151)])) rfl (by rw [hml]; rfl) (Steps.refl _) (argsL := []) (rest := []) (lenOf pd_4 rfl) rfl (by show 2 * 0 + _ ≤ _; exact Nat.le_of_eq rfl) (Jvm.hb hby at_131) (fun _ _ => ⟨rfl, rfl, (by decide : 6 + 0 ≤ _), (by decide : 73 + 0 ≤ _)⟩)
  dsimp only [Pt.U, Pt.locs, Pt.cells, Pt.slots] at X166 l166 y166 z166 st166 hQ166
  have y166 : ka166 = 6 := y166
  have z166 : na166 = 73 := z166
  subst y166 z166
  obtain ⟨rfl, N166q, e166⟩ := hQ166
  have N166 : Fr n0 La166 := by rw [l166]; exact Fr.app N165 N166q
  refine own_go (B := T166.setTop (mkF m 134 #[.val (.int p1), .val (.int p2), .val (.int p3), .val (.int p4), .val (.int p5), .val (.int p6), .val (.int vk), .val (.int (1 : Int32)), .val (.ref b151), .val (.int (1 : Int32))] [(.int (1 : Int32))])) (fun t k => own_st st166 k) ?_
  refine own_go (B := T166.setTop (mkF m 137 #[.val (.int p1), .val (.int p2), .val (.int p3), .val (.int p4), .val (.int p5), .val (.int p6), .val (.int vk), .val (.int (1 : Int32)), .val (.ref b151), .val (.int (1 : Int32))] [])) (fun t k => XS.ifNo X166.here hx rfl (Jvm.hb hby at_134) rfl ((if0 _ _).trans (feq (by decide : ¬ ((1 : Int32) = (0 : Int32)))).1) k) ?_
  refine own_go (B := T166.setTop (mkF m 138 #[.val (.int p1), .val (.int p2), .val (.int p3), .val (.int p4), .val (.int p5), .val (.int p6), .val (.int vk), .val (.int (1 : Int32)), .val (.ref b151), .val (.int (1 : Int32))] [(.int (1 : Int32))])) (fun t k => XS.iconst X166.here hx rfl (Jvm.hb hby at_137) k) ?_
  refine own_go (B := T166.setTop (mkF m 142 #[.val (.int p1), .val (.int p2), .val (.int p3), .val (.int p4), .val (.int p5), .val (.int p6), .val (.int vk), .val (.int (1 : Int32)), .val (.ref b151), .val (.int (1 : Int32))] [(.int (1 : Int32))])) (fun t k => XS.goto X166.here hx rfl (pc0 := 138) (pc' := 142) rfl (Jvm.hb hby at_138) (by decide) (by decide) k) ?_
  refine own_go (B := T166.setTop (mkF m 144 #[.val (.int p1), .val (.int p2), .val (.int p3), .val (.int p4), .val (.int p5), .val (.int p6), .val (.int vk), .val (.int (1 : Int32)), .val (.ref b151), .val (.int (1 : Int32))] [])) (fun t k => XS.istore X166.here hx rfl (Jvm.hb hby at_142) rfl (l' := #[.val (.int p1), .val (.int p2), .val (.int p3), .val (.int p4), .val (.int p5), .val (.int p6), .val (.int vk), .val (.int (1 : Int32)), .val (.ref b151), .val (.int (1 : Int32))]) rfl k) ?_
  refine own_go (B := T166.setTop (mkF m 146 #[.val (.int p1), .val (.int p2), .val (.int p3), .val (.int p4), .val (.int p5), .val (.int p6), .val (.int vk), .val (.int (1 : Int32)), .val (.ref b151), .val (.int (1 : Int32))] [(.ref b151)])) (fun t k => XS.aload X166.here hx rfl (Jvm.hb hby at_144) rfl rfl k) ?_
  refine own_go (B := T166.setTop (mkF m 148 #[.val (.int p1), .val (.int p2), .val (.int p3), .val (.int p4), .val (.int p5), .val (.int p6), .val (.int vk), .val (.int (1 : Int32)), .val (.ref b151), .val (.int (1 : Int32))] [(.int p5), (.ref b151)])) (fun t k => XS.iload X166.here hx rfl (Jvm.hb hby at_146) rfl k) ?_
  refine own_go (B := T166.setTop (mkF m 150 #[.val (.int p1), .val (.int p2), .val (.int p3), .val (.int p4), .val (.int p5), .val (.int p6), .val (.int vk), .val (.int (1 : Int32)), .val (.ref b151), .val (.int (1 : Int32))] [(.int p5), (.int p5), (.ref b151)])) (fun t k => XS.iload X166.here hx rfl (Jvm.hb hby at_148) rfl k) ?_
  refine own_go (B := T166.setTop (mkF m 151 #[.val (.int p1), .val (.int p2), .val (.int p3), .val (.int p4), .val (.int p5), .val (.int p6), .val (.int vk), .val (.int (1 : Int32)), .val (.ref b151), .val (.int (1 : Int32))] [(.int (-1 : Int32)), (.int p5), (.int p5), (.ref b151)])) (fun t k => XS.iconst X166.here hx rfl (Jvm.hb hby at_150) k) ?_
  refine own_go (B := T166.setTop (mkF m 152 #[.val (.int p1), .val (.int p2), .val (.int p3), .val (.int p4), .val (.int p5), .val (.int p6), .val (.int vk), .val (.int (1 : Int32)), .val (.ref b151), .val (.int (1 : Int32))] [(.int (p5 ^^^ (-1 : Int32))), (.int p5), (.ref b151)])) (fun t k => XS.ixor X166.here hx rfl (Jvm.hb hby at_151) rfl k) ?_
  obtain ⟨cq167, kq167, q167a, q167b, q167c⟩ := isOf hZ e166 E_b151
  obtain ⟨_, _, ⟨T167, La167, ka167, na167⟩, -, X167, ⟨Lc167, hQ167, l167, y167, z167⟩, st167⟩ := X166.virtualBack hx (y := (⟨"com/example/term_unifier/termunifier/IntPairStack", "push", "(II)V"⟩ : MethodName)) (z := (⟨"com/example/term_unifier/termunifier/IntPairStack", "push", "(II)V"⟩ : MethodName)) hown (mvT hZ (own_w hw 29 rfl)) (mvT hZ (own_w hw 30 rfl)) (notFace_of_selects (args := #[]) (mvT hZ (own_w hw 32 rfl))) (mvT hZ (own_w hw 32 rfl)) (mvT hZ (own_w hw 31 rfl)) (by decide) (backOf (W := 0) (rm4 l Z a0 hw [] b151 p5 (p5 ^^^ (-1 : Int32)) b153 b154 b155 b156 (-1 : Int32) (0 : Int32) (0 : Int32) (1 : Int32) 0 (own_upd (own_upd (fun _ => 0) 0 p1) 1 p3) (own_upd (own_upd (fun _ => 0) 0 p2) 1 p4) (own_upd (own_upd (fun _ => 0) 0 (-1 : Int32)) 1 (0 : Int32)) T165.heap n0 Zs E_b151 F_b151_firsts F_b151_seconds F_b151_below F_b151_top F_b151_used F_b151_kept F_b151_marks V_b153 V_b154 V_b155 g_b151 g_b153 g_b154 g_b155 ne_b151_b153 ne_b151_b154 ne_b151_b155 ne_b153_b154 ne_b153_b155 ne_b154_b155 (by decide) (by decide) (by decide) (by decide) (by decide)) hZ (own_w hw 33 rfl) (own_w hw 2 rfl) (by decide) (by decide)) q167a q167c (g := (mkF m 152 #[.val (.int p1), .val (.int p2), .val (.int p3), .val (.int p4), .val (.int p5), .val (.int p6), .val (.int vk), .val (.int (1 : Int32)), .val (.ref b151), .val (.int (1 : Int32))] [(.int (p5 ^^^ (-1 : Int32))), (.int p5), (.ref b151)])) rfl (by rw [hml]; rfl) (Steps.refl _) (argsL := [(.int p5), (.int (p5 ^^^ (-1 : Int32)))]) (rest := []) (lenOf pd_3 rfl) rfl (by show 2 * 0 + _ ≤ _; exact Nat.le_of_eq rfl) (Jvm.hb hby at_152) (fun _ _ => ⟨rfl, e166, (by decide : 6 + 0 ≤ _), (by decide : 73 + 0 ≤ _)⟩)
  dsimp only [Pt.U, Pt.locs, Pt.cells, Pt.slots] at X167 l167 y167 z167 st167 hQ167
  have y167 : ka167 = 6 := y167
  have z167 : na167 = 73 := z167
  subst y167 z167
  obtain ⟨rfl, N167q, Kc167, E_b151_q, F_b151_firsts_q, F_b151_seconds_q, F_b151_below_q, F_b151_top_q, F_b151_used_q, F_b151_kept_q, F_b151_marks_q, V_b153_q, V_b154_q, V_b155_q⟩ := hQ167
  have N167 : Fr n0 La167 := by rw [l167]; exact Fr.app N166 N167q
  have E_b156 := E_b156.keep Kc167
  have F_b156_items := F_b156_items.keep Kc167 (ninS (Ne.symm ne_b151_b156) (ninS (Ne.symm ne_b153_b156) (ninS (Ne.symm ne_b154_b156) (ninS (Ne.symm ne_b155_b156) nin0))))
  have F_b156_size := F_b156_size.keep Kc167 (ninS (Ne.symm ne_b151_b156) (ninS (Ne.symm ne_b153_b156) (ninS (Ne.symm ne_b154_b156) (ninS (Ne.symm ne_b155_b156) nin0))))
  have V_b157 := V_b157.keep Kc167 (ninS (Ne.symm ne_b151_b157) (ninS (Ne.symm ne_b153_b157) (ninS (Ne.symm ne_b154_b157) (ninS (Ne.symm ne_b155_b157) nin0))))
  have Zs := Nat.le_trans Zs Kc167.1
  have E_b151 := E_b151_q
  have F_b151_firsts := F_b151_firsts_q
  have F_b151_seconds := F_b151_seconds_q
  have F_b151_below := F_b151_below_q
  have F_b151_top := F_b151_top_q
  have F_b151_used := F_b151_used_q
  have F_b151_kept := F_b151_kept_q
  have F_b151_marks := F_b151_marks_q
  have V_b153 := V_b153_q
  have V_b154 := V_b154_q
  have V_b155 := V_b155_q
  refine own_go (B := T167.setTop (mkF m 155 #[.val (.int p1), .val (.int p2), .val (.int p3), .val (.int p4), .val (.int p5), .val (.int p6), .val (.int vk), .val (.int (1 : Int32)), .val (.ref b151), .val (.int (1 : Int32))] [])) (fun t k => own_st st167 k) ?_
  refine own_go (B := T167.setTop (mkF m 157 #[.val (.int p1), .val (.int p2), .val (.int p3), .val (.int p4), .val (.int p5), .val (.int p6), .val (.int vk), .val (.int (1 : Int32)), .val (.ref b151), .val (.int (1 : Int32))] [(.int (1 : Int32))])) (fun t k => XS.iload X167.here hx rfl (Jvm.hb hby at_155) rfl k) ?_
  refine own_go (B := T167.setTop (mkF m 160 #[.val (.int p1), .val (.int p2), .val (.int p3), .val (.int p4), .val (.int p5), .val (.int p6), .val (.int vk), .val (.int (1 : Int32)), .val (.ref b151), .val (.int (1 : Int32))] [])) (fun t k => XS.ifNo X167.here hx rfl (Jvm.hb hby at_157) rfl ((if0 _ _).trans (feq (by decide : ¬ ((1 : Int32) = (0 : Int32)))).1) k) ?_
  refine own_go (B := T167.setTop (mkF m 162 #[.val (.int p1), .val (.int p2), .val (.int p3), .val (.int p4), .val (.int p5), .val (.int p6), .val (.int vk), .val (.int (1 : Int32)), .val (.ref b151), .val (.int (1 : Int32))] [(.ref b151)])) (fun t k => XS.aload X167.here hx rfl (Jvm.hb hby at_160) rfl rfl k) ?_
  obtain ⟨cq168, kq168, q168a, q168b, q168c⟩ := isOf hZ rfl E_b151
  obtain ⟨_, _, ⟨T168, La168, ka168, na168⟩, -, X168, ⟨Lc168, hQ168, l168, y168, z168⟩, st168⟩ := X167.virtualBack hx (y := (⟨"com/example/term_unifier/termunifier/IntPairStack", "isEmpty", "()Z"⟩ : MethodName)) (z := (⟨"com/example/term_unifier/termunifier/IntPairStack", "isEmpty", "()Z"⟩ : MethodName)) hown (mvT hZ (own_w hw 55 rfl)) (mvT hZ (own_w hw 56 rfl)) (notFace_of_selects (args := #[]) (mvT hZ (own_w hw 58 rfl))) (mvT hZ (own_w hw 58 rfl)) (mvT hZ (own_w hw 57 rfl)) (by decide) (backOf (W := 0) (rm8 l Z a0 hw [] b151 (0 : Int32) (0 : Int32) T167.heap n0 Zs F_b151_top (by decide)) hZ (own_w hw 59 rfl) (own_w hw 2 rfl) (by decide) (by decide)) q168a q168c (g := (mkF m 162 #[.val (.int p1), .val (.int p2), .val (.int p3), .val (.int p4), .val (.int p5), .val (.int p6), .val (.int vk), .val (.int (1 : Int32)), .val (.ref b151), .val (.int (1 : Int32))] [(.ref b151)])) rfl (by rw [hml]; rfl) (Steps.refl _) (argsL := []) (rest := []) (lenOf pd_4 rfl) rfl (by show 2 * 0 + _ ≤ _; exact Nat.le_of_eq rfl) (Jvm.hb hby at_162) (fun _ _ => ⟨rfl, rfl, (by decide : 6 + 0 ≤ _), (by decide : 73 + 0 ≤ _)⟩)
  dsimp only [Pt.U, Pt.locs, Pt.cells, Pt.slots] at X168 l168 y168 z168 st168 hQ168
  have y168 : ka168 = 6 := y168
  have z168 : na168 = 73 := z168
  subst y168 z168
  obtain ⟨rfl, N168q, e168⟩ := hQ168
  have N168 : Fr n0 La168 := by rw [l168]; exact Fr.app N167 N168q
  refine own_go (B := T168.setTop (mkF m 165 #[.val (.int p1), .val (.int p2), .val (.int p3), .val (.int p4), .val (.int p5), .val (.int p6), .val (.int vk), .val (.int (1 : Int32)), .val (.ref b151), .val (.int (1 : Int32))] [(.int (0 : Int32))])) (fun t k => own_st st168 k) ?_
  refine own_go (B := T168.setTop (mkF m 168 #[.val (.int p1), .val (.int p2), .val (.int p3), .val (.int p4), .val (.int p5), .val (.int p6), .val (.int vk), .val (.int (1 : Int32)), .val (.ref b151), .val (.int (1 : Int32))] [])) (fun t k => XS.ifNo X168.here hx rfl (Jvm.hb hby at_165) rfl ((if0 _ _).trans (teq (by decide : (0 : Int32) = (0 : Int32))).2) k) ?_
  refine own_go (B := T168.setTop (mkF m 170 #[.val (.int p1), .val (.int p2), .val (.int p3), .val (.int p4), .val (.int p5), .val (.int p6), .val (.int vk), .val (.int (1 : Int32)), .val (.ref b151), .val (.int (1 : Int32))] [(.ref b151)])) (fun t k => XS.aload X168.here hx rfl (Jvm.hb hby at_168) rfl rfl k) ?_
  obtain ⟨cq169, kq169, q169a, q169b, q169c⟩ := isOf hZ e168 E_b151
  obtain ⟨_, _, ⟨T169, La169, ka169, na169⟩, -, X169, ⟨Lc169, hQ169, l169, y169, z169⟩, st169⟩ := X168.virtualBack hx (y := (⟨"com/example/term_unifier/termunifier/IntPairStack", "first", "()I"⟩ : MethodName)) (z := (⟨"com/example/term_unifier/termunifier/IntPairStack", "first", "()I"⟩ : MethodName)) hown (mvT hZ (own_w hw 60 rfl)) (mvT hZ (own_w hw 61 rfl)) (notFace_of_selects (args := #[]) (mvT hZ (own_w hw 63 rfl))) (mvT hZ (own_w hw 63 rfl)) (mvT hZ (own_w hw 62 rfl)) (by decide) (backOf (W := 0) (rm9 l Z a0 hw [] b151 b153 (0 : Int32) 0 (own_upd (own_upd (own_upd (fun _ => 0) 0 p1) 1 p3) 0 p5) p5 T167.heap n0 Zs F_b151_firsts F_b151_top V_b153 (by decide) (by decide) (by decide) rfl) hZ (own_w hw 64 rfl) (own_w hw 2 rfl) (by decide) (by decide)) q169a q169c (g := (mkF m 170 #[.val (.int p1), .val (.int p2), .val (.int p3), .val (.int p4), .val (.int p5), .val (.int p6), .val (.int vk), .val (.int (1 : Int32)), .val (.ref b151), .val (.int (1 : Int32))] [(.ref b151)])) rfl (by rw [hml]; rfl) (Steps.refl _) (argsL := []) (rest := []) (lenOf pd_2 rfl) rfl (by show 2 * 0 + _ ≤ _; exact Nat.le_of_eq rfl) (Jvm.hb hby at_170) (fun _ _ => ⟨rfl, e168, (by decide : 6 + 0 ≤ _), (by decide : 73 + 0 ≤ _)⟩)
  dsimp only [Pt.U, Pt.locs, Pt.cells, Pt.slots] at X169 l169 y169 z169 st169 hQ169
  have y169 : ka169 = 6 := y169
  have z169 : na169 = 73 := z169
  subst y169 z169
  obtain ⟨rfl, N169q, e169⟩ := hQ169
  have N169 : Fr n0 La169 := by rw [l169]; exact Fr.app N168 N169q
  refine own_go (B := T169.setTop (mkF m 173 #[.val (.int p1), .val (.int p2), .val (.int p3), .val (.int p4), .val (.int p5), .val (.int p6), .val (.int vk), .val (.int (1 : Int32)), .val (.ref b151), .val (.int (1 : Int32))] [(.int p5)])) (fun t k => own_st st169 k) ?_
  refine own_go (B := T169.setTop (mkF m 175 #[.val (.int p1), .val (.int p2), .val (.int p3), .val (.int p4), .val (.int p5), .val (.int p6), .val (.int vk), .val (.int (1 : Int32)), .val (.ref b151), .val (.int (1 : Int32))] [(.int p5), (.int p5)])) (fun t k => XS.iload X169.here hx rfl (Jvm.hb hby at_173) rfl k) ?_
  refine own_go (B := T169.setTop (mkF m 178 #[.val (.int p1), .val (.int p2), .val (.int p3), .val (.int p4), .val (.int p5), .val (.int p6), .val (.int vk), .val (.int (1 : Int32)), .val (.ref b151), .val (.int (1 : Int32))] [])) (fun t k => XS.icmpNo X169.here hx rfl (Jvm.hb hby at_175) rfl (teq (rfl : p5 = p5)).2 k) ?_
  refine own_go (B := T169.setTop (mkF m 180 #[.val (.int p1), .val (.int p2), .val (.int p3), .val (.int p4), .val (.int p5), .val (.int p6), .val (.int vk), .val (.int (1 : Int32)), .val (.ref b151), .val (.int (1 : Int32))] [(.ref b151)])) (fun t k => XS.aload X169.here hx rfl (Jvm.hb hby at_178) rfl rfl k) ?_
  obtain ⟨cq170, kq170, q170a, q170b, q170c⟩ := isOf hZ e169 E_b151
  obtain ⟨_, _, ⟨T170, La170, ka170, na170⟩, -, X170, ⟨Lc170, hQ170, l170, y170, z170⟩, st170⟩ := X169.virtualBack hx (y := (⟨"com/example/term_unifier/termunifier/IntPairStack", "second", "()I"⟩ : MethodName)) (z := (⟨"com/example/term_unifier/termunifier/IntPairStack", "second", "()I"⟩ : MethodName)) hown (mvT hZ (own_w hw 65 rfl)) (mvT hZ (own_w hw 66 rfl)) (notFace_of_selects (args := #[]) (mvT hZ (own_w hw 68 rfl))) (mvT hZ (own_w hw 68 rfl)) (mvT hZ (own_w hw 67 rfl)) (by decide) (backOf (W := 0) (rm10 l Z a0 hw [] b151 b154 (0 : Int32) 0 (own_upd (own_upd (own_upd (fun _ => 0) 0 p2) 1 p4) 0 (p5 ^^^ (-1 : Int32))) (p5 ^^^ (-1 : Int32)) T167.heap n0 Zs F_b151_seconds F_b151_top V_b154 (by decide) (by decide) (by decide) rfl) hZ (own_w hw 69 rfl) (own_w hw 2 rfl) (by decide) (by decide)) q170a q170c (g := (mkF m 180 #[.val (.int p1), .val (.int p2), .val (.int p3), .val (.int p4), .val (.int p5), .val (.int p6), .val (.int vk), .val (.int (1 : Int32)), .val (.ref b151), .val (.int (1 : Int32))] [(.ref b151)])) rfl (by rw [hml]; rfl) (Steps.refl _) (argsL := []) (rest := []) (lenOf pd_2 rfl) rfl (by show 2 * 0 + _ ≤ _; exact Nat.le_of_eq rfl) (Jvm.hb hby at_180) (fun _ _ => ⟨rfl, e169, (by decide : 6 + 0 ≤ _), (by decide : 73 + 0 ≤ _)⟩)
  dsimp only [Pt.U, Pt.locs, Pt.cells, Pt.slots] at X170 l170 y170 z170 st170 hQ170
  have y170 : ka170 = 6 := y170
  have z170 : na170 = 73 := z170
  subst y170 z170
  obtain ⟨rfl, N170q, e170⟩ := hQ170
  have N170 : Fr n0 La170 := by rw [l170]; exact Fr.app N169 N170q
  refine own_go (B := T170.setTop (mkF m 183 #[.val (.int p1), .val (.int p2), .val (.int p3), .val (.int p4), .val (.int p5), .val (.int p6), .val (.int vk), .val (.int (1 : Int32)), .val (.ref b151), .val (.int (1 : Int32))] [(.int (p5 ^^^ (-1 : Int32)))])) (fun t k => own_st st170 k) ?_
  refine own_go (B := T170.setTop (mkF m 185 #[.val (.int p1), .val (.int p2), .val (.int p3), .val (.int p4), .val (.int p5), .val (.int p6), .val (.int vk), .val (.int (1 : Int32)), .val (.ref b151), .val (.int (1 : Int32))] [(.int p5), (.int (p5 ^^^ (-1 : Int32)))])) (fun t k => XS.iload X170.here hx rfl (Jvm.hb hby at_183) rfl k) ?_
  refine own_go (B := T170.setTop (mkF m 186 #[.val (.int p1), .val (.int p2), .val (.int p3), .val (.int p4), .val (.int p5), .val (.int p6), .val (.int vk), .val (.int (1 : Int32)), .val (.ref b151), .val (.int (1 : Int32))] [(.int (-1 : Int32)), (.int p5), (.int (p5 ^^^ (-1 : Int32)))])) (fun t k => XS.iconst X170.here hx rfl (Jvm.hb hby at_185) k) ?_
  refine own_go (B := T170.setTop (mkF m 187 #[.val (.int p1), .val (.int p2), .val (.int p3), .val (.int p4), .val (.int p5), .val (.int p6), .val (.int vk), .val (.int (1 : Int32)), .val (.ref b151), .val (.int (1 : Int32))] [(.int (p5 ^^^ (-1 : Int32))), (.int (p5 ^^^ (-1 : Int32)))])) (fun t k => XS.ixor X170.here hx rfl (Jvm.hb hby at_186) rfl k) ?_
  refine own_go (B := T170.setTop (mkF m 190 #[.val (.int p1), .val (.int p2), .val (.int p3), .val (.int p4), .val (.int p5), .val (.int p6), .val (.int vk), .val (.int (1 : Int32)), .val (.ref b151), .val (.int (1 : Int32))] [])) (fun t k => XS.icmpNo X170.here hx rfl (Jvm.hb hby at_187) rfl (teq (rfl : (p5 ^^^ (-1 : Int32)) = (p5 ^^^ (-1 : Int32)))).2 k) ?_
  refine own_go (B := T170.setTop (mkF m 191 #[.val (.int p1), .val (.int p2), .val (.int p3), .val (.int p4), .val (.int p5), .val (.int p6), .val (.int vk), .val (.int (1 : Int32)), .val (.ref b151), .val (.int (1 : Int32))] [(.int (1 : Int32))])) (fun t k => XS.iconst X170.here hx rfl (Jvm.hb hby at_190) k) ?_
  refine own_go (B := T170.setTop (mkF m 195 #[.val (.int p1), .val (.int p2), .val (.int p3), .val (.int p4), .val (.int p5), .val (.int p6), .val (.int vk), .val (.int (1 : Int32)), .val (.ref b151), .val (.int (1 : Int32))] [(.int (1 : Int32))])) (fun t k => XS.goto X170.here hx rfl (pc0 := 191) (pc' := 195) rfl (Jvm.hb hby at_191) (by decide) (by decide) k) ?_
  refine own_go (B := T170.setTop (mkF m 197 #[.val (.int p1), .val (.int p2), .val (.int p3), .val (.int p4), .val (.int p5), .val (.int p6), .val (.int vk), .val (.int (1 : Int32)), .val (.ref b151), .val (.int (1 : Int32))] [])) (fun t k => XS.istore X170.here hx rfl (Jvm.hb hby at_195) rfl (l' := #[.val (.int p1), .val (.int p2), .val (.int p3), .val (.int p4), .val (.int p5), .val (.int p6), .val (.int vk), .val (.int (1 : Int32)), .val (.ref b151), .val (.int (1 : Int32))]) rfl k) ?_
  refine own_go (B := T170.setTop (mkF m 199 #[.val (.int p1), .val (.int p2), .val (.int p3), .val (.int p4), .val (.int p5), .val (.int p6), .val (.int vk), .val (.int (1 : Int32)), .val (.ref b151), .val (.int (1 : Int32))] [(.ref b151)])) (fun t k => XS.aload X170.here hx rfl (Jvm.hb hby at_197) rfl rfl k) ?_
  obtain ⟨cq171, kq171, q171a, q171b, q171c⟩ := isOf hZ e170 E_b151
  obtain ⟨_, _, ⟨T171, La171, ka171, na171⟩, -, X171, ⟨Lc171, hQ171, l171, y171, z171⟩, st171⟩ := X170.virtualBack hx (y := (⟨"com/example/term_unifier/termunifier/IntPairStack", "pop", "()V"⟩ : MethodName)) (z := (⟨"com/example/term_unifier/termunifier/IntPairStack", "pop", "()V"⟩ : MethodName)) hown (mvT hZ (own_w hw 50 rfl)) (mvT hZ (own_w hw 51 rfl)) (notFace_of_selects (args := #[]) (mvT hZ (own_w hw 53 rfl))) (mvT hZ (own_w hw 53 rfl)) (mvT hZ (own_w hw 52 rfl)) (by decide) (backOf (W := 0) (rm_popd l Z a0 hw [] b151 b153 b154 b155 b156 (0 : Int32) (1 : Int32) (0 : Int32) (-1 : Int32) (0 : Int32) 0 (own_upd (own_upd (own_upd (fun _ => 0) 0 (-1 : Int32)) 1 (0 : Int32)) 0 (-1 : Int32)) T167.heap n0 Zs E_b151 F_b151_firsts F_b151_seconds F_b151_below F_b151_top F_b151_used F_b151_kept F_b151_marks V_b155 g_b151 ne_b151_b155 (by decide) (by decide) (by decide) rfl (by decide) (by decide) (by decide)) hZ (own_w hw 54 rfl) (own_w hw 2 rfl) (by decide) (by decide)) q171a q171c (g := (mkF m 199 #[.val (.int p1), .val (.int p2), .val (.int p3), .val (.int p4), .val (.int p5), .val (.int p6), .val (.int vk), .val (.int (1 : Int32)), .val (.ref b151), .val (.int (1 : Int32))] [(.ref b151)])) rfl (by rw [hml]; rfl) (Steps.refl _) (argsL := []) (rest := []) (lenOf pd_0 rfl) rfl (by show 2 * 0 + _ ≤ _; exact Nat.le_of_eq rfl) (Jvm.hb hby at_199) (fun _ _ => ⟨rfl, e170, (by decide : 6 + 0 ≤ _), (by decide : 73 + 0 ≤ _)⟩)
  dsimp only [Pt.U, Pt.locs, Pt.cells, Pt.slots] at X171 l171 y171 z171 st171 hQ171
  have y171 : ka171 = 6 := y171
  have z171 : na171 = 73 := z171
  subst y171 z171
  obtain ⟨rfl, N171q, Kc171, E_b151_q, F_b151_firsts_q, F_b151_seconds_q, F_b151_below_q, F_b151_top_q, F_b151_used_q, F_b151_kept_q, F_b151_marks_q⟩ := hQ171
  have N171 : Fr n0 La171 := by rw [l171]; exact Fr.app N170 N171q
  have E_b156 := E_b156.keep Kc171
  have F_b156_items := F_b156_items.keep Kc171 (ninS (Ne.symm ne_b151_b156) nin0)
  have F_b156_size := F_b156_size.keep Kc171 (ninS (Ne.symm ne_b151_b156) nin0)
  have V_b157 := V_b157.keep Kc171 (ninS (Ne.symm ne_b151_b157) nin0)
  have V_b153 := V_b153.keep Kc171 (ninS (Ne.symm ne_b151_b153) nin0)
  have V_b154 := V_b154.keep Kc171 (ninS (Ne.symm ne_b151_b154) nin0)
  have V_b155 := V_b155.keep Kc171 (ninS (Ne.symm ne_b151_b155) nin0)
  have Zs := Nat.le_trans Zs Kc171.1
  have E_b151 := E_b151_q
  have F_b151_firsts := F_b151_firsts_q
  have F_b151_seconds := F_b151_seconds_q
  have F_b151_below := F_b151_below_q
  have F_b151_top := F_b151_top_q
  have F_b151_used := F_b151_used_q
  have F_b151_kept := F_b151_kept_q
  have F_b151_marks := F_b151_marks_q
  refine own_go (B := T171.setTop (mkF m 202 #[.val (.int p1), .val (.int p2), .val (.int p3), .val (.int p4), .val (.int p5), .val (.int p6), .val (.int vk), .val (.int (1 : Int32)), .val (.ref b151), .val (.int (1 : Int32))] [])) (fun t k => own_st st171 k) ?_
  refine own_go (B := T171.setTop (mkF m 204 #[.val (.int p1), .val (.int p2), .val (.int p3), .val (.int p4), .val (.int p5), .val (.int p6), .val (.int vk), .val (.int (1 : Int32)), .val (.ref b151), .val (.int (1 : Int32))] [(.int (1 : Int32))])) (fun t k => XS.iload X171.here hx rfl (Jvm.hb hby at_202) rfl k) ?_
  refine own_go (B := T171.setTop (mkF m 207 #[.val (.int p1), .val (.int p2), .val (.int p3), .val (.int p4), .val (.int p5), .val (.int p6), .val (.int vk), .val (.int (1 : Int32)), .val (.ref b151), .val (.int (1 : Int32))] [])) (fun t k => XS.ifNo X171.here hx rfl (Jvm.hb hby at_204) rfl ((if0 _ _).trans (feq (by decide : ¬ ((1 : Int32) = (0 : Int32)))).1) k) ?_
  refine own_go (B := T171.setTop (mkF m 209 #[.val (.int p1), .val (.int p2), .val (.int p3), .val (.int p4), .val (.int p5), .val (.int p6), .val (.int vk), .val (.int (1 : Int32)), .val (.ref b151), .val (.int (1 : Int32))] [(.int (1 : Int32))])) (fun t k => XS.iload X171.here hx rfl (Jvm.hb hby at_207) rfl k) ?_
  refine own_go (B := T171.setTop (mkF m 212 #[.val (.int p1), .val (.int p2), .val (.int p3), .val (.int p4), .val (.int p5), .val (.int p6), .val (.int vk), .val (.int (1 : Int32)), .val (.ref b151), .val (.int (1 : Int32))] [])) (fun t k => XS.ifNo X171.here hx rfl (Jvm.hb hby at_209) rfl ((if0 _ _).trans (feq (by decide : ¬ ((1 : Int32) = (0 : Int32)))).1) k) ?_
  refine own_go (B := T171.setTop (mkF m 214 #[.val (.int p1), .val (.int p2), .val (.int p3), .val (.int p4), .val (.int p5), .val (.int p6), .val (.int vk), .val (.int (1 : Int32)), .val (.ref b151), .val (.int (1 : Int32))] [(.ref b151)])) (fun t k => XS.aload X171.here hx rfl (Jvm.hb hby at_212) rfl rfl k) ?_
  obtain ⟨cq172, kq172, q172a, q172b, q172c⟩ := isOf hZ rfl E_b151
  obtain ⟨_, _, ⟨T172, La172, ka172, na172⟩, -, X172, ⟨Lc172, hQ172, l172, y172, z172⟩, st172⟩ := X171.virtualBack hx (y := (⟨"com/example/term_unifier/termunifier/IntPairStack", "isEmpty", "()Z"⟩ : MethodName)) (z := (⟨"com/example/term_unifier/termunifier/IntPairStack", "isEmpty", "()Z"⟩ : MethodName)) hown (mvT hZ (own_w hw 55 rfl)) (mvT hZ (own_w hw 56 rfl)) (notFace_of_selects (args := #[]) (mvT hZ (own_w hw 58 rfl))) (mvT hZ (own_w hw 58 rfl)) (mvT hZ (own_w hw 57 rfl)) (by decide) (backOf (W := 0) (rm8 l Z a0 hw [] b151 (-1 : Int32) (1 : Int32) T171.heap n0 Zs F_b151_top (by decide)) hZ (own_w hw 59 rfl) (own_w hw 2 rfl) (by decide) (by decide)) q172a q172c (g := (mkF m 214 #[.val (.int p1), .val (.int p2), .val (.int p3), .val (.int p4), .val (.int p5), .val (.int p6), .val (.int vk), .val (.int (1 : Int32)), .val (.ref b151), .val (.int (1 : Int32))] [(.ref b151)])) rfl (by rw [hml]; rfl) (Steps.refl _) (argsL := []) (rest := []) (lenOf pd_4 rfl) rfl (by show 2 * 0 + _ ≤ _; exact Nat.le_of_eq rfl) (Jvm.hb hby at_214) (fun _ _ => ⟨rfl, rfl, (by decide : 6 + 0 ≤ _), (by decide : 73 + 0 ≤ _)⟩)
  dsimp only [Pt.U, Pt.locs, Pt.cells, Pt.slots] at X172 l172 y172 z172 st172 hQ172
  have y172 : ka172 = 6 := y172
  have z172 : na172 = 73 := z172
  subst y172 z172
  obtain ⟨rfl, N172q, e172⟩ := hQ172
  have N172 : Fr n0 La172 := by rw [l172]; exact Fr.app N171 N172q
  refine own_go (B := T172.setTop (mkF m 217 #[.val (.int p1), .val (.int p2), .val (.int p3), .val (.int p4), .val (.int p5), .val (.int p6), .val (.int vk), .val (.int (1 : Int32)), .val (.ref b151), .val (.int (1 : Int32))] [(.int (1 : Int32))])) (fun t k => own_st st172 k) ?_
  refine own_go (B := T172.setTop (mkF m 220 #[.val (.int p1), .val (.int p2), .val (.int p3), .val (.int p4), .val (.int p5), .val (.int p6), .val (.int vk), .val (.int (1 : Int32)), .val (.ref b151), .val (.int (1 : Int32))] [])) (fun t k => XS.ifNo X172.here hx rfl (Jvm.hb hby at_217) rfl ((if0 _ _).trans (feq (by decide : ¬ ((1 : Int32) = (0 : Int32)))).1) k) ?_
  refine own_go (B := T172.setTop (mkF m 221 #[.val (.int p1), .val (.int p2), .val (.int p3), .val (.int p4), .val (.int p5), .val (.int p6), .val (.int vk), .val (.int (1 : Int32)), .val (.ref b151), .val (.int (1 : Int32))] [(.int (1 : Int32))])) (fun t k => XS.iconst X172.here hx rfl (Jvm.hb hby at_220) k) ?_
  refine own_go (B := T172.setTop (mkF m 225 #[.val (.int p1), .val (.int p2), .val (.int p3), .val (.int p4), .val (.int p5), .val (.int p6), .val (.int vk), .val (.int (1 : Int32)), .val (.ref b151), .val (.int (1 : Int32))] [(.int (1 : Int32))])) (fun t k => XS.goto X172.here hx rfl (pc0 := 221) (pc' := 225) rfl (Jvm.hb hby at_221) (by decide) (by decide) k) ?_
  refine own_go (B := T172.setTop (mkF m 227 #[.val (.int p1), .val (.int p2), .val (.int p3), .val (.int p4), .val (.int p5), .val (.int p6), .val (.int vk), .val (.int (1 : Int32)), .val (.ref b151), .val (.int (1 : Int32))] [])) (fun t k => XS.istore X172.here hx rfl (Jvm.hb hby at_225) rfl (l' := #[.val (.int p1), .val (.int p2), .val (.int p3), .val (.int p4), .val (.int p5), .val (.int p6), .val (.int vk), .val (.int (1 : Int32)), .val (.ref b151), .val (.int (1 : Int32))]) rfl k) ?_
  refine own_go (B := T172.setTop (mkF m 268 #[.val (.int p1), .val (.int p2), .val (.int p3), .val (.int p4), .val (.int p5), .val (.int p6), .val (.int vk), .val (.int (1 : Int32)), .val (.ref b151), .val (.int (1 : Int32))] [])) (fun t k => XS.goto X172.here hx rfl (pc0 := 227) (pc' := 268) rfl (Jvm.hb hby at_227) (by decide) (by decide) k) ?_
  refine own_go (B := T172.setTop (mkF m 270 #[.val (.int p1), .val (.int p2), .val (.int p3), .val (.int p4), .val (.int p5), .val (.int p6), .val (.int vk), .val (.int (1 : Int32)), .val (.ref b151), .val (.int (1 : Int32))] [(.int vk)])) (fun t k => XS.iload X172.here hx rfl (Jvm.hb hby at_268) rfl k) ?_
  refine own_go (B := T172.setTop (mkF m 273 #[.val (.int p1), .val (.int p2), .val (.int p3), .val (.int p4), .val (.int p5), .val (.int p6), .val (.int vk), .val (.int (1 : Int32)), .val (.ref b151), .val (.int (1 : Int32))] [])) (fun t k => XS.ifNo X172.here hx rfl (Jvm.hb hby at_270) rfl ((if0 _ _).trans (feq (by rw [hvk, hk]; decide)).1) k) ?_
  refine own_go (B := T172.setTop (mkF m 275 #[.val (.int p1), .val (.int p2), .val (.int p3), .val (.int p4), .val (.int p5), .val (.int p6), .val (.int vk), .val (.int (1 : Int32)), .val (.ref b151), .val (.int (1 : Int32))] [(.ref b151)])) (fun t k => XS.aload X172.here hx rfl (Jvm.hb hby at_273) rfl rfl k) ?_
  obtain ⟨cq173, kq173, q173a, q173b, q173c⟩ := isOf hZ e172 E_b151
  obtain ⟨_, _, ⟨T173, La173, ka173, na173⟩, -, X173, ⟨Lc173, hQ173, l173, y173, z173⟩, st173⟩ := X172.virtualBack hx (y := (⟨"com/example/term_unifier/termunifier/IntPairStack", "returnToMark", "()V"⟩ : MethodName)) (z := (⟨"com/example/term_unifier/termunifier/IntPairStack", "returnToMark", "()V"⟩ : MethodName)) hown (mvT hZ (own_w hw 70 rfl)) (mvT hZ (own_w hw 71 rfl)) (notFace_of_selects (args := #[]) (mvT hZ (own_w hw 73 rfl))) (mvT hZ (own_w hw 73 rfl)) (mvT hZ (own_w hw 72 rfl)) (by decide) (backOf (W := 0) (rm11 l Z a0 hw [] b151 b153 b154 b155 b156 b157 (-1 : Int32) (0 : Int32) (0 : Int32) (0 : Int32) (0 : Int32) (-1 : Int32) (own_upd (own_upd (own_upd (fun _ => 0) 0 (-1 : Int32)) 1 (0 : Int32)) 2 (0 : Int32)) T171.heap n0 Zs E_b151 F_b151_firsts F_b151_seconds F_b151_below F_b151_top F_b151_used F_b151_kept F_b151_marks E_b156 F_b156_items F_b156_size V_b157 g_b151 g_b156 ne_b151_b156 ne_b151_b157 ne_b156_b157 rfl rfl rfl) hZ (own_w hw 74 rfl) (own_w hw 2 rfl) (by decide) (by decide)) q173a q173c (g := (mkF m 275 #[.val (.int p1), .val (.int p2), .val (.int p3), .val (.int p4), .val (.int p5), .val (.int p6), .val (.int vk), .val (.int (1 : Int32)), .val (.ref b151), .val (.int (1 : Int32))] [(.ref b151)])) rfl (by rw [hml]; rfl) (Steps.refl _) (argsL := []) (rest := []) (lenOf pd_0 rfl) rfl (by show 2 * 0 + _ ≤ _; exact Nat.le_of_eq rfl) (Jvm.hb hby at_275) (fun _ _ => ⟨rfl, e172, (by decide : 6 + 0 ≤ _), (by decide : 73 + 0 ≤ _)⟩)
  dsimp only [Pt.U, Pt.locs, Pt.cells, Pt.slots] at X173 l173 y173 z173 st173 hQ173
  have y173 : ka173 = 6 := y173
  have z173 : na173 = 73 := z173
  subst y173 z173
  obtain ⟨rfl, N173q, Kc173, E_b151_q, F_b151_firsts_q, F_b151_seconds_q, F_b151_below_q, F_b151_top_q, F_b151_used_q, F_b151_kept_q, F_b151_marks_q, E_b156_q, F_b156_items_q, F_b156_size_q, V_b157_q⟩ := hQ173
  have N173 : Fr n0 La173 := by rw [l173]; exact Fr.app N172 N173q
  have V_b153 := V_b153.keep Kc173 (ninS (Ne.symm ne_b151_b153) (ninS ne_b153_b156 nin0))
  have V_b154 := V_b154.keep Kc173 (ninS (Ne.symm ne_b151_b154) (ninS ne_b154_b156 nin0))
  have V_b155 := V_b155.keep Kc173 (ninS (Ne.symm ne_b151_b155) (ninS ne_b155_b156 nin0))
  have Zs := Nat.le_trans Zs Kc173.1
  have E_b151 := E_b151_q
  have F_b151_firsts := F_b151_firsts_q
  have F_b151_seconds := F_b151_seconds_q
  have F_b151_below := F_b151_below_q
  have F_b151_top := F_b151_top_q
  have F_b151_used := F_b151_used_q
  have F_b151_kept := F_b151_kept_q
  have F_b151_marks := F_b151_marks_q
  have E_b156 := E_b156_q
  have F_b156_items := F_b156_items_q
  have F_b156_size := F_b156_size_q
  have V_b157 := V_b157_q
  refine own_go (B := T173.setTop (mkF m 278 #[.val (.int p1), .val (.int p2), .val (.int p3), .val (.int p4), .val (.int p5), .val (.int p6), .val (.int vk), .val (.int (1 : Int32)), .val (.ref b151), .val (.int (1 : Int32))] [])) (fun t k => own_st st173 k) ?_
  refine own_go (B := T173.setTop (mkF m 280 #[.val (.int p1), .val (.int p2), .val (.int p3), .val (.int p4), .val (.int p5), .val (.int p6), .val (.int vk), .val (.int (1 : Int32)), .val (.ref b151), .val (.int (1 : Int32))] [(.int vk)])) (fun t k => XS.iload X173.here hx rfl (Jvm.hb hby at_278) rfl k) ?_
  refine own_go (B := T173.setTop (mkF m 281 #[.val (.int p1), .val (.int p2), .val (.int p3), .val (.int p4), .val (.int p5), .val (.int p6), .val (.int vk), .val (.int (1 : Int32)), .val (.ref b151), .val (.int (1 : Int32))] [(.int (1 : Int32)), (.int vk)])) (fun t k => XS.iconst X173.here hx rfl (Jvm.hb hby at_280) k) ?_
  refine own_go (B := T173.setTop (mkF m 284 #[.val (.int p1), .val (.int p2), .val (.int p3), .val (.int p4), .val (.int p5), .val (.int p6), .val (.int vk), .val (.int (1 : Int32)), .val (.ref b151), .val (.int (1 : Int32))] [])) (fun t k => XS.icmpNo X173.here hx rfl (Jvm.hb hby at_281) rfl (teq (hvk.trans hk)).2 k) ?_
  refine own_go (B := T173.setTop (mkF m 286 #[.val (.int p1), .val (.int p2), .val (.int p3), .val (.int p4), .val (.int p5), .val (.int p6), .val (.int vk), .val (.int (1 : Int32)), .val (.ref b151), .val (.int (1 : Int32))] [(.int (1 : Int32))])) (fun t k => XS.iload X173.here hx rfl (Jvm.hb hby at_284) rfl k) ?_
  refine own_go (B := T173.setTop (mkF m 289 #[.val (.int p1), .val (.int p2), .val (.int p3), .val (.int p4), .val (.int p5), .val (.int p6), .val (.int vk), .val (.int (1 : Int32)), .val (.ref b151), .val (.int (1 : Int32))] [])) (fun t k => XS.ifNo X173.here hx rfl (Jvm.hb hby at_286) rfl ((if0 _ _).trans (feq (by decide : ¬ ((1 : Int32) = (0 : Int32)))).1) k) ?_
  refine own_go (B := T173.setTop (mkF m 291 #[.val (.int p1), .val (.int p2), .val (.int p3), .val (.int p4), .val (.int p5), .val (.int p6), .val (.int vk), .val (.int (1 : Int32)), .val (.ref b151), .val (.int (1 : Int32))] [(.ref b151)])) (fun t k => XS.aload X173.here hx rfl (Jvm.hb hby at_289) rfl rfl k) ?_
  obtain ⟨cq174, kq174, q174a, q174b, q174c⟩ := isOf hZ rfl E_b151
  obtain ⟨_, _, ⟨T174, La174, ka174, na174⟩, -, X174, ⟨Lc174, hQ174, l174, y174, z174⟩, st174⟩ := X173.virtualBack hx (y := (⟨"com/example/term_unifier/termunifier/IntPairStack", "isEmpty", "()Z"⟩ : MethodName)) (z := (⟨"com/example/term_unifier/termunifier/IntPairStack", "isEmpty", "()Z"⟩ : MethodName)) hown (mvT hZ (own_w hw 55 rfl)) (mvT hZ (own_w hw 56 rfl)) (notFace_of_selects (args := #[]) (mvT hZ (own_w hw 58 rfl))) (mvT hZ (own_w hw 58 rfl)) (mvT hZ (own_w hw 57 rfl)) (by decide) (backOf (W := 0) (rm8 l Z a0 hw [] b151 (-1 : Int32) (1 : Int32) T173.heap n0 Zs F_b151_top (by decide)) hZ (own_w hw 59 rfl) (own_w hw 2 rfl) (by decide) (by decide)) q174a q174c (g := (mkF m 291 #[.val (.int p1), .val (.int p2), .val (.int p3), .val (.int p4), .val (.int p5), .val (.int p6), .val (.int vk), .val (.int (1 : Int32)), .val (.ref b151), .val (.int (1 : Int32))] [(.ref b151)])) rfl (by rw [hml]; rfl) (Steps.refl _) (argsL := []) (rest := []) (lenOf pd_4 rfl) rfl (by show 2 * 0 + _ ≤ _; exact Nat.le_of_eq rfl) (Jvm.hb hby at_291) (fun _ _ => ⟨rfl, rfl, (by decide : 6 + 0 ≤ _), (by decide : 73 + 0 ≤ _)⟩)
  dsimp only [Pt.U, Pt.locs, Pt.cells, Pt.slots] at X174 l174 y174 z174 st174 hQ174
  have y174 : ka174 = 6 := y174
  have z174 : na174 = 73 := z174
  subst y174 z174
  obtain ⟨rfl, N174q, e174⟩ := hQ174
  have N174 : Fr n0 La174 := by rw [l174]; exact Fr.app N173 N174q
  refine own_go (B := T174.setTop (mkF m 294 #[.val (.int p1), .val (.int p2), .val (.int p3), .val (.int p4), .val (.int p5), .val (.int p6), .val (.int vk), .val (.int (1 : Int32)), .val (.ref b151), .val (.int (1 : Int32))] [(.int (1 : Int32))])) (fun t k => own_st st174 k) ?_
  refine own_go (B := T174.setTop (mkF m 297 #[.val (.int p1), .val (.int p2), .val (.int p3), .val (.int p4), .val (.int p5), .val (.int p6), .val (.int vk), .val (.int (1 : Int32)), .val (.ref b151), .val (.int (1 : Int32))] [])) (fun t k => XS.ifNo X174.here hx rfl (Jvm.hb hby at_294) rfl ((if0 _ _).trans (feq (by decide : ¬ ((1 : Int32) = (0 : Int32)))).1) k) ?_
  refine own_go (B := T174.setTop (mkF m 298 #[.val (.int p1), .val (.int p2), .val (.int p3), .val (.int p4), .val (.int p5), .val (.int p6), .val (.int vk), .val (.int (1 : Int32)), .val (.ref b151), .val (.int (1 : Int32))] [(.int (1 : Int32))])) (fun t k => XS.iconst X174.here hx rfl (Jvm.hb hby at_297) k) ?_
  refine own_go (B := T174.setTop (mkF m 302 #[.val (.int p1), .val (.int p2), .val (.int p3), .val (.int p4), .val (.int p5), .val (.int p6), .val (.int vk), .val (.int (1 : Int32)), .val (.ref b151), .val (.int (1 : Int32))] [(.int (1 : Int32))])) (fun t k => XS.goto X174.here hx rfl (pc0 := 298) (pc' := 302) rfl (Jvm.hb hby at_298) (by decide) (by decide) k) ?_
  refine own_go (B := T174.setTop (mkF m 304 #[.val (.int p1), .val (.int p2), .val (.int p3), .val (.int p4), .val (.int p5), .val (.int p6), .val (.int vk), .val (.int (1 : Int32)), .val (.ref b151), .val (.int (1 : Int32))] [])) (fun t k => XS.istore X174.here hx rfl (Jvm.hb hby at_302) rfl (l' := #[.val (.int p1), .val (.int p2), .val (.int p3), .val (.int p4), .val (.int p5), .val (.int p6), .val (.int vk), .val (.int (1 : Int32)), .val (.ref b151), .val (.int (1 : Int32))]) rfl k) ?_
  refine own_go (B := T174.setTop (mkF m 435 #[.val (.int p1), .val (.int p2), .val (.int p3), .val (.int p4), .val (.int p5), .val (.int p6), .val (.int vk), .val (.int (1 : Int32)), .val (.ref b151), .val (.int (1 : Int32))] [])) (fun t k => XS.goto X174.here hx rfl (pc0 := 304) (pc' := 435) rfl (Jvm.hb hby at_304) (by decide) (by decide) k) ?_
  refine own_go (B := T174.setTop (mkF m 437 #[.val (.int p1), .val (.int p2), .val (.int p3), .val (.int p4), .val (.int p5), .val (.int p6), .val (.int vk), .val (.int (1 : Int32)), .val (.ref b151), .val (.int (1 : Int32))] [(.int (1 : Int32))])) (fun t k => XS.iload X174.here hx rfl (Jvm.hb hby at_435) rfl k) ?_
  refine own_out X174 (v := (some (.int (1 : Int32)))) (fun h => by rw [Bd.returns] at h; cases h) Bd.notSynchronized (fun fs hr => retOut X174 hx (t := .boolean) Bd.returns rfl (by first | exact Or.inl ⟨rfl, by simp, _, rfl⟩) (Jvm.hb hby at_437) hr) ?_ (by decide) (by decide)
  show own_Q0 Z p1 p2 p3 p4 p5 p6 h0 n0 (some (.int (1 : Int32))) T174.heap _
  rw [e174]
  exact ⟨rfl, N174⟩
theorem ef_0_21 (m : MethodId) (x0 : Int32) (x1 : Int32) (x2 : Int32) (x3 : Int32) (x4 : Int32) (x5 : Int32) : entryFrame m #[(.int x0), (.int x1), (.int x2), (.int x3), (.int x4), (.int x5)] maxLocals = mkF m 0 #[.val (.int x0), .val (.int x1), .val (.int x2), .val (.int x3), .val (.int x4), .val (.int x5), .unset, .unset, .unset, .unset] [] := by first | (simp [entryFrame, mkF, argsToLocals, Value.category, maxLocals]; done) | rfl
set_option maxRecDepth 65536 in
set_option maxHeartbeats 40000000 in
theorem rm0_21 (l : Launch) (Z : State) (a0 : Array Value) (hw : ∀ d ∈ tables_1, d.before a0 Z = true) (ws : List Jvm.Cond) (p1 : Int32) (p2 : Int32) (p3 : Int32) (p4 : Int32) (p5 : Int32) (p6 : Int32) (h0 : Heap) (n0 : Nat) (Z0 : n0 ≤ h0.size) (hk : (p6 &&& (3 : Int32)) = (2 : Int32)) (ht : (p6 &&& (4 : Int32)) = (0 : Int32)) :
    MetFree l x (head1 (Jvm.Cond.code x code maxLocals ret :: ws) room_1) (fun a U => a = #[(.int p1), (.int p2), (.int p3), (.int p4), (.int p5), (.int p6)] ∧ Z.Warmed39 U.vm ∧ U.heap = h0) (fun _ _ _ _ _ => True) (fun _ U o U' => ∃ v L, o = .returned v ∧ own_Q0 Z p1 p2 p3 p4 p5 p6 h0 n0 v U'.heap L ∧ FrameEnd U o U' L room_1.cells room_1.slots) := by
  refine MetFree.of_bodySF (plainFor_of_name pn_com_example_term_unifier_termunifier_IntPairStackPopPinLaw) hisR ?_
  intro p e s m args below meth c s₁ Bd hml0 hP hK
  obtain ⟨rfl, hZ, hh⟩ := hP
  have hx := Bd.exec
  have hby := Bd.bytes
  have hml : c.maxLocals = 10 := hml0
  have hown : s.vm.findClass "com/example/term_unifier/termunifier/IntPairStackPopPinLaw" = some m.cls := findClass_of_methodNamed Bd.named
  have hnm := (name_of_methodNamed Bd.named Bd.method).1
  have X0 : Stand p l e room_1 s m #[(.int p1), (.int p2), (.int p3), (.int p4), (.int p5), (.int p6)] below meth c s₁ [] 0 0 := Stand.of_body Bd
  have e0 : s₁.heap = h0 := by rw [← hh, Bd.state]; rfl
  have N0 := Fr.nil n0
  have Zs := Z0
  show own_Goes p e below s (own_Q0 Z p1 p2 p3 p4 p5 p6 h0 n0) room_1.cells room_1.slots _
  refine own_go (B := s₁.setTop (mkF m 0 #[.val (.int p1), .val (.int p2), .val (.int p3), .val (.int p4), .val (.int p5), .val (.int p6), .unset, .unset, .unset, .unset] [])) (fun t k => castTop (ef_0_21 m p1 p2 p3 p4 p5 p6) k) ?_
  refine own_go (B := s₁.setTop (mkF m 2 #[.val (.int p1), .val (.int p2), .val (.int p3), .val (.int p4), .val (.int p5), .val (.int p6), .unset, .unset, .unset, .unset] [(.int p6)])) (fun t k => XS.iload X0.here hx rfl (Jvm.hb hby at_0) rfl k) ?_
  refine own_go (B := s₁.setTop (mkF m 3 #[.val (.int p1), .val (.int p2), .val (.int p3), .val (.int p4), .val (.int p5), .val (.int p6), .unset, .unset, .unset, .unset] [(.int (3 : Int32)), (.int p6)])) (fun t k => XS.iconst X0.here hx rfl (Jvm.hb hby at_2) k) ?_
  refine own_go (B := s₁.setTop (mkF m 4 #[.val (.int p1), .val (.int p2), .val (.int p3), .val (.int p4), .val (.int p5), .val (.int p6), .unset, .unset, .unset, .unset] [(.int (p6 &&& (3 : Int32)))])) (fun t k => XS.iand X0.here hx rfl (Jvm.hb hby at_3) rfl k) ?_
  obtain ⟨vk, hvk⟩ : ∃ z : Int32, z = (p6 &&& (3 : Int32)) := ⟨_, rfl⟩
  rw [← hvk]
  refine own_go (B := s₁.setTop (mkF m 6 #[.val (.int p1), .val (.int p2), .val (.int p3), .val (.int p4), .val (.int p5), .val (.int p6), .val (.int vk), .unset, .unset, .unset] [])) (fun t k => XS.istore X0.here hx rfl (Jvm.hb hby at_4) rfl (l' := #[.val (.int p1), .val (.int p2), .val (.int p3), .val (.int p4), .val (.int p5), .val (.int p6), .val (.int vk), .unset, .unset, .unset]) rfl k) ?_
  refine own_go (B := s₁.setTop (mkF m 8 #[.val (.int p1), .val (.int p2), .val (.int p3), .val (.int p4), .val (.int p5), .val (.int p6), .val (.int vk), .unset, .unset, .unset] [(.int p6)])) (fun t k => XS.iload X0.here hx rfl (Jvm.hb hby at_6) rfl k) ?_
  refine own_go (B := s₁.setTop (mkF m 9 #[.val (.int p1), .val (.int p2), .val (.int p3), .val (.int p4), .val (.int p5), .val (.int p6), .val (.int vk), .unset, .unset, .unset] [(.int (4 : Int32)), (.int p6)])) (fun t k => XS.iconst X0.here hx rfl (Jvm.hb hby at_8) k) ?_
  refine own_go (B := s₁.setTop (mkF m 10 #[.val (.int p1), .val (.int p2), .val (.int p3), .val (.int p4), .val (.int p5), .val (.int p6), .val (.int vk), .unset, .unset, .unset] [(.int (p6 &&& (4 : Int32)))])) (fun t k => XS.iand X0.here hx rfl (Jvm.hb hby at_9) rfl k) ?_
  refine own_go (B := s₁.setTop (mkF m 17 #[.val (.int p1), .val (.int p2), .val (.int p3), .val (.int p4), .val (.int p5), .val (.int p6), .val (.int vk), .unset, .unset, .unset] [])) (fun t k => XS.ifYes X0.here hx rfl (pc0 := 10) (pc' := 17) rfl (Jvm.hb hby at_10) rfl ((if0 _ _).trans (teq ht).1) (by decide) (by decide) k) ?_
  refine own_go (B := s₁.setTop (mkF m 18 #[.val (.int p1), .val (.int p2), .val (.int p3), .val (.int p4), .val (.int p5), .val (.int p6), .val (.int vk), .unset, .unset, .unset] [(.int (0 : Int32))])) (fun t k => XS.iconst X0.here hx rfl (Jvm.hb hby at_17) k) ?_
  refine own_go (B := s₁.setTop (mkF m 20 #[.val (.int p1), .val (.int p2), .val (.int p3), .val (.int p4), .val (.int p5), .val (.int p6), .val (.int vk), .val (.int (0 : Int32)), .unset, .unset] [])) (fun t k => XS.istore X0.here hx rfl (Jvm.hb hby at_18) rfl (l' := #[.val (.int p1), .val (.int p2), .val (.int p3), .val (.int p4), .val (.int p5), .val (.int p6), .val (.int vk), .val (.int (0 : Int32)), .unset, .unset]) rfl k) ?_
  obtain ⟨T175, h175, X175, e175, E175, A175, D175, -, st175⟩ := newO X0 hx hZ hown (own_w hw 0 rfl) (own_w hw 1 rfl) (own_w hw 2 rfl) e0 (g := (mkF m 20 #[.val (.int p1), .val (.int p2), .val (.int p3), .val (.int p4), .val (.int p5), .val (.int p6), .val (.int vk), .val (.int (0 : Int32)), .unset, .unset] [])) rfl (Jvm.hb hby at_20) (by decide) (by decide)
  obtain ⟨b175, g175⟩ : ∃ z, z = h0.size := ⟨_, rfl⟩
  rw [← g175] at A175 D175 st175
  have g_b175 : n0 ≤ b175 := Nat.le_trans Zs (Nat.le_of_eq g175.symm)
  have Zs := Nat.le_trans Zs E175.1
  have E_b175 := A175
  have F_b175_firsts : Fld Z h175 b175 "com/example/term_unifier/termunifier/IntPairStack" "firsts" "[I" .null := D175 (Or.inl (own_w hw 11 rfl)) (ty := (.array .int)) (by decide)
  have F_b175_seconds : Fld Z h175 b175 "com/example/term_unifier/termunifier/IntPairStack" "seconds" "[I" .null := D175 (Or.inl (own_w hw 13 rfl)) (ty := (.array .int)) (by decide)
  have F_b175_below : Fld Z h175 b175 "com/example/term_unifier/termunifier/IntPairStack" "below" "[I" .null := D175 (Or.inl (own_w hw 15 rfl)) (ty := (.array .int)) (by decide)
  have F_b175_top : Fld Z h175 b175 "com/example/term_unifier/termunifier/IntPairStack" "top" "I" (.int (0 : Int32)) := D175 (Or.inl (own_w hw 17 rfl)) (ty := .int) (by decide)
  have F_b175_marks : Fld Z h175 b175 "com/example/term_unifier/termunifier/IntPairStack" "marks" "Lcom/example/term_unifier/termunifier/IntStack;" .null := D175 (Or.inr (own_w hw 28 rfl)) (ty := (.object "com/example/term_unifier/termunifier/IntStack")) (by decide)
  have F_b175_used : Fld Z h175 b175 "com/example/term_unifier/termunifier/IntPairStack" "used" "I" (.int (0 : Int32)) := D175 (Or.inl (own_w hw 35 rfl)) (ty := .int) (by decide)
  have F_b175_kept : Fld Z h175 b175 "com/example/term_unifier/termunifier/IntPairStack" "kept" "I" (.int (0 : Int32)) := D175 (Or.inl (own_w hw 49 rfl)) (ty := .int) (by decide)
  refine own_go (B := T175.setTop (mkF m 23 #[.val (.int p1), .val (.int p2), .val (.int p3), .val (.int p4), .val (.int p5), .val (.int p6), .val (.int vk), .val (.int (0 : Int32)), .unset, .unset] [(.ref b175)])) (fun t k => st175 _ k) ?_
  refine own_go (B := T175.setTop (mkF m 24 #[.val (.int p1), .val (.int p2), .val (.int p3), .val (.int p4), .val (.int p5), .val (.int p6), .val (.int vk), .val (.int (0 : Int32)), .unset, .unset] [(.ref b175), (.ref b175)])) (fun t k => XS.dup X175.here hx rfl (Jvm.hb hby at_23) rfl rfl k) ?_
  obtain ⟨_, _, ⟨T176, La176, ka176, na176⟩, -, X176, ⟨Lc176, hQ176, l176, y176, z176⟩, st176⟩ := X175.specialBack hx (y := (⟨"com/example/term_unifier/termunifier/IntPairStack", "<init>", "()V"⟩ : MethodName)) rfl hown (mvT hZ (own_w hw 3 rfl)) (mvT hZ (own_w hw 4 rfl)) (mvT hZ (own_w hw 5 rfl)) (by decide) (backOf (W := 1) (rm1 l Z a0 hw [] b175 h175 n0 Zs E_b175 F_b175_firsts F_b175_seconds F_b175_below F_b175_top F_b175_used F_b175_kept F_b175_marks g_b175) hZ (own_w hw 5 rfl) (own_w hw 2 rfl) (by decide) (by decide)) (g := (mkF m 24 #[.val (.int p1), .val (.int p2), .val (.int p3), .val (.int p4), .val (.int p5), .val (.int p6), .val (.int vk), .val (.int (0 : Int32)), .unset, .unset] [(.ref b175), (.ref b175)])) rfl (by rw [hml]; rfl) (Steps.refl _) (a := b175) (argsL := []) (rest := [(.ref b175)]) (lenOf pd_0 rfl) rfl (by show 2 * 0 + _ ≤ _; exact Nat.le_of_eq rfl) (Jvm.hb hby at_24) (fun _ _ => ⟨rfl, e175, (by decide : 1 + 5 ≤ _), (by decide : 7 + 66 ≤ _)⟩)
  dsimp only [Pt.U, Pt.locs, Pt.cells, Pt.slots] at X176 l176 y176 z176 st176 hQ176
  have y176 : ka176 = 6 := y176
  have z176 : na176 = 73 := z176
  subst y176 z176
  obtain ⟨rfl, N176q, b177, sq_b177, b178, sq_b178, b179, sq_b179, b180, sq_b180, b181, sq_b181, ne_b177_b178, ne_b177_b179, ne_b177_b180, ne_b177_b181, ne_b178_b179, ne_b178_b180, ne_b178_b181, ne_b179_b180, ne_b179_b181, ne_b180_b181, Kc176, E_b175_q, F_b175_firsts_q, F_b175_seconds_q, F_b175_below_q, F_b175_top_q, F_b175_used_q, F_b175_kept_q, F_b175_marks_q, V_b177_q, V_b178_q, V_b179_q, E_b180_q, F_b180_items_q, F_b180_size_q, V_b181_q⟩ := hQ176
  have g_b177 : n0 ≤ b177 := Nat.le_trans Zs sq_b177
  have ne_b175_b177 : b175 ≠ b177 := Nat.ne_of_lt (Nat.lt_of_lt_of_le E_b175.lt sq_b177)
  have g_b178 : n0 ≤ b178 := Nat.le_trans Zs sq_b178
  have ne_b175_b178 : b175 ≠ b178 := Nat.ne_of_lt (Nat.lt_of_lt_of_le E_b175.lt sq_b178)
  have g_b179 : n0 ≤ b179 := Nat.le_trans Zs sq_b179
  have ne_b175_b179 : b175 ≠ b179 := Nat.ne_of_lt (Nat.lt_of_lt_of_le E_b175.lt sq_b179)
  have g_b180 : n0 ≤ b180 := Nat.le_trans Zs sq_b180
  have ne_b175_b180 : b175 ≠ b180 := Nat.ne_of_lt (Nat.lt_of_lt_of_le E_b175.lt sq_b180)
  have g_b181 : n0 ≤ b181 := Nat.le_trans Zs sq_b181
  have ne_b175_b181 : b175 ≠ b181 := Nat.ne_of_lt (Nat.lt_of_lt_of_le E_b175.lt sq_b181)
  have N176 : Fr n0 La176 := by rw [l176]; exact Fr.app N0 N176q
  have Zs := Nat.le_trans Zs Kc176.1
  have E_b175 := E_b175_q
  have F_b175_firsts := F_b175_firsts_q
  have F_b175_seconds := F_b175_seconds_q
  have F_b175_below := F_b175_below_q
  have F_b175_top := F_b175_top_q
  have F_b175_used := F_b175_used_q
  have F_b175_kept := F_b175_kept_q
  have F_b175_marks := F_b175_marks_q
  have V_b177 := V_b177_q
  have V_b178 := V_b178_q
  have V_b179 := V_b179_q
  have E_b180 := E_b180_q
  have F_b180_items := F_b180_items_q
  have F_b180_size := F_b180_size_q
  have V_b181 := V_b181_q
  refine own_go (B := T176.setTop (mkF m 27 #[.val (.int p1), .val (.int p2), .val (.int p3), .val (.int p4), .val (.int p5), .val (.int p6), .val (.int vk), .val (.int (0 : Int32)), .unset, .unset] [(.ref b175)])) (fun t k => own_st st176 k) ?_
  refine own_go (B := T176.setTop (mkF m 29 #[.val (.int p1), .val (.int p2), .val (.int p3), .val (.int p4), .val (.int p5), .val (.int p6), .val (.int vk), .val (.int (0 : Int32)), .val (.ref b175), .unset] [])) (fun t k => XS.astore X176.here hx rfl (Jvm.hb hby at_27) rfl rfl (l' := #[.val (.int p1), .val (.int p2), .val (.int p3), .val (.int p4), .val (.int p5), .val (.int p6), .val (.int vk), .val (.int (0 : Int32)), .val (.ref b175), .unset]) rfl k) ?_
  refine own_go (B := T176.setTop (mkF m 31 #[.val (.int p1), .val (.int p2), .val (.int p3), .val (.int p4), .val (.int p5), .val (.int p6), .val (.int vk), .val (.int (0 : Int32)), .val (.ref b175), .unset] [(.int vk)])) (fun t k => XS.iload X176.here hx rfl (Jvm.hb hby at_29) rfl k) ?_
  refine own_go (B := T176.setTop (mkF m 32 #[.val (.int p1), .val (.int p2), .val (.int p3), .val (.int p4), .val (.int p5), .val (.int p6), .val (.int vk), .val (.int (0 : Int32)), .val (.ref b175), .unset] [(.int (1 : Int32)), (.int vk)])) (fun t k => XS.iconst X176.here hx rfl (Jvm.hb hby at_31) k) ?_
  refine own_go (B := T176.setTop (mkF m 40 #[.val (.int p1), .val (.int p2), .val (.int p3), .val (.int p4), .val (.int p5), .val (.int p6), .val (.int vk), .val (.int (0 : Int32)), .val (.ref b175), .unset] [])) (fun t k => XS.icmpYes X176.here hx rfl (pc0 := 32) (pc' := 40) rfl (Jvm.hb hby at_32) rfl (feq (by rw [hvk, hk]; decide)).2 (by decide) (by decide) k) ?_
  refine own_go (B := T176.setTop (mkF m 42 #[.val (.int p1), .val (.int p2), .val (.int p3), .val (.int p4), .val (.int p5), .val (.int p6), .val (.int vk), .val (.int (0 : Int32)), .val (.ref b175), .unset] [(.ref b175)])) (fun t k => XS.aload X176.here hx rfl (Jvm.hb hby at_40) rfl rfl k) ?_
  refine own_go (B := T176.setTop (mkF m 43 #[.val (.int p1), .val (.int p2), .val (.int p3), .val (.int p4), .val (.int p5), .val (.int p6), .val (.int vk), .val (.int (0 : Int32)), .val (.ref b175), .unset] [(.int p1), (.ref b175)])) (fun t k => XS.iloadN X176.here hx rfl (Jvm.hb hby at_42) rfl k) ?_
  refine own_go (B := T176.setTop (mkF m 44 #[.val (.int p1), .val (.int p2), .val (.int p3), .val (.int p4), .val (.int p5), .val (.int p6), .val (.int vk), .val (.int (0 : Int32)), .val (.ref b175), .unset] [(.int p2), (.int p1), (.ref b175)])) (fun t k => XS.iloadN X176.here hx rfl (Jvm.hb hby at_43) rfl k) ?_
  obtain ⟨cq182, kq182, q182a, q182b, q182c⟩ := isOf hZ rfl E_b175
  obtain ⟨_, _, ⟨T182, La182, ka182, na182⟩, -, X182, ⟨Lc182, hQ182, l182, y182, z182⟩, st182⟩ := X176.virtualBack hx (y := (⟨"com/example/term_unifier/termunifier/IntPairStack", "push", "(II)V"⟩ : MethodName)) (z := (⟨"com/example/term_unifier/termunifier/IntPairStack", "push", "(II)V"⟩ : MethodName)) hown (mvT hZ (own_w hw 29 rfl)) (mvT hZ (own_w hw 30 rfl)) (notFace_of_selects (args := #[]) (mvT hZ (own_w hw 32 rfl))) (mvT hZ (own_w hw 32 rfl)) (mvT hZ (own_w hw 31 rfl)) (by decide) (backOf (W := 0) (rm4 l Z a0 hw [] b175 p1 p2 b177 b178 b179 b180 (-1 : Int32) (0 : Int32) (0 : Int32) (1 : Int32) 0 (fun _ => 0) (fun _ => 0) (fun _ => 0) T176.heap n0 Zs E_b175 F_b175_firsts F_b175_seconds F_b175_below F_b175_top F_b175_used F_b175_kept F_b175_marks V_b177 V_b178 V_b179 g_b175 g_b177 g_b178 g_b179 ne_b175_b177 ne_b175_b178 ne_b175_b179 ne_b177_b178 ne_b177_b179 ne_b178_b179 (by decide) (by decide) (by decide) (by decide) (by decide)) hZ (own_w hw 33 rfl) (own_w hw 2 rfl) (by decide) (by decide)) q182a q182c (g := (mkF m 44 #[.val (.int p1), .val (.int p2), .val (.int p3), .val (.int p4), .val (.int p5), .val (.int p6), .val (.int vk), .val (.int (0 : Int32)), .val (.ref b175), .unset] [(.int p2), (.int p1), (.ref b175)])) rfl (by rw [hml]; rfl) (Steps.refl _) (argsL := [(.int p1), (.int p2)]) (rest := []) (lenOf pd_3 rfl) rfl (by show 2 * 0 + _ ≤ _; exact Nat.le_of_eq rfl) (Jvm.hb hby at_44) (fun _ _ => ⟨rfl, rfl, (by decide : 6 + 0 ≤ _), (by decide : 73 + 0 ≤ _)⟩)
  dsimp only [Pt.U, Pt.locs, Pt.cells, Pt.slots] at X182 l182 y182 z182 st182 hQ182
  have y182 : ka182 = 6 := y182
  have z182 : na182 = 73 := z182
  subst y182 z182
  obtain ⟨rfl, N182q, Kc182, E_b175_q, F_b175_firsts_q, F_b175_seconds_q, F_b175_below_q, F_b175_top_q, F_b175_used_q, F_b175_kept_q, F_b175_marks_q, V_b177_q, V_b178_q, V_b179_q⟩ := hQ182
  have N182 : Fr n0 La182 := by rw [l182]; exact Fr.app N176 N182q
  have E_b180 := E_b180.keep Kc182
  have F_b180_items := F_b180_items.keep Kc182 (ninS (Ne.symm ne_b175_b180) (ninS (Ne.symm ne_b177_b180) (ninS (Ne.symm ne_b178_b180) (ninS (Ne.symm ne_b179_b180) nin0))))
  have F_b180_size := F_b180_size.keep Kc182 (ninS (Ne.symm ne_b175_b180) (ninS (Ne.symm ne_b177_b180) (ninS (Ne.symm ne_b178_b180) (ninS (Ne.symm ne_b179_b180) nin0))))
  have V_b181 := V_b181.keep Kc182 (ninS (Ne.symm ne_b175_b181) (ninS (Ne.symm ne_b177_b181) (ninS (Ne.symm ne_b178_b181) (ninS (Ne.symm ne_b179_b181) nin0))))
  have Zs := Nat.le_trans Zs Kc182.1
  have E_b175 := E_b175_q
  have F_b175_firsts := F_b175_firsts_q
  have F_b175_seconds := F_b175_seconds_q
  have F_b175_below := F_b175_below_q
  have F_b175_top := F_b175_top_q
  have F_b175_used := F_b175_used_q
  have F_b175_kept := F_b175_kept_q
  have F_b175_marks := F_b175_marks_q
  have V_b177 := V_b177_q
  have V_b178 := V_b178_q
  have V_b179 := V_b179_q
  refine own_go (B := T182.setTop (mkF m 47 #[.val (.int p1), .val (.int p2), .val (.int p3), .val (.int p4), .val (.int p5), .val (.int p6), .val (.int vk), .val (.int (0 : Int32)), .val (.ref b175), .unset] [])) (fun t k => own_st st182 k) ?_
  refine own_go (B := T182.setTop (mkF m 49 #[.val (.int p1), .val (.int p2), .val (.int p3), .val (.int p4), .val (.int p5), .val (.int p6), .val (.int vk), .val (.int (0 : Int32)), .val (.ref b175), .unset] [(.int vk)])) (fun t k => XS.iload X182.here hx rfl (Jvm.hb hby at_47) rfl k) ?_
  refine own_go (B := T182.setTop (mkF m 50 #[.val (.int p1), .val (.int p2), .val (.int p3), .val (.int p4), .val (.int p5), .val (.int p6), .val (.int vk), .val (.int (0 : Int32)), .val (.ref b175), .unset] [(.int (2 : Int32)), (.int vk)])) (fun t k => XS.iconst X182.here hx rfl (Jvm.hb hby at_49) k) ?_
  refine own_go (B := T182.setTop (mkF m 53 #[.val (.int p1), .val (.int p2), .val (.int p3), .val (.int p4), .val (.int p5), .val (.int p6), .val (.int vk), .val (.int (0 : Int32)), .val (.ref b175), .unset] [])) (fun t k => XS.icmpNo X182.here hx rfl (Jvm.hb hby at_50) rfl (teq (hvk.trans hk)).2 k) ?_
  refine own_go (B := T182.setTop (mkF m 55 #[.val (.int p1), .val (.int p2), .val (.int p3), .val (.int p4), .val (.int p5), .val (.int p6), .val (.int vk), .val (.int (0 : Int32)), .val (.ref b175), .unset] [(.ref b175)])) (fun t k => XS.aload X182.here hx rfl (Jvm.hb hby at_53) rfl rfl k) ?_
  obtain ⟨cq183, kq183, q183a, q183b, q183c⟩ := isOf hZ rfl E_b175
  obtain ⟨_, _, ⟨T183, La183, ka183, na183⟩, -, X183, ⟨Lc183, hQ183, l183, y183, z183⟩, st183⟩ := X182.virtualBack hx (y := (⟨"com/example/term_unifier/termunifier/IntPairStack", "mark", "()V"⟩ : MethodName)) (z := (⟨"com/example/term_unifier/termunifier/IntPairStack", "mark", "()V"⟩ : MethodName)) hown (mvT hZ (own_w hw 36 rfl)) (mvT hZ (own_w hw 37 rfl)) (notFace_of_selects (args := #[]) (mvT hZ (own_w hw 39 rfl))) (mvT hZ (own_w hw 39 rfl)) (mvT hZ (own_w hw 38 rfl)) (by decide) (backOf (W := 0) (rm5 l Z a0 hw [] b175 b177 b178 b179 b180 b181 (0 : Int32) (1 : Int32) (0 : Int32) (fun _ => 0) T182.heap n0 Zs E_b175 F_b175_firsts F_b175_seconds F_b175_below F_b175_top F_b175_used F_b175_kept F_b175_marks E_b180 F_b180_items F_b180_size V_b181 g_b175 g_b180 g_b181 ne_b175_b180 ne_b175_b181 ne_b180_b181) hZ (own_w hw 40 rfl) (own_w hw 2 rfl) (by decide) (by decide)) q183a q183c (g := (mkF m 55 #[.val (.int p1), .val (.int p2), .val (.int p3), .val (.int p4), .val (.int p5), .val (.int p6), .val (.int vk), .val (.int (0 : Int32)), .val (.ref b175), .unset] [(.ref b175)])) rfl (by rw [hml]; rfl) (Steps.refl _) (argsL := []) (rest := []) (lenOf pd_0 rfl) rfl (by show 2 * 0 + _ ≤ _; exact Nat.le_of_eq rfl) (Jvm.hb hby at_55) (fun _ _ => ⟨rfl, rfl, (by decide : 6 + 0 ≤ _), (by decide : 73 + 0 ≤ _)⟩)
  dsimp only [Pt.U, Pt.locs, Pt.cells, Pt.slots] at X183 l183 y183 z183 st183 hQ183
  have y183 : ka183 = 6 := y183
  have z183 : na183 = 73 := z183
  subst y183 z183
  obtain ⟨rfl, N183q, Kc183, E_b175_q, F_b175_firsts_q, F_b175_seconds_q, F_b175_below_q, F_b175_top_q, F_b175_used_q, F_b175_kept_q, F_b175_marks_q, E_b180_q, F_b180_items_q, F_b180_size_q, V_b181_q⟩ := hQ183
  have N183 : Fr n0 La183 := by rw [l183]; exact Fr.app N182 N183q
  have V_b177 := V_b177.keep Kc183 (ninS (Ne.symm ne_b175_b177) (ninS ne_b177_b180 (ninS ne_b177_b181 nin0)))
  have V_b178 := V_b178.keep Kc183 (ninS (Ne.symm ne_b175_b178) (ninS ne_b178_b180 (ninS ne_b178_b181 nin0)))
  have V_b179 := V_b179.keep Kc183 (ninS (Ne.symm ne_b175_b179) (ninS ne_b179_b180 (ninS ne_b179_b181 nin0)))
  have Zs := Nat.le_trans Zs Kc183.1
  have E_b175 := E_b175_q
  have F_b175_firsts := F_b175_firsts_q
  have F_b175_seconds := F_b175_seconds_q
  have F_b175_below := F_b175_below_q
  have F_b175_top := F_b175_top_q
  have F_b175_used := F_b175_used_q
  have F_b175_kept := F_b175_kept_q
  have F_b175_marks := F_b175_marks_q
  have E_b180 := E_b180_q
  have F_b180_items := F_b180_items_q
  have F_b180_size := F_b180_size_q
  have V_b181 := V_b181_q
  refine own_go (B := T183.setTop (mkF m 58 #[.val (.int p1), .val (.int p2), .val (.int p3), .val (.int p4), .val (.int p5), .val (.int p6), .val (.int vk), .val (.int (0 : Int32)), .val (.ref b175), .unset] [])) (fun t k => own_st st183 k) ?_
  refine own_go (B := T183.setTop (mkF m 60 #[.val (.int p1), .val (.int p2), .val (.int p3), .val (.int p4), .val (.int p5), .val (.int p6), .val (.int vk), .val (.int (0 : Int32)), .val (.ref b175), .unset] [(.ref b175)])) (fun t k => XS.aload X183.here hx rfl (Jvm.hb hby at_58) rfl rfl k) ?_
  refine own_go (B := T183.setTop (mkF m 61 #[.val (.int p1), .val (.int p2), .val (.int p3), .val (.int p4), .val (.int p5), .val (.int p6), .val (.int vk), .val (.int (0 : Int32)), .val (.ref b175), .unset] [(.int p3), (.ref b175)])) (fun t k => XS.iloadN X183.here hx rfl (Jvm.hb hby at_60) rfl k) ?_
  refine own_go (B := T183.setTop (mkF m 62 #[.val (.int p1), .val (.int p2), .val (.int p3), .val (.int p4), .val (.int p5), .val (.int p6), .val (.int vk), .val (.int (0 : Int32)), .val (.ref b175), .unset] [(.int p4), (.int p3), (.ref b175)])) (fun t k => XS.iloadN X183.here hx rfl (Jvm.hb hby at_61) rfl k) ?_
  obtain ⟨cq184, kq184, q184a, q184b, q184c⟩ := isOf hZ rfl E_b175
  obtain ⟨_, _, ⟨T184, La184, ka184, na184⟩, -, X184, ⟨Lc184, hQ184, l184, y184, z184⟩, st184⟩ := X183.virtualBack hx (y := (⟨"com/example/term_unifier/termunifier/IntPairStack", "push", "(II)V"⟩ : MethodName)) (z := (⟨"com/example/term_unifier/termunifier/IntPairStack", "push", "(II)V"⟩ : MethodName)) hown (mvT hZ (own_w hw 29 rfl)) (mvT hZ (own_w hw 30 rfl)) (notFace_of_selects (args := #[]) (mvT hZ (own_w hw 32 rfl))) (mvT hZ (own_w hw 32 rfl)) (mvT hZ (own_w hw 31 rfl)) (by decide) (backOf (W := 0) (rm4 l Z a0 hw [] b175 p3 p4 b177 b178 b179 b180 (0 : Int32) (1 : Int32) (1 : Int32) (2 : Int32) 1 (own_upd (fun _ => 0) 0 p1) (own_upd (fun _ => 0) 0 p2) (own_upd (fun _ => 0) 0 (-1 : Int32)) T183.heap n0 Zs E_b175 F_b175_firsts F_b175_seconds F_b175_below F_b175_top F_b175_used F_b175_kept F_b175_marks V_b177 V_b178 V_b179 g_b175 g_b177 g_b178 g_b179 ne_b175_b177 ne_b175_b178 ne_b175_b179 ne_b177_b178 ne_b177_b179 ne_b178_b179 (by decide) (by decide) (by decide) (by decide) (by decide)) hZ (own_w hw 33 rfl) (own_w hw 2 rfl) (by decide) (by decide)) q184a q184c (g := (mkF m 62 #[.val (.int p1), .val (.int p2), .val (.int p3), .val (.int p4), .val (.int p5), .val (.int p6), .val (.int vk), .val (.int (0 : Int32)), .val (.ref b175), .unset] [(.int p4), (.int p3), (.ref b175)])) rfl (by rw [hml]; rfl) (Steps.refl _) (argsL := [(.int p3), (.int p4)]) (rest := []) (lenOf pd_3 rfl) rfl (by show 2 * 0 + _ ≤ _; exact Nat.le_of_eq rfl) (Jvm.hb hby at_62) (fun _ _ => ⟨rfl, rfl, (by decide : 6 + 0 ≤ _), (by decide : 73 + 0 ≤ _)⟩)
  dsimp only [Pt.U, Pt.locs, Pt.cells, Pt.slots] at X184 l184 y184 z184 st184 hQ184
  have y184 : ka184 = 6 := y184
  have z184 : na184 = 73 := z184
  subst y184 z184
  obtain ⟨rfl, N184q, Kc184, E_b175_q, F_b175_firsts_q, F_b175_seconds_q, F_b175_below_q, F_b175_top_q, F_b175_used_q, F_b175_kept_q, F_b175_marks_q, V_b177_q, V_b178_q, V_b179_q⟩ := hQ184
  have N184 : Fr n0 La184 := by rw [l184]; exact Fr.app N183 N184q
  have E_b180 := E_b180.keep Kc184
  have F_b180_items := F_b180_items.keep Kc184 (ninS (Ne.symm ne_b175_b180) (ninS (Ne.symm ne_b177_b180) (ninS (Ne.symm ne_b178_b180) (ninS (Ne.symm ne_b179_b180) nin0))))
  have F_b180_size := F_b180_size.keep Kc184 (ninS (Ne.symm ne_b175_b180) (ninS (Ne.symm ne_b177_b180) (ninS (Ne.symm ne_b178_b180) (ninS (Ne.symm ne_b179_b180) nin0))))
  have V_b181 := V_b181.keep Kc184 (ninS (Ne.symm ne_b175_b181) (ninS (Ne.symm ne_b177_b181) (ninS (Ne.symm ne_b178_b181) (ninS (Ne.symm ne_b179_b181) nin0))))
  have Zs := Nat.le_trans Zs Kc184.1
  have E_b175 := E_b175_q
  have F_b175_firsts := F_b175_firsts_q
  have F_b175_seconds := F_b175_seconds_q
  have F_b175_below := F_b175_below_q
  have F_b175_top := F_b175_top_q
  have F_b175_used := F_b175_used_q
  have F_b175_kept := F_b175_kept_q
  have F_b175_marks := F_b175_marks_q
  have V_b177 := V_b177_q
  have V_b178 := V_b178_q
  have V_b179 := V_b179_q
  refine own_go (B := T184.setTop (mkF m 65 #[.val (.int p1), .val (.int p2), .val (.int p3), .val (.int p4), .val (.int p5), .val (.int p6), .val (.int vk), .val (.int (0 : Int32)), .val (.ref b175), .unset] [])) (fun t k => own_st st184 k) ?_
  refine own_go (B := T184.setTop (mkF m 67 #[.val (.int p1), .val (.int p2), .val (.int p3), .val (.int p4), .val (.int p5), .val (.int p6), .val (.int vk), .val (.int (0 : Int32)), .val (.ref b175), .unset] [(.int vk)])) (fun t k => XS.iload X184.here hx rfl (Jvm.hb hby at_65) rfl k) ?_
  refine own_go (B := T184.setTop (mkF m 68 #[.val (.int p1), .val (.int p2), .val (.int p3), .val (.int p4), .val (.int p5), .val (.int p6), .val (.int vk), .val (.int (0 : Int32)), .val (.ref b175), .unset] [(.int (3 : Int32)), (.int vk)])) (fun t k => XS.iconst X184.here hx rfl (Jvm.hb hby at_67) k) ?_
  refine own_go (B := T184.setTop (mkF m 76 #[.val (.int p1), .val (.int p2), .val (.int p3), .val (.int p4), .val (.int p5), .val (.int p6), .val (.int vk), .val (.int (0 : Int32)), .val (.ref b175), .unset] [])) (fun t k => XS.icmpYes X184.here hx rfl (pc0 := 68) (pc' := 76) rfl (Jvm.hb hby at_68) rfl (feq (by rw [hvk, hk]; decide)).2 (by decide) (by decide) k) ?_
  refine own_go (B := T184.setTop (mkF m 78 #[.val (.int p1), .val (.int p2), .val (.int p3), .val (.int p4), .val (.int p5), .val (.int p6), .val (.int vk), .val (.int (0 : Int32)), .val (.ref b175), .unset] [(.ref b175)])) (fun t k => XS.aload X184.here hx rfl (Jvm.hb hby at_76) rfl rfl k) ?_
  obtain ⟨cq185, kq185, q185a, q185b, q185c⟩ := isOf hZ rfl E_b175
  obtain ⟨_, _, ⟨T185, La185, ka185, na185⟩, -, X185, ⟨Lc185, hQ185, l185, y185, z185⟩, st185⟩ := X184.virtualBack hx (y := (⟨"com/example/term_unifier/termunifier/IntPairStack", "pop", "()V"⟩ : MethodName)) (z := (⟨"com/example/term_unifier/termunifier/IntPairStack", "pop", "()V"⟩ : MethodName)) hown (mvT hZ (own_w hw 50 rfl)) (mvT hZ (own_w hw 51 rfl)) (notFace_of_selects (args := #[]) (mvT hZ (own_w hw 53 rfl))) (mvT hZ (own_w hw 53 rfl)) (mvT hZ (own_w hw 52 rfl)) (by decide) (backOf (W := 0) (rm_popd l Z a0 hw [] b175 b177 b178 b179 b180 (1 : Int32) (2 : Int32) (1 : Int32) (0 : Int32) (1 : Int32) 1 (own_upd (own_upd (fun _ => 0) 0 (-1 : Int32)) 1 (0 : Int32)) T184.heap n0 Zs E_b175 F_b175_firsts F_b175_seconds F_b175_below F_b175_top F_b175_used F_b175_kept F_b175_marks V_b179 g_b175 ne_b175_b179 (by decide) (by decide) (by decide) rfl (by decide) (by decide) (by decide)) hZ (own_w hw 54 rfl) (own_w hw 2 rfl) (by decide) (by decide)) q185a q185c (g := (mkF m 78 #[.val (.int p1), .val (.int p2), .val (.int p3), .val (.int p4), .val (.int p5), .val (.int p6), .val (.int vk), .val (.int (0 : Int32)), .val (.ref b175), .unset] [(.ref b175)])) rfl (by rw [hml]; rfl) (Steps.refl _) (argsL := []) (rest := []) (lenOf pd_0 rfl) rfl (by show 2 * 0 + _ ≤ _; exact Nat.le_of_eq rfl) (Jvm.hb hby at_78) (fun _ _ => ⟨rfl, rfl, (by decide : 6 + 0 ≤ _), (by decide : 73 + 0 ≤ _)⟩)
  dsimp only [Pt.U, Pt.locs, Pt.cells, Pt.slots] at X185 l185 y185 z185 st185 hQ185
  have y185 : ka185 = 6 := y185
  have z185 : na185 = 73 := z185
  subst y185 z185
  obtain ⟨rfl, N185q, Kc185, E_b175_q, F_b175_firsts_q, F_b175_seconds_q, F_b175_below_q, F_b175_top_q, F_b175_used_q, F_b175_kept_q, F_b175_marks_q⟩ := hQ185
  have N185 : Fr n0 La185 := by rw [l185]; exact Fr.app N184 N185q
  have E_b180 := E_b180.keep Kc185
  have F_b180_items := F_b180_items.keep Kc185 (ninS (Ne.symm ne_b175_b180) nin0)
  have F_b180_size := F_b180_size.keep Kc185 (ninS (Ne.symm ne_b175_b180) nin0)
  have V_b181 := V_b181.keep Kc185 (ninS (Ne.symm ne_b175_b181) nin0)
  have V_b177 := V_b177.keep Kc185 (ninS (Ne.symm ne_b175_b177) nin0)
  have V_b178 := V_b178.keep Kc185 (ninS (Ne.symm ne_b175_b178) nin0)
  have V_b179 := V_b179.keep Kc185 (ninS (Ne.symm ne_b175_b179) nin0)
  have Zs := Nat.le_trans Zs Kc185.1
  have E_b175 := E_b175_q
  have F_b175_firsts := F_b175_firsts_q
  have F_b175_seconds := F_b175_seconds_q
  have F_b175_below := F_b175_below_q
  have F_b175_top := F_b175_top_q
  have F_b175_used := F_b175_used_q
  have F_b175_kept := F_b175_kept_q
  have F_b175_marks := F_b175_marks_q
  refine own_go (B := T185.setTop (mkF m 81 #[.val (.int p1), .val (.int p2), .val (.int p3), .val (.int p4), .val (.int p5), .val (.int p6), .val (.int vk), .val (.int (0 : Int32)), .val (.ref b175), .unset] [])) (fun t k => own_st st185 k) ?_
  refine own_go (B := T185.setTop (mkF m 83 #[.val (.int p1), .val (.int p2), .val (.int p3), .val (.int p4), .val (.int p5), .val (.int p6), .val (.int vk), .val (.int (0 : Int32)), .val (.ref b175), .unset] [(.ref b175)])) (fun t k => XS.aload X185.here hx rfl (Jvm.hb hby at_81) rfl rfl k) ?_
  obtain ⟨cq186, kq186, q186a, q186b, q186c⟩ := isOf hZ rfl E_b175
  obtain ⟨_, _, ⟨T186, La186, ka186, na186⟩, -, X186, ⟨Lc186, hQ186, l186, y186, z186⟩, st186⟩ := X185.virtualBack hx (y := (⟨"com/example/term_unifier/termunifier/IntPairStack", "isEmpty", "()Z"⟩ : MethodName)) (z := (⟨"com/example/term_unifier/termunifier/IntPairStack", "isEmpty", "()Z"⟩ : MethodName)) hown (mvT hZ (own_w hw 55 rfl)) (mvT hZ (own_w hw 56 rfl)) (notFace_of_selects (args := #[]) (mvT hZ (own_w hw 58 rfl))) (mvT hZ (own_w hw 58 rfl)) (mvT hZ (own_w hw 57 rfl)) (by decide) (backOf (W := 0) (rm8 l Z a0 hw [] b175 (0 : Int32) (0 : Int32) T185.heap n0 Zs F_b175_top (by decide)) hZ (own_w hw 59 rfl) (own_w hw 2 rfl) (by decide) (by decide)) q186a q186c (g := (mkF m 83 #[.val (.int p1), .val (.int p2), .val (.int p3), .val (.int p4), .val (.int p5), .val (.int p6), .val (.int vk), .val (.int (0 : Int32)), .val (.ref b175), .unset] [(.ref b175)])) rfl (by rw [hml]; rfl) (Steps.refl _) (argsL := []) (rest := []) (lenOf pd_4 rfl) rfl (by show 2 * 0 + _ ≤ _; exact Nat.le_of_eq rfl) (Jvm.hb hby at_83) (fun _ _ => ⟨rfl, rfl, (by decide : 6 + 0 ≤ _), (by decide : 73 + 0 ≤ _)⟩)
  dsimp only [Pt.U, Pt.locs, Pt.cells, Pt.slots] at X186 l186 y186 z186 st186 hQ186
  have y186 : ka186 = 6 := y186
  have z186 : na186 = 73 := z186
  subst y186 z186
  obtain ⟨rfl, N186q, e186⟩ := hQ186
  have N186 : Fr n0 La186 := by rw [l186]; exact Fr.app N185 N186q
  refine own_go (B := T186.setTop (mkF m 86 #[.val (.int p1), .val (.int p2), .val (.int p3), .val (.int p4), .val (.int p5), .val (.int p6), .val (.int vk), .val (.int (0 : Int32)), .val (.ref b175), .unset] [(.int (0 : Int32))])) (fun t k => own_st st186 k) ?_
  refine own_go (B := T186.setTop (mkF m 89 #[.val (.int p1), .val (.int p2), .val (.int p3), .val (.int p4), .val (.int p5), .val (.int p6), .val (.int vk), .val (.int (0 : Int32)), .val (.ref b175), .unset] [])) (fun t k => XS.ifNo X186.here hx rfl (Jvm.hb hby at_86) rfl ((if0 _ _).trans (teq (by decide : (0 : Int32) = (0 : Int32))).2) k) ?_
  refine own_go (B := T186.setTop (mkF m 91 #[.val (.int p1), .val (.int p2), .val (.int p3), .val (.int p4), .val (.int p5), .val (.int p6), .val (.int vk), .val (.int (0 : Int32)), .val (.ref b175), .unset] [(.ref b175)])) (fun t k => XS.aload X186.here hx rfl (Jvm.hb hby at_89) rfl rfl k) ?_
  obtain ⟨cq187, kq187, q187a, q187b, q187c⟩ := isOf hZ e186 E_b175
  obtain ⟨_, _, ⟨T187, La187, ka187, na187⟩, -, X187, ⟨Lc187, hQ187, l187, y187, z187⟩, st187⟩ := X186.virtualBack hx (y := (⟨"com/example/term_unifier/termunifier/IntPairStack", "first", "()I"⟩ : MethodName)) (z := (⟨"com/example/term_unifier/termunifier/IntPairStack", "first", "()I"⟩ : MethodName)) hown (mvT hZ (own_w hw 60 rfl)) (mvT hZ (own_w hw 61 rfl)) (notFace_of_selects (args := #[]) (mvT hZ (own_w hw 63 rfl))) (mvT hZ (own_w hw 63 rfl)) (mvT hZ (own_w hw 62 rfl)) (by decide) (backOf (W := 0) (rm9 l Z a0 hw [] b175 b177 (0 : Int32) 0 (own_upd (own_upd (fun _ => 0) 0 p1) 1 p3) p1 T185.heap n0 Zs F_b175_firsts F_b175_top V_b177 (by decide) (by decide) (by decide) rfl) hZ (own_w hw 64 rfl) (own_w hw 2 rfl) (by decide) (by decide)) q187a q187c (g := (mkF m 91 #[.val (.int p1), .val (.int p2), .val (.int p3), .val (.int p4), .val (.int p5), .val (.int p6), .val (.int vk), .val (.int (0 : Int32)), .val (.ref b175), .unset] [(.ref b175)])) rfl (by rw [hml]; rfl) (Steps.refl _) (argsL := []) (rest := []) (lenOf pd_2 rfl) rfl (by show 2 * 0 + _ ≤ _; exact Nat.le_of_eq rfl) (Jvm.hb hby at_91) (fun _ _ => ⟨rfl, e186, (by decide : 6 + 0 ≤ _), (by decide : 73 + 0 ≤ _)⟩)
  dsimp only [Pt.U, Pt.locs, Pt.cells, Pt.slots] at X187 l187 y187 z187 st187 hQ187
  have y187 : ka187 = 6 := y187
  have z187 : na187 = 73 := z187
  subst y187 z187
  obtain ⟨rfl, N187q, e187⟩ := hQ187
  have N187 : Fr n0 La187 := by rw [l187]; exact Fr.app N186 N187q
  refine own_go (B := T187.setTop (mkF m 94 #[.val (.int p1), .val (.int p2), .val (.int p3), .val (.int p4), .val (.int p5), .val (.int p6), .val (.int vk), .val (.int (0 : Int32)), .val (.ref b175), .unset] [(.int p1)])) (fun t k => own_st st187 k) ?_
  refine own_go (B := T187.setTop (mkF m 95 #[.val (.int p1), .val (.int p2), .val (.int p3), .val (.int p4), .val (.int p5), .val (.int p6), .val (.int vk), .val (.int (0 : Int32)), .val (.ref b175), .unset] [(.int p1), (.int p1)])) (fun t k => XS.iloadN X187.here hx rfl (Jvm.hb hby at_94) rfl k) ?_
  refine own_go (B := T187.setTop (mkF m 98 #[.val (.int p1), .val (.int p2), .val (.int p3), .val (.int p4), .val (.int p5), .val (.int p6), .val (.int vk), .val (.int (0 : Int32)), .val (.ref b175), .unset] [])) (fun t k => XS.icmpNo X187.here hx rfl (Jvm.hb hby at_95) rfl (teq (rfl : p1 = p1)).2 k) ?_
  refine own_go (B := T187.setTop (mkF m 100 #[.val (.int p1), .val (.int p2), .val (.int p3), .val (.int p4), .val (.int p5), .val (.int p6), .val (.int vk), .val (.int (0 : Int32)), .val (.ref b175), .unset] [(.ref b175)])) (fun t k => XS.aload X187.here hx rfl (Jvm.hb hby at_98) rfl rfl k) ?_
  obtain ⟨cq188, kq188, q188a, q188b, q188c⟩ := isOf hZ e187 E_b175
  obtain ⟨_, _, ⟨T188, La188, ka188, na188⟩, -, X188, ⟨Lc188, hQ188, l188, y188, z188⟩, st188⟩ := X187.virtualBack hx (y := (⟨"com/example/term_unifier/termunifier/IntPairStack", "second", "()I"⟩ : MethodName)) (z := (⟨"com/example/term_unifier/termunifier/IntPairStack", "second", "()I"⟩ : MethodName)) hown (mvT hZ (own_w hw 65 rfl)) (mvT hZ (own_w hw 66 rfl)) (notFace_of_selects (args := #[]) (mvT hZ (own_w hw 68 rfl))) (mvT hZ (own_w hw 68 rfl)) (mvT hZ (own_w hw 67 rfl)) (by decide) (backOf (W := 0) (rm10 l Z a0 hw [] b175 b178 (0 : Int32) 0 (own_upd (own_upd (fun _ => 0) 0 p2) 1 p4) p2 T185.heap n0 Zs F_b175_seconds F_b175_top V_b178 (by decide) (by decide) (by decide) rfl) hZ (own_w hw 69 rfl) (own_w hw 2 rfl) (by decide) (by decide)) q188a q188c (g := (mkF m 100 #[.val (.int p1), .val (.int p2), .val (.int p3), .val (.int p4), .val (.int p5), .val (.int p6), .val (.int vk), .val (.int (0 : Int32)), .val (.ref b175), .unset] [(.ref b175)])) rfl (by rw [hml]; rfl) (Steps.refl _) (argsL := []) (rest := []) (lenOf pd_2 rfl) rfl (by show 2 * 0 + _ ≤ _; exact Nat.le_of_eq rfl) (Jvm.hb hby at_100) (fun _ _ => ⟨rfl, e187, (by decide : 6 + 0 ≤ _), (by decide : 73 + 0 ≤ _)⟩)
  dsimp only [Pt.U, Pt.locs, Pt.cells, Pt.slots] at X188 l188 y188 z188 st188 hQ188
  have y188 : ka188 = 6 := y188
  have z188 : na188 = 73 := z188
  subst y188 z188
  obtain ⟨rfl, N188q, e188⟩ := hQ188
  have N188 : Fr n0 La188 := by rw [l188]; exact Fr.app N187 N188q
  refine own_go (B := T188.setTop (mkF m 103 #[.val (.int p1), .val (.int p2), .val (.int p3), .val (.int p4), .val (.int p5), .val (.int p6), .val (.int vk), .val (.int (0 : Int32)), .val (.ref b175), .unset] [(.int p2)])) (fun t k => own_st st188 k) ?_
  refine own_go (B := T188.setTop (mkF m 104 #[.val (.int p1), .val (.int p2), .val (.int p3), .val (.int p4), .val (.int p5), .val (.int p6), .val (.int vk), .val (.int (0 : Int32)), .val (.ref b175), .unset] [(.int p2), (.int p2)])) (fun t k => XS.iloadN X188.here hx rfl (Jvm.hb hby at_103) rfl k) ?_
  refine own_go (B := T188.setTop (mkF m 107 #[.val (.int p1), .val (.int p2), .val (.int p3), .val (.int p4), .val (.int p5), .val (.int p6), .val (.int vk), .val (.int (0 : Int32)), .val (.ref b175), .unset] [])) (fun t k => XS.icmpNo X188.here hx rfl (Jvm.hb hby at_104) rfl (teq (rfl : p2 = p2)).2 k) ?_
  refine own_go (B := T188.setTop (mkF m 108 #[.val (.int p1), .val (.int p2), .val (.int p3), .val (.int p4), .val (.int p5), .val (.int p6), .val (.int vk), .val (.int (0 : Int32)), .val (.ref b175), .unset] [(.int (1 : Int32))])) (fun t k => XS.iconst X188.here hx rfl (Jvm.hb hby at_107) k) ?_
  refine own_go (B := T188.setTop (mkF m 112 #[.val (.int p1), .val (.int p2), .val (.int p3), .val (.int p4), .val (.int p5), .val (.int p6), .val (.int vk), .val (.int (0 : Int32)), .val (.ref b175), .unset] [(.int (1 : Int32))])) (fun t k => XS.goto X188.here hx rfl (pc0 := 108) (pc' := 112) rfl (Jvm.hb hby at_108) (by decide) (by decide) k) ?_
  refine own_go (B := T188.setTop (mkF m 114 #[.val (.int p1), .val (.int p2), .val (.int p3), .val (.int p4), .val (.int p5), .val (.int p6), .val (.int vk), .val (.int (0 : Int32)), .val (.ref b175), .val (.int (1 : Int32))] [])) (fun t k => XS.istore X188.here hx rfl (Jvm.hb hby at_112) rfl (l' := #[.val (.int p1), .val (.int p2), .val (.int p3), .val (.int p4), .val (.int p5), .val (.int p6), .val (.int vk), .val (.int (0 : Int32)), .val (.ref b175), .val (.int (1 : Int32))]) rfl k) ?_
  refine own_go (B := T188.setTop (mkF m 116 #[.val (.int p1), .val (.int p2), .val (.int p3), .val (.int p4), .val (.int p5), .val (.int p6), .val (.int vk), .val (.int (0 : Int32)), .val (.ref b175), .val (.int (1 : Int32))] [(.int (0 : Int32))])) (fun t k => XS.iload X188.here hx rfl (Jvm.hb hby at_114) rfl k) ?_
  refine own_go (B := T188.setTop (mkF m 144 #[.val (.int p1), .val (.int p2), .val (.int p3), .val (.int p4), .val (.int p5), .val (.int p6), .val (.int vk), .val (.int (0 : Int32)), .val (.ref b175), .val (.int (1 : Int32))] [])) (fun t k => XS.ifYes X188.here hx rfl (pc0 := 116) (pc' := 144) rfl (Jvm.hb hby at_116) rfl ((if0 _ _).trans (teq (by decide : (0 : Int32) = (0 : Int32))).1) (by decide) (by decide) k) ?_
  refine own_go (B := T188.setTop (mkF m 146 #[.val (.int p1), .val (.int p2), .val (.int p3), .val (.int p4), .val (.int p5), .val (.int p6), .val (.int vk), .val (.int (0 : Int32)), .val (.ref b175), .val (.int (1 : Int32))] [(.ref b175)])) (fun t k => XS.aload X188.here hx rfl (Jvm.hb hby at_144) rfl rfl k) ?_
  refine own_go (B := T188.setTop (mkF m 148 #[.val (.int p1), .val (.int p2), .val (.int p3), .val (.int p4), .val (.int p5), .val (.int p6), .val (.int vk), .val (.int (0 : Int32)), .val (.ref b175), .val (.int (1 : Int32))] [(.int p5), (.ref b175)])) (fun t k => XS.iload X188.here hx rfl (Jvm.hb hby at_146) rfl k) ?_
  refine own_go (B := T188.setTop (mkF m 150 #[.val (.int p1), .val (.int p2), .val (.int p3), .val (.int p4), .val (.int p5), .val (.int p6), .val (.int vk), .val (.int (0 : Int32)), .val (.ref b175), .val (.int (1 : Int32))] [(.int p5), (.int p5), (.ref b175)])) (fun t k => XS.iload X188.here hx rfl (Jvm.hb hby at_148) rfl k) ?_
  refine own_go (B := T188.setTop (mkF m 151 #[.val (.int p1), .val (.int p2), .val (.int p3), .val (.int p4), .val (.int p5), .val (.int p6), .val (.int vk), .val (.int (0 : Int32)), .val (.ref b175), .val (.int (1 : Int32))] [(.int (-1 : Int32)), (.int p5), (.int p5), (.ref b175)])) (fun t k => XS.iconst X188.here hx rfl (Jvm.hb hby at_150) k) ?_
  refine own_go (B := T188.setTop (mkF m 152 #[.val (.int p1), .val (.int p2), .val (.int p3), .val (.int p4), .val (.int p5), .val (.int p6), .val (.int vk), .val (.int (0 : Int32)), .val (.ref b175), .val (.int (1 : Int32))] [(.int (p5 ^^^ (-1 : Int32))), (.int p5), (.ref b175)])) (fun t k => XS.ixor X188.here hx rfl (Jvm.hb hby at_151) rfl k) ?_
  obtain ⟨cq189, kq189, q189a, q189b, q189c⟩ := isOf hZ e188 E_b175
  obtain ⟨_, _, ⟨T189, La189, ka189, na189⟩, -, X189, ⟨Lc189, hQ189, l189, y189, z189⟩, st189⟩ := X188.virtualBack hx (y := (⟨"com/example/term_unifier/termunifier/IntPairStack", "push", "(II)V"⟩ : MethodName)) (z := (⟨"com/example/term_unifier/termunifier/IntPairStack", "push", "(II)V"⟩ : MethodName)) hown (mvT hZ (own_w hw 29 rfl)) (mvT hZ (own_w hw 30 rfl)) (notFace_of_selects (args := #[]) (mvT hZ (own_w hw 32 rfl))) (mvT hZ (own_w hw 32 rfl)) (mvT hZ (own_w hw 31 rfl)) (by decide) (backOf (W := 0) (rm4 l Z a0 hw [] b175 p5 (p5 ^^^ (-1 : Int32)) b177 b178 b179 b180 (0 : Int32) (1 : Int32) (1 : Int32) (2 : Int32) 1 (own_upd (own_upd (fun _ => 0) 0 p1) 1 p3) (own_upd (own_upd (fun _ => 0) 0 p2) 1 p4) (own_upd (own_upd (fun _ => 0) 0 (-1 : Int32)) 1 (0 : Int32)) T185.heap n0 Zs E_b175 F_b175_firsts F_b175_seconds F_b175_below F_b175_top F_b175_used F_b175_kept F_b175_marks V_b177 V_b178 V_b179 g_b175 g_b177 g_b178 g_b179 ne_b175_b177 ne_b175_b178 ne_b175_b179 ne_b177_b178 ne_b177_b179 ne_b178_b179 (by decide) (by decide) (by decide) (by decide) (by decide)) hZ (own_w hw 33 rfl) (own_w hw 2 rfl) (by decide) (by decide)) q189a q189c (g := (mkF m 152 #[.val (.int p1), .val (.int p2), .val (.int p3), .val (.int p4), .val (.int p5), .val (.int p6), .val (.int vk), .val (.int (0 : Int32)), .val (.ref b175), .val (.int (1 : Int32))] [(.int (p5 ^^^ (-1 : Int32))), (.int p5), (.ref b175)])) rfl (by rw [hml]; rfl) (Steps.refl _) (argsL := [(.int p5), (.int (p5 ^^^ (-1 : Int32)))]) (rest := []) (lenOf pd_3 rfl) rfl (by show 2 * 0 + _ ≤ _; exact Nat.le_of_eq rfl) (Jvm.hb hby at_152) (fun _ _ => ⟨rfl, e188, (by decide : 6 + 0 ≤ _), (by decide : 73 + 0 ≤ _)⟩)
  dsimp only [Pt.U, Pt.locs, Pt.cells, Pt.slots] at X189 l189 y189 z189 st189 hQ189
  have y189 : ka189 = 6 := y189
  have z189 : na189 = 73 := z189
  subst y189 z189
  obtain ⟨rfl, N189q, Kc189, E_b175_q, F_b175_firsts_q, F_b175_seconds_q, F_b175_below_q, F_b175_top_q, F_b175_used_q, F_b175_kept_q, F_b175_marks_q, V_b177_q, V_b178_q, V_b179_q⟩ := hQ189
  have N189 : Fr n0 La189 := by rw [l189]; exact Fr.app N188 N189q
  have E_b180 := E_b180.keep Kc189
  have F_b180_items := F_b180_items.keep Kc189 (ninS (Ne.symm ne_b175_b180) (ninS (Ne.symm ne_b177_b180) (ninS (Ne.symm ne_b178_b180) (ninS (Ne.symm ne_b179_b180) nin0))))
  have F_b180_size := F_b180_size.keep Kc189 (ninS (Ne.symm ne_b175_b180) (ninS (Ne.symm ne_b177_b180) (ninS (Ne.symm ne_b178_b180) (ninS (Ne.symm ne_b179_b180) nin0))))
  have V_b181 := V_b181.keep Kc189 (ninS (Ne.symm ne_b175_b181) (ninS (Ne.symm ne_b177_b181) (ninS (Ne.symm ne_b178_b181) (ninS (Ne.symm ne_b179_b181) nin0))))
  have Zs := Nat.le_trans Zs Kc189.1
  have E_b175 := E_b175_q
  have F_b175_firsts := F_b175_firsts_q
  have F_b175_seconds := F_b175_seconds_q
  have F_b175_below := F_b175_below_q
  have F_b175_top := F_b175_top_q
  have F_b175_used := F_b175_used_q
  have F_b175_kept := F_b175_kept_q
  have F_b175_marks := F_b175_marks_q
  have V_b177 := V_b177_q
  have V_b178 := V_b178_q
  have V_b179 := V_b179_q
  refine own_go (B := T189.setTop (mkF m 155 #[.val (.int p1), .val (.int p2), .val (.int p3), .val (.int p4), .val (.int p5), .val (.int p6), .val (.int vk), .val (.int (0 : Int32)), .val (.ref b175), .val (.int (1 : Int32))] [])) (fun t k => own_st st189 k) ?_
  refine own_go (B := T189.setTop (mkF m 157 #[.val (.int p1), .val (.int p2), .val (.int p3), .val (.int p4), .val (.int p5), .val (.int p6), .val (.int vk), .val (.int (0 : Int32)), .val (.ref b175), .val (.int (1 : Int32))] [(.int (1 : Int32))])) (fun t k => XS.iload X189.here hx rfl (Jvm.hb hby at_155) rfl k) ?_
  refine own_go (B := T189.setTop (mkF m 160 #[.val (.int p1), .val (.int p2), .val (.int p3), .val (.int p4), .val (.int p5), .val (.int p6), .val (.int vk), .val (.int (0 : Int32)), .val (.ref b175), .val (.int (1 : Int32))] [])) (fun t k => XS.ifNo X189.here hx rfl (Jvm.hb hby at_157) rfl ((if0 _ _).trans (feq (by decide : ¬ ((1 : Int32) = (0 : Int32)))).1) k) ?_
  refine own_go (B := T189.setTop (mkF m 162 #[.val (.int p1), .val (.int p2), .val (.int p3), .val (.int p4), .val (.int p5), .val (.int p6), .val (.int vk), .val (.int (0 : Int32)), .val (.ref b175), .val (.int (1 : Int32))] [(.ref b175)])) (fun t k => XS.aload X189.here hx rfl (Jvm.hb hby at_160) rfl rfl k) ?_
  obtain ⟨cq190, kq190, q190a, q190b, q190c⟩ := isOf hZ rfl E_b175
  obtain ⟨_, _, ⟨T190, La190, ka190, na190⟩, -, X190, ⟨Lc190, hQ190, l190, y190, z190⟩, st190⟩ := X189.virtualBack hx (y := (⟨"com/example/term_unifier/termunifier/IntPairStack", "isEmpty", "()Z"⟩ : MethodName)) (z := (⟨"com/example/term_unifier/termunifier/IntPairStack", "isEmpty", "()Z"⟩ : MethodName)) hown (mvT hZ (own_w hw 55 rfl)) (mvT hZ (own_w hw 56 rfl)) (notFace_of_selects (args := #[]) (mvT hZ (own_w hw 58 rfl))) (mvT hZ (own_w hw 58 rfl)) (mvT hZ (own_w hw 57 rfl)) (by decide) (backOf (W := 0) (rm8 l Z a0 hw [] b175 (1 : Int32) (0 : Int32) T189.heap n0 Zs F_b175_top (by decide)) hZ (own_w hw 59 rfl) (own_w hw 2 rfl) (by decide) (by decide)) q190a q190c (g := (mkF m 162 #[.val (.int p1), .val (.int p2), .val (.int p3), .val (.int p4), .val (.int p5), .val (.int p6), .val (.int vk), .val (.int (0 : Int32)), .val (.ref b175), .val (.int (1 : Int32))] [(.ref b175)])) rfl (by rw [hml]; rfl) (Steps.refl _) (argsL := []) (rest := []) (lenOf pd_4 rfl) rfl (by show 2 * 0 + _ ≤ _; exact Nat.le_of_eq rfl) (Jvm.hb hby at_162) (fun _ _ => ⟨rfl, rfl, (by decide : 6 + 0 ≤ _), (by decide : 73 + 0 ≤ _)⟩)
  dsimp only [Pt.U, Pt.locs, Pt.cells, Pt.slots] at X190 l190 y190 z190 st190 hQ190
  have y190 : ka190 = 6 := y190
  have z190 : na190 = 73 := z190
  subst y190 z190
  obtain ⟨rfl, N190q, e190⟩ := hQ190
  have N190 : Fr n0 La190 := by rw [l190]; exact Fr.app N189 N190q
  refine own_go (B := T190.setTop (mkF m 165 #[.val (.int p1), .val (.int p2), .val (.int p3), .val (.int p4), .val (.int p5), .val (.int p6), .val (.int vk), .val (.int (0 : Int32)), .val (.ref b175), .val (.int (1 : Int32))] [(.int (0 : Int32))])) (fun t k => own_st st190 k) ?_
  refine own_go (B := T190.setTop (mkF m 168 #[.val (.int p1), .val (.int p2), .val (.int p3), .val (.int p4), .val (.int p5), .val (.int p6), .val (.int vk), .val (.int (0 : Int32)), .val (.ref b175), .val (.int (1 : Int32))] [])) (fun t k => XS.ifNo X190.here hx rfl (Jvm.hb hby at_165) rfl ((if0 _ _).trans (teq (by decide : (0 : Int32) = (0 : Int32))).2) k) ?_
  refine own_go (B := T190.setTop (mkF m 170 #[.val (.int p1), .val (.int p2), .val (.int p3), .val (.int p4), .val (.int p5), .val (.int p6), .val (.int vk), .val (.int (0 : Int32)), .val (.ref b175), .val (.int (1 : Int32))] [(.ref b175)])) (fun t k => XS.aload X190.here hx rfl (Jvm.hb hby at_168) rfl rfl k) ?_
  obtain ⟨cq191, kq191, q191a, q191b, q191c⟩ := isOf hZ e190 E_b175
  obtain ⟨_, _, ⟨T191, La191, ka191, na191⟩, -, X191, ⟨Lc191, hQ191, l191, y191, z191⟩, st191⟩ := X190.virtualBack hx (y := (⟨"com/example/term_unifier/termunifier/IntPairStack", "first", "()I"⟩ : MethodName)) (z := (⟨"com/example/term_unifier/termunifier/IntPairStack", "first", "()I"⟩ : MethodName)) hown (mvT hZ (own_w hw 60 rfl)) (mvT hZ (own_w hw 61 rfl)) (notFace_of_selects (args := #[]) (mvT hZ (own_w hw 63 rfl))) (mvT hZ (own_w hw 63 rfl)) (mvT hZ (own_w hw 62 rfl)) (by decide) (backOf (W := 0) (rm9 l Z a0 hw [] b175 b177 (1 : Int32) 1 (own_upd (own_upd (own_upd (fun _ => 0) 0 p1) 1 p3) 1 p5) p5 T189.heap n0 Zs F_b175_firsts F_b175_top V_b177 (by decide) (by decide) (by decide) rfl) hZ (own_w hw 64 rfl) (own_w hw 2 rfl) (by decide) (by decide)) q191a q191c (g := (mkF m 170 #[.val (.int p1), .val (.int p2), .val (.int p3), .val (.int p4), .val (.int p5), .val (.int p6), .val (.int vk), .val (.int (0 : Int32)), .val (.ref b175), .val (.int (1 : Int32))] [(.ref b175)])) rfl (by rw [hml]; rfl) (Steps.refl _) (argsL := []) (rest := []) (lenOf pd_2 rfl) rfl (by show 2 * 0 + _ ≤ _; exact Nat.le_of_eq rfl) (Jvm.hb hby at_170) (fun _ _ => ⟨rfl, e190, (by decide : 6 + 0 ≤ _), (by decide : 73 + 0 ≤ _)⟩)
  dsimp only [Pt.U, Pt.locs, Pt.cells, Pt.slots] at X191 l191 y191 z191 st191 hQ191
  have y191 : ka191 = 6 := y191
  have z191 : na191 = 73 := z191
  subst y191 z191
  obtain ⟨rfl, N191q, e191⟩ := hQ191
  have N191 : Fr n0 La191 := by rw [l191]; exact Fr.app N190 N191q
  refine own_go (B := T191.setTop (mkF m 173 #[.val (.int p1), .val (.int p2), .val (.int p3), .val (.int p4), .val (.int p5), .val (.int p6), .val (.int vk), .val (.int (0 : Int32)), .val (.ref b175), .val (.int (1 : Int32))] [(.int p5)])) (fun t k => own_st st191 k) ?_
  refine own_go (B := T191.setTop (mkF m 175 #[.val (.int p1), .val (.int p2), .val (.int p3), .val (.int p4), .val (.int p5), .val (.int p6), .val (.int vk), .val (.int (0 : Int32)), .val (.ref b175), .val (.int (1 : Int32))] [(.int p5), (.int p5)])) (fun t k => XS.iload X191.here hx rfl (Jvm.hb hby at_173) rfl k) ?_
  refine own_go (B := T191.setTop (mkF m 178 #[.val (.int p1), .val (.int p2), .val (.int p3), .val (.int p4), .val (.int p5), .val (.int p6), .val (.int vk), .val (.int (0 : Int32)), .val (.ref b175), .val (.int (1 : Int32))] [])) (fun t k => XS.icmpNo X191.here hx rfl (Jvm.hb hby at_175) rfl (teq (rfl : p5 = p5)).2 k) ?_
  refine own_go (B := T191.setTop (mkF m 180 #[.val (.int p1), .val (.int p2), .val (.int p3), .val (.int p4), .val (.int p5), .val (.int p6), .val (.int vk), .val (.int (0 : Int32)), .val (.ref b175), .val (.int (1 : Int32))] [(.ref b175)])) (fun t k => XS.aload X191.here hx rfl (Jvm.hb hby at_178) rfl rfl k) ?_
  obtain ⟨cq192, kq192, q192a, q192b, q192c⟩ := isOf hZ e191 E_b175
  obtain ⟨_, _, ⟨T192, La192, ka192, na192⟩, -, X192, ⟨Lc192, hQ192, l192, y192, z192⟩, st192⟩ := X191.virtualBack hx (y := (⟨"com/example/term_unifier/termunifier/IntPairStack", "second", "()I"⟩ : MethodName)) (z := (⟨"com/example/term_unifier/termunifier/IntPairStack", "second", "()I"⟩ : MethodName)) hown (mvT hZ (own_w hw 65 rfl)) (mvT hZ (own_w hw 66 rfl)) (notFace_of_selects (args := #[]) (mvT hZ (own_w hw 68 rfl))) (mvT hZ (own_w hw 68 rfl)) (mvT hZ (own_w hw 67 rfl)) (by decide) (backOf (W := 0) (rm10 l Z a0 hw [] b175 b178 (1 : Int32) 1 (own_upd (own_upd (own_upd (fun _ => 0) 0 p2) 1 p4) 1 (p5 ^^^ (-1 : Int32))) (p5 ^^^ (-1 : Int32)) T189.heap n0 Zs F_b175_seconds F_b175_top V_b178 (by decide) (by decide) (by decide) rfl) hZ (own_w hw 69 rfl) (own_w hw 2 rfl) (by decide) (by decide)) q192a q192c (g := (mkF m 180 #[.val (.int p1), .val (.int p2), .val (.int p3), .val (.int p4), .val (.int p5), .val (.int p6), .val (.int vk), .val (.int (0 : Int32)), .val (.ref b175), .val (.int (1 : Int32))] [(.ref b175)])) rfl (by rw [hml]; rfl) (Steps.refl _) (argsL := []) (rest := []) (lenOf pd_2 rfl) rfl (by show 2 * 0 + _ ≤ _; exact Nat.le_of_eq rfl) (Jvm.hb hby at_180) (fun _ _ => ⟨rfl, e191, (by decide : 6 + 0 ≤ _), (by decide : 73 + 0 ≤ _)⟩)
  dsimp only [Pt.U, Pt.locs, Pt.cells, Pt.slots] at X192 l192 y192 z192 st192 hQ192
  have y192 : ka192 = 6 := y192
  have z192 : na192 = 73 := z192
  subst y192 z192
  obtain ⟨rfl, N192q, e192⟩ := hQ192
  have N192 : Fr n0 La192 := by rw [l192]; exact Fr.app N191 N192q
  refine own_go (B := T192.setTop (mkF m 183 #[.val (.int p1), .val (.int p2), .val (.int p3), .val (.int p4), .val (.int p5), .val (.int p6), .val (.int vk), .val (.int (0 : Int32)), .val (.ref b175), .val (.int (1 : Int32))] [(.int (p5 ^^^ (-1 : Int32)))])) (fun t k => own_st st192 k) ?_
  refine own_go (B := T192.setTop (mkF m 185 #[.val (.int p1), .val (.int p2), .val (.int p3), .val (.int p4), .val (.int p5), .val (.int p6), .val (.int vk), .val (.int (0 : Int32)), .val (.ref b175), .val (.int (1 : Int32))] [(.int p5), (.int (p5 ^^^ (-1 : Int32)))])) (fun t k => XS.iload X192.here hx rfl (Jvm.hb hby at_183) rfl k) ?_
  refine own_go (B := T192.setTop (mkF m 186 #[.val (.int p1), .val (.int p2), .val (.int p3), .val (.int p4), .val (.int p5), .val (.int p6), .val (.int vk), .val (.int (0 : Int32)), .val (.ref b175), .val (.int (1 : Int32))] [(.int (-1 : Int32)), (.int p5), (.int (p5 ^^^ (-1 : Int32)))])) (fun t k => XS.iconst X192.here hx rfl (Jvm.hb hby at_185) k) ?_
  refine own_go (B := T192.setTop (mkF m 187 #[.val (.int p1), .val (.int p2), .val (.int p3), .val (.int p4), .val (.int p5), .val (.int p6), .val (.int vk), .val (.int (0 : Int32)), .val (.ref b175), .val (.int (1 : Int32))] [(.int (p5 ^^^ (-1 : Int32))), (.int (p5 ^^^ (-1 : Int32)))])) (fun t k => XS.ixor X192.here hx rfl (Jvm.hb hby at_186) rfl k) ?_
  refine own_go (B := T192.setTop (mkF m 190 #[.val (.int p1), .val (.int p2), .val (.int p3), .val (.int p4), .val (.int p5), .val (.int p6), .val (.int vk), .val (.int (0 : Int32)), .val (.ref b175), .val (.int (1 : Int32))] [])) (fun t k => XS.icmpNo X192.here hx rfl (Jvm.hb hby at_187) rfl (teq (rfl : (p5 ^^^ (-1 : Int32)) = (p5 ^^^ (-1 : Int32)))).2 k) ?_
  refine own_go (B := T192.setTop (mkF m 191 #[.val (.int p1), .val (.int p2), .val (.int p3), .val (.int p4), .val (.int p5), .val (.int p6), .val (.int vk), .val (.int (0 : Int32)), .val (.ref b175), .val (.int (1 : Int32))] [(.int (1 : Int32))])) (fun t k => XS.iconst X192.here hx rfl (Jvm.hb hby at_190) k) ?_
  refine own_go (B := T192.setTop (mkF m 195 #[.val (.int p1), .val (.int p2), .val (.int p3), .val (.int p4), .val (.int p5), .val (.int p6), .val (.int vk), .val (.int (0 : Int32)), .val (.ref b175), .val (.int (1 : Int32))] [(.int (1 : Int32))])) (fun t k => XS.goto X192.here hx rfl (pc0 := 191) (pc' := 195) rfl (Jvm.hb hby at_191) (by decide) (by decide) k) ?_
  refine own_go (B := T192.setTop (mkF m 197 #[.val (.int p1), .val (.int p2), .val (.int p3), .val (.int p4), .val (.int p5), .val (.int p6), .val (.int vk), .val (.int (0 : Int32)), .val (.ref b175), .val (.int (1 : Int32))] [])) (fun t k => XS.istore X192.here hx rfl (Jvm.hb hby at_195) rfl (l' := #[.val (.int p1), .val (.int p2), .val (.int p3), .val (.int p4), .val (.int p5), .val (.int p6), .val (.int vk), .val (.int (0 : Int32)), .val (.ref b175), .val (.int (1 : Int32))]) rfl k) ?_
  refine own_go (B := T192.setTop (mkF m 199 #[.val (.int p1), .val (.int p2), .val (.int p3), .val (.int p4), .val (.int p5), .val (.int p6), .val (.int vk), .val (.int (0 : Int32)), .val (.ref b175), .val (.int (1 : Int32))] [(.ref b175)])) (fun t k => XS.aload X192.here hx rfl (Jvm.hb hby at_197) rfl rfl k) ?_
  obtain ⟨cq193, kq193, q193a, q193b, q193c⟩ := isOf hZ e192 E_b175
  obtain ⟨_, _, ⟨T193, La193, ka193, na193⟩, -, X193, ⟨Lc193, hQ193, l193, y193, z193⟩, st193⟩ := X192.virtualBack hx (y := (⟨"com/example/term_unifier/termunifier/IntPairStack", "pop", "()V"⟩ : MethodName)) (z := (⟨"com/example/term_unifier/termunifier/IntPairStack", "pop", "()V"⟩ : MethodName)) hown (mvT hZ (own_w hw 50 rfl)) (mvT hZ (own_w hw 51 rfl)) (notFace_of_selects (args := #[]) (mvT hZ (own_w hw 53 rfl))) (mvT hZ (own_w hw 53 rfl)) (mvT hZ (own_w hw 52 rfl)) (by decide) (backOf (W := 0) (rm_popd l Z a0 hw [] b175 b177 b178 b179 b180 (1 : Int32) (2 : Int32) (1 : Int32) (0 : Int32) (1 : Int32) 1 (own_upd (own_upd (own_upd (fun _ => 0) 0 (-1 : Int32)) 1 (0 : Int32)) 1 (0 : Int32)) T189.heap n0 Zs E_b175 F_b175_firsts F_b175_seconds F_b175_below F_b175_top F_b175_used F_b175_kept F_b175_marks V_b179 g_b175 ne_b175_b179 (by decide) (by decide) (by decide) rfl (by decide) (by decide) (by decide)) hZ (own_w hw 54 rfl) (own_w hw 2 rfl) (by decide) (by decide)) q193a q193c (g := (mkF m 199 #[.val (.int p1), .val (.int p2), .val (.int p3), .val (.int p4), .val (.int p5), .val (.int p6), .val (.int vk), .val (.int (0 : Int32)), .val (.ref b175), .val (.int (1 : Int32))] [(.ref b175)])) rfl (by rw [hml]; rfl) (Steps.refl _) (argsL := []) (rest := []) (lenOf pd_0 rfl) rfl (by show 2 * 0 + _ ≤ _; exact Nat.le_of_eq rfl) (Jvm.hb hby at_199) (fun _ _ => ⟨rfl, e192, (by decide : 6 + 0 ≤ _), (by decide : 73 + 0 ≤ _)⟩)
  dsimp only [Pt.U, Pt.locs, Pt.cells, Pt.slots] at X193 l193 y193 z193 st193 hQ193
  have y193 : ka193 = 6 := y193
  have z193 : na193 = 73 := z193
  subst y193 z193
  obtain ⟨rfl, N193q, Kc193, E_b175_q, F_b175_firsts_q, F_b175_seconds_q, F_b175_below_q, F_b175_top_q, F_b175_used_q, F_b175_kept_q, F_b175_marks_q⟩ := hQ193
  have N193 : Fr n0 La193 := by rw [l193]; exact Fr.app N192 N193q
  have E_b180 := E_b180.keep Kc193
  have F_b180_items := F_b180_items.keep Kc193 (ninS (Ne.symm ne_b175_b180) nin0)
  have F_b180_size := F_b180_size.keep Kc193 (ninS (Ne.symm ne_b175_b180) nin0)
  have V_b181 := V_b181.keep Kc193 (ninS (Ne.symm ne_b175_b181) nin0)
  have V_b177 := V_b177.keep Kc193 (ninS (Ne.symm ne_b175_b177) nin0)
  have V_b178 := V_b178.keep Kc193 (ninS (Ne.symm ne_b175_b178) nin0)
  have V_b179 := V_b179.keep Kc193 (ninS (Ne.symm ne_b175_b179) nin0)
  have Zs := Nat.le_trans Zs Kc193.1
  have E_b175 := E_b175_q
  have F_b175_firsts := F_b175_firsts_q
  have F_b175_seconds := F_b175_seconds_q
  have F_b175_below := F_b175_below_q
  have F_b175_top := F_b175_top_q
  have F_b175_used := F_b175_used_q
  have F_b175_kept := F_b175_kept_q
  have F_b175_marks := F_b175_marks_q
  refine own_go (B := T193.setTop (mkF m 202 #[.val (.int p1), .val (.int p2), .val (.int p3), .val (.int p4), .val (.int p5), .val (.int p6), .val (.int vk), .val (.int (0 : Int32)), .val (.ref b175), .val (.int (1 : Int32))] [])) (fun t k => own_st st193 k) ?_
  refine own_go (B := T193.setTop (mkF m 204 #[.val (.int p1), .val (.int p2), .val (.int p3), .val (.int p4), .val (.int p5), .val (.int p6), .val (.int vk), .val (.int (0 : Int32)), .val (.ref b175), .val (.int (1 : Int32))] [(.int (0 : Int32))])) (fun t k => XS.iload X193.here hx rfl (Jvm.hb hby at_202) rfl k) ?_
  refine own_go (B := T193.setTop (mkF m 230 #[.val (.int p1), .val (.int p2), .val (.int p3), .val (.int p4), .val (.int p5), .val (.int p6), .val (.int vk), .val (.int (0 : Int32)), .val (.ref b175), .val (.int (1 : Int32))] [])) (fun t k => XS.ifYes X193.here hx rfl (pc0 := 204) (pc' := 230) rfl (Jvm.hb hby at_204) rfl ((if0 _ _).trans (teq (by decide : (0 : Int32) = (0 : Int32))).1) (by decide) (by decide) k) ?_
  refine own_go (B := T193.setTop (mkF m 232 #[.val (.int p1), .val (.int p2), .val (.int p3), .val (.int p4), .val (.int p5), .val (.int p6), .val (.int vk), .val (.int (0 : Int32)), .val (.ref b175), .val (.int (1 : Int32))] [(.int (1 : Int32))])) (fun t k => XS.iload X193.here hx rfl (Jvm.hb hby at_230) rfl k) ?_
  refine own_go (B := T193.setTop (mkF m 235 #[.val (.int p1), .val (.int p2), .val (.int p3), .val (.int p4), .val (.int p5), .val (.int p6), .val (.int vk), .val (.int (0 : Int32)), .val (.ref b175), .val (.int (1 : Int32))] [])) (fun t k => XS.ifNo X193.here hx rfl (Jvm.hb hby at_232) rfl ((if0 _ _).trans (feq (by decide : ¬ ((1 : Int32) = (0 : Int32)))).1) k) ?_
  refine own_go (B := T193.setTop (mkF m 237 #[.val (.int p1), .val (.int p2), .val (.int p3), .val (.int p4), .val (.int p5), .val (.int p6), .val (.int vk), .val (.int (0 : Int32)), .val (.ref b175), .val (.int (1 : Int32))] [(.ref b175)])) (fun t k => XS.aload X193.here hx rfl (Jvm.hb hby at_235) rfl rfl k) ?_
  obtain ⟨cq194, kq194, q194a, q194b, q194c⟩ := isOf hZ rfl E_b175
  obtain ⟨_, _, ⟨T194, La194, ka194, na194⟩, -, X194, ⟨Lc194, hQ194, l194, y194, z194⟩, st194⟩ := X193.virtualBack hx (y := (⟨"com/example/term_unifier/termunifier/IntPairStack", "isEmpty", "()Z"⟩ : MethodName)) (z := (⟨"com/example/term_unifier/termunifier/IntPairStack", "isEmpty", "()Z"⟩ : MethodName)) hown (mvT hZ (own_w hw 55 rfl)) (mvT hZ (own_w hw 56 rfl)) (notFace_of_selects (args := #[]) (mvT hZ (own_w hw 58 rfl))) (mvT hZ (own_w hw 58 rfl)) (mvT hZ (own_w hw 57 rfl)) (by decide) (backOf (W := 0) (rm8 l Z a0 hw [] b175 (0 : Int32) (0 : Int32) T193.heap n0 Zs F_b175_top (by decide)) hZ (own_w hw 59 rfl) (own_w hw 2 rfl) (by decide) (by decide)) q194a q194c (g := (mkF m 237 #[.val (.int p1), .val (.int p2), .val (.int p3), .val (.int p4), .val (.int p5), .val (.int p6), .val (.int vk), .val (.int (0 : Int32)), .val (.ref b175), .val (.int (1 : Int32))] [(.ref b175)])) rfl (by rw [hml]; rfl) (Steps.refl _) (argsL := []) (rest := []) (lenOf pd_4 rfl) rfl (by show 2 * 0 + _ ≤ _; exact Nat.le_of_eq rfl) (Jvm.hb hby at_237) (fun _ _ => ⟨rfl, rfl, (by decide : 6 + 0 ≤ _), (by decide : 73 + 0 ≤ _)⟩)
  dsimp only [Pt.U, Pt.locs, Pt.cells, Pt.slots] at X194 l194 y194 z194 st194 hQ194
  have y194 : ka194 = 6 := y194
  have z194 : na194 = 73 := z194
  subst y194 z194
  obtain ⟨rfl, N194q, e194⟩ := hQ194
  have N194 : Fr n0 La194 := by rw [l194]; exact Fr.app N193 N194q
  refine own_go (B := T194.setTop (mkF m 240 #[.val (.int p1), .val (.int p2), .val (.int p3), .val (.int p4), .val (.int p5), .val (.int p6), .val (.int vk), .val (.int (0 : Int32)), .val (.ref b175), .val (.int (1 : Int32))] [(.int (0 : Int32))])) (fun t k => own_st st194 k) ?_
  refine own_go (B := T194.setTop (mkF m 243 #[.val (.int p1), .val (.int p2), .val (.int p3), .val (.int p4), .val (.int p5), .val (.int p6), .val (.int vk), .val (.int (0 : Int32)), .val (.ref b175), .val (.int (1 : Int32))] [])) (fun t k => XS.ifNo X194.here hx rfl (Jvm.hb hby at_240) rfl ((if0 _ _).trans (teq (by decide : (0 : Int32) = (0 : Int32))).2) k) ?_
  refine own_go (B := T194.setTop (mkF m 245 #[.val (.int p1), .val (.int p2), .val (.int p3), .val (.int p4), .val (.int p5), .val (.int p6), .val (.int vk), .val (.int (0 : Int32)), .val (.ref b175), .val (.int (1 : Int32))] [(.ref b175)])) (fun t k => XS.aload X194.here hx rfl (Jvm.hb hby at_243) rfl rfl k) ?_
  obtain ⟨cq195, kq195, q195a, q195b, q195c⟩ := isOf hZ e194 E_b175
  obtain ⟨_, _, ⟨T195, La195, ka195, na195⟩, -, X195, ⟨Lc195, hQ195, l195, y195, z195⟩, st195⟩ := X194.virtualBack hx (y := (⟨"com/example/term_unifier/termunifier/IntPairStack", "first", "()I"⟩ : MethodName)) (z := (⟨"com/example/term_unifier/termunifier/IntPairStack", "first", "()I"⟩ : MethodName)) hown (mvT hZ (own_w hw 60 rfl)) (mvT hZ (own_w hw 61 rfl)) (notFace_of_selects (args := #[]) (mvT hZ (own_w hw 63 rfl))) (mvT hZ (own_w hw 63 rfl)) (mvT hZ (own_w hw 62 rfl)) (by decide) (backOf (W := 0) (rm9 l Z a0 hw [] b175 b177 (0 : Int32) 0 (own_upd (own_upd (own_upd (fun _ => 0) 0 p1) 1 p3) 1 p5) p1 T193.heap n0 Zs F_b175_firsts F_b175_top V_b177 (by decide) (by decide) (by decide) rfl) hZ (own_w hw 64 rfl) (own_w hw 2 rfl) (by decide) (by decide)) q195a q195c (g := (mkF m 245 #[.val (.int p1), .val (.int p2), .val (.int p3), .val (.int p4), .val (.int p5), .val (.int p6), .val (.int vk), .val (.int (0 : Int32)), .val (.ref b175), .val (.int (1 : Int32))] [(.ref b175)])) rfl (by rw [hml]; rfl) (Steps.refl _) (argsL := []) (rest := []) (lenOf pd_2 rfl) rfl (by show 2 * 0 + _ ≤ _; exact Nat.le_of_eq rfl) (Jvm.hb hby at_245) (fun _ _ => ⟨rfl, e194, (by decide : 6 + 0 ≤ _), (by decide : 73 + 0 ≤ _)⟩)
  dsimp only [Pt.U, Pt.locs, Pt.cells, Pt.slots] at X195 l195 y195 z195 st195 hQ195
  have y195 : ka195 = 6 := y195
  have z195 : na195 = 73 := z195
  subst y195 z195
  obtain ⟨rfl, N195q, e195⟩ := hQ195
  have N195 : Fr n0 La195 := by rw [l195]; exact Fr.app N194 N195q
  refine own_go (B := T195.setTop (mkF m 248 #[.val (.int p1), .val (.int p2), .val (.int p3), .val (.int p4), .val (.int p5), .val (.int p6), .val (.int vk), .val (.int (0 : Int32)), .val (.ref b175), .val (.int (1 : Int32))] [(.int p1)])) (fun t k => own_st st195 k) ?_
  refine own_go (B := T195.setTop (mkF m 249 #[.val (.int p1), .val (.int p2), .val (.int p3), .val (.int p4), .val (.int p5), .val (.int p6), .val (.int vk), .val (.int (0 : Int32)), .val (.ref b175), .val (.int (1 : Int32))] [(.int p1), (.int p1)])) (fun t k => XS.iloadN X195.here hx rfl (Jvm.hb hby at_248) rfl k) ?_
  refine own_go (B := T195.setTop (mkF m 252 #[.val (.int p1), .val (.int p2), .val (.int p3), .val (.int p4), .val (.int p5), .val (.int p6), .val (.int vk), .val (.int (0 : Int32)), .val (.ref b175), .val (.int (1 : Int32))] [])) (fun t k => XS.icmpNo X195.here hx rfl (Jvm.hb hby at_249) rfl (teq (rfl : p1 = p1)).2 k) ?_
  refine own_go (B := T195.setTop (mkF m 254 #[.val (.int p1), .val (.int p2), .val (.int p3), .val (.int p4), .val (.int p5), .val (.int p6), .val (.int vk), .val (.int (0 : Int32)), .val (.ref b175), .val (.int (1 : Int32))] [(.ref b175)])) (fun t k => XS.aload X195.here hx rfl (Jvm.hb hby at_252) rfl rfl k) ?_
  obtain ⟨cq196, kq196, q196a, q196b, q196c⟩ := isOf hZ e195 E_b175
  obtain ⟨_, _, ⟨T196, La196, ka196, na196⟩, -, X196, ⟨Lc196, hQ196, l196, y196, z196⟩, st196⟩ := X195.virtualBack hx (y := (⟨"com/example/term_unifier/termunifier/IntPairStack", "second", "()I"⟩ : MethodName)) (z := (⟨"com/example/term_unifier/termunifier/IntPairStack", "second", "()I"⟩ : MethodName)) hown (mvT hZ (own_w hw 65 rfl)) (mvT hZ (own_w hw 66 rfl)) (notFace_of_selects (args := #[]) (mvT hZ (own_w hw 68 rfl))) (mvT hZ (own_w hw 68 rfl)) (mvT hZ (own_w hw 67 rfl)) (by decide) (backOf (W := 0) (rm10 l Z a0 hw [] b175 b178 (0 : Int32) 0 (own_upd (own_upd (own_upd (fun _ => 0) 0 p2) 1 p4) 1 (p5 ^^^ (-1 : Int32))) p2 T193.heap n0 Zs F_b175_seconds F_b175_top V_b178 (by decide) (by decide) (by decide) rfl) hZ (own_w hw 69 rfl) (own_w hw 2 rfl) (by decide) (by decide)) q196a q196c (g := (mkF m 254 #[.val (.int p1), .val (.int p2), .val (.int p3), .val (.int p4), .val (.int p5), .val (.int p6), .val (.int vk), .val (.int (0 : Int32)), .val (.ref b175), .val (.int (1 : Int32))] [(.ref b175)])) rfl (by rw [hml]; rfl) (Steps.refl _) (argsL := []) (rest := []) (lenOf pd_2 rfl) rfl (by show 2 * 0 + _ ≤ _; exact Nat.le_of_eq rfl) (Jvm.hb hby at_254) (fun _ _ => ⟨rfl, e195, (by decide : 6 + 0 ≤ _), (by decide : 73 + 0 ≤ _)⟩)
  dsimp only [Pt.U, Pt.locs, Pt.cells, Pt.slots] at X196 l196 y196 z196 st196 hQ196
  have y196 : ka196 = 6 := y196
  have z196 : na196 = 73 := z196
  subst y196 z196
  obtain ⟨rfl, N196q, e196⟩ := hQ196
  have N196 : Fr n0 La196 := by rw [l196]; exact Fr.app N195 N196q
  refine own_go (B := T196.setTop (mkF m 257 #[.val (.int p1), .val (.int p2), .val (.int p3), .val (.int p4), .val (.int p5), .val (.int p6), .val (.int vk), .val (.int (0 : Int32)), .val (.ref b175), .val (.int (1 : Int32))] [(.int p2)])) (fun t k => own_st st196 k) ?_
  refine own_go (B := T196.setTop (mkF m 258 #[.val (.int p1), .val (.int p2), .val (.int p3), .val (.int p4), .val (.int p5), .val (.int p6), .val (.int vk), .val (.int (0 : Int32)), .val (.ref b175), .val (.int (1 : Int32))] [(.int p2), (.int p2)])) (fun t k => XS.iloadN X196.here hx rfl (Jvm.hb hby at_257) rfl k) ?_
  refine own_go (B := T196.setTop (mkF m 261 #[.val (.int p1), .val (.int p2), .val (.int p3), .val (.int p4), .val (.int p5), .val (.int p6), .val (.int vk), .val (.int (0 : Int32)), .val (.ref b175), .val (.int (1 : Int32))] [])) (fun t k => XS.icmpNo X196.here hx rfl (Jvm.hb hby at_258) rfl (teq (rfl : p2 = p2)).2 k) ?_
  refine own_go (B := T196.setTop (mkF m 262 #[.val (.int p1), .val (.int p2), .val (.int p3), .val (.int p4), .val (.int p5), .val (.int p6), .val (.int vk), .val (.int (0 : Int32)), .val (.ref b175), .val (.int (1 : Int32))] [(.int (1 : Int32))])) (fun t k => XS.iconst X196.here hx rfl (Jvm.hb hby at_261) k) ?_
  refine own_go (B := T196.setTop (mkF m 266 #[.val (.int p1), .val (.int p2), .val (.int p3), .val (.int p4), .val (.int p5), .val (.int p6), .val (.int vk), .val (.int (0 : Int32)), .val (.ref b175), .val (.int (1 : Int32))] [(.int (1 : Int32))])) (fun t k => XS.goto X196.here hx rfl (pc0 := 262) (pc' := 266) rfl (Jvm.hb hby at_262) (by decide) (by decide) k) ?_
  refine own_go (B := T196.setTop (mkF m 268 #[.val (.int p1), .val (.int p2), .val (.int p3), .val (.int p4), .val (.int p5), .val (.int p6), .val (.int vk), .val (.int (0 : Int32)), .val (.ref b175), .val (.int (1 : Int32))] [])) (fun t k => XS.istore X196.here hx rfl (Jvm.hb hby at_266) rfl (l' := #[.val (.int p1), .val (.int p2), .val (.int p3), .val (.int p4), .val (.int p5), .val (.int p6), .val (.int vk), .val (.int (0 : Int32)), .val (.ref b175), .val (.int (1 : Int32))]) rfl k) ?_
  refine own_go (B := T196.setTop (mkF m 270 #[.val (.int p1), .val (.int p2), .val (.int p3), .val (.int p4), .val (.int p5), .val (.int p6), .val (.int vk), .val (.int (0 : Int32)), .val (.ref b175), .val (.int (1 : Int32))] [(.int vk)])) (fun t k => XS.iload X196.here hx rfl (Jvm.hb hby at_268) rfl k) ?_
  refine own_go (B := T196.setTop (mkF m 273 #[.val (.int p1), .val (.int p2), .val (.int p3), .val (.int p4), .val (.int p5), .val (.int p6), .val (.int vk), .val (.int (0 : Int32)), .val (.ref b175), .val (.int (1 : Int32))] [])) (fun t k => XS.ifNo X196.here hx rfl (Jvm.hb hby at_270) rfl ((if0 _ _).trans (feq (by rw [hvk, hk]; decide)).1) k) ?_
  refine own_go (B := T196.setTop (mkF m 275 #[.val (.int p1), .val (.int p2), .val (.int p3), .val (.int p4), .val (.int p5), .val (.int p6), .val (.int vk), .val (.int (0 : Int32)), .val (.ref b175), .val (.int (1 : Int32))] [(.ref b175)])) (fun t k => XS.aload X196.here hx rfl (Jvm.hb hby at_273) rfl rfl k) ?_
  obtain ⟨cq197, kq197, q197a, q197b, q197c⟩ := isOf hZ e196 E_b175
  obtain ⟨_, _, ⟨T197, La197, ka197, na197⟩, -, X197, ⟨Lc197, hQ197, l197, y197, z197⟩, st197⟩ := X196.virtualBack hx (y := (⟨"com/example/term_unifier/termunifier/IntPairStack", "returnToMark", "()V"⟩ : MethodName)) (z := (⟨"com/example/term_unifier/termunifier/IntPairStack", "returnToMark", "()V"⟩ : MethodName)) hown (mvT hZ (own_w hw 70 rfl)) (mvT hZ (own_w hw 71 rfl)) (notFace_of_selects (args := #[]) (mvT hZ (own_w hw 73 rfl))) (mvT hZ (own_w hw 73 rfl)) (mvT hZ (own_w hw 72 rfl)) (by decide) (backOf (W := 0) (rm11 l Z a0 hw [] b175 b177 b178 b179 b180 b181 (0 : Int32) (1 : Int32) (1 : Int32) (0 : Int32) (1 : Int32) (0 : Int32) (own_upd (own_upd (own_upd (fun _ => 0) 0 (0 : Int32)) 1 (1 : Int32)) 2 (0 : Int32)) T193.heap n0 Zs E_b175 F_b175_firsts F_b175_seconds F_b175_below F_b175_top F_b175_used F_b175_kept F_b175_marks E_b180 F_b180_items F_b180_size V_b181 g_b175 g_b180 ne_b175_b180 ne_b175_b181 ne_b180_b181 rfl rfl rfl) hZ (own_w hw 74 rfl) (own_w hw 2 rfl) (by decide) (by decide)) q197a q197c (g := (mkF m 275 #[.val (.int p1), .val (.int p2), .val (.int p3), .val (.int p4), .val (.int p5), .val (.int p6), .val (.int vk), .val (.int (0 : Int32)), .val (.ref b175), .val (.int (1 : Int32))] [(.ref b175)])) rfl (by rw [hml]; rfl) (Steps.refl _) (argsL := []) (rest := []) (lenOf pd_0 rfl) rfl (by show 2 * 0 + _ ≤ _; exact Nat.le_of_eq rfl) (Jvm.hb hby at_275) (fun _ _ => ⟨rfl, e196, (by decide : 6 + 0 ≤ _), (by decide : 73 + 0 ≤ _)⟩)
  dsimp only [Pt.U, Pt.locs, Pt.cells, Pt.slots] at X197 l197 y197 z197 st197 hQ197
  have y197 : ka197 = 6 := y197
  have z197 : na197 = 73 := z197
  subst y197 z197
  obtain ⟨rfl, N197q, Kc197, E_b175_q, F_b175_firsts_q, F_b175_seconds_q, F_b175_below_q, F_b175_top_q, F_b175_used_q, F_b175_kept_q, F_b175_marks_q, E_b180_q, F_b180_items_q, F_b180_size_q, V_b181_q⟩ := hQ197
  have N197 : Fr n0 La197 := by rw [l197]; exact Fr.app N196 N197q
  have V_b177 := V_b177.keep Kc197 (ninS (Ne.symm ne_b175_b177) (ninS ne_b177_b180 nin0))
  have V_b178 := V_b178.keep Kc197 (ninS (Ne.symm ne_b175_b178) (ninS ne_b178_b180 nin0))
  have V_b179 := V_b179.keep Kc197 (ninS (Ne.symm ne_b175_b179) (ninS ne_b179_b180 nin0))
  have Zs := Nat.le_trans Zs Kc197.1
  have E_b175 := E_b175_q
  have F_b175_firsts := F_b175_firsts_q
  have F_b175_seconds := F_b175_seconds_q
  have F_b175_below := F_b175_below_q
  have F_b175_top := F_b175_top_q
  have F_b175_used := F_b175_used_q
  have F_b175_kept := F_b175_kept_q
  have F_b175_marks := F_b175_marks_q
  have E_b180 := E_b180_q
  have F_b180_items := F_b180_items_q
  have F_b180_size := F_b180_size_q
  have V_b181 := V_b181_q
  refine own_go (B := T197.setTop (mkF m 278 #[.val (.int p1), .val (.int p2), .val (.int p3), .val (.int p4), .val (.int p5), .val (.int p6), .val (.int vk), .val (.int (0 : Int32)), .val (.ref b175), .val (.int (1 : Int32))] [])) (fun t k => own_st st197 k) ?_
  refine own_go (B := T197.setTop (mkF m 280 #[.val (.int p1), .val (.int p2), .val (.int p3), .val (.int p4), .val (.int p5), .val (.int p6), .val (.int vk), .val (.int (0 : Int32)), .val (.ref b175), .val (.int (1 : Int32))] [(.int vk)])) (fun t k => XS.iload X197.here hx rfl (Jvm.hb hby at_278) rfl k) ?_
  refine own_go (B := T197.setTop (mkF m 281 #[.val (.int p1), .val (.int p2), .val (.int p3), .val (.int p4), .val (.int p5), .val (.int p6), .val (.int vk), .val (.int (0 : Int32)), .val (.ref b175), .val (.int (1 : Int32))] [(.int (1 : Int32)), (.int vk)])) (fun t k => XS.iconst X197.here hx rfl (Jvm.hb hby at_280) k) ?_
  refine own_go (B := T197.setTop (mkF m 307 #[.val (.int p1), .val (.int p2), .val (.int p3), .val (.int p4), .val (.int p5), .val (.int p6), .val (.int vk), .val (.int (0 : Int32)), .val (.ref b175), .val (.int (1 : Int32))] [])) (fun t k => XS.icmpYes X197.here hx rfl (pc0 := 281) (pc' := 307) rfl (Jvm.hb hby at_281) rfl (feq (by rw [hvk, hk]; decide)).2 (by decide) (by decide) k) ?_
  refine own_go (B := T197.setTop (mkF m 309 #[.val (.int p1), .val (.int p2), .val (.int p3), .val (.int p4), .val (.int p5), .val (.int p6), .val (.int vk), .val (.int (0 : Int32)), .val (.ref b175), .val (.int (1 : Int32))] [(.int vk)])) (fun t k => XS.iload X197.here hx rfl (Jvm.hb hby at_307) rfl k) ?_
  refine own_go (B := T197.setTop (mkF m 310 #[.val (.int p1), .val (.int p2), .val (.int p3), .val (.int p4), .val (.int p5), .val (.int p6), .val (.int vk), .val (.int (0 : Int32)), .val (.ref b175), .val (.int (1 : Int32))] [(.int (2 : Int32)), (.int vk)])) (fun t k => XS.iconst X197.here hx rfl (Jvm.hb hby at_309) k) ?_
  refine own_go (B := T197.setTop (mkF m 313 #[.val (.int p1), .val (.int p2), .val (.int p3), .val (.int p4), .val (.int p5), .val (.int p6), .val (.int vk), .val (.int (0 : Int32)), .val (.ref b175), .val (.int (1 : Int32))] [])) (fun t k => XS.icmpNo X197.here hx rfl (Jvm.hb hby at_310) rfl (teq (hvk.trans hk)).2 k) ?_
  refine own_go (B := T197.setTop (mkF m 315 #[.val (.int p1), .val (.int p2), .val (.int p3), .val (.int p4), .val (.int p5), .val (.int p6), .val (.int vk), .val (.int (0 : Int32)), .val (.ref b175), .val (.int (1 : Int32))] [(.int (1 : Int32))])) (fun t k => XS.iload X197.here hx rfl (Jvm.hb hby at_313) rfl k) ?_
  refine own_go (B := T197.setTop (mkF m 318 #[.val (.int p1), .val (.int p2), .val (.int p3), .val (.int p4), .val (.int p5), .val (.int p6), .val (.int vk), .val (.int (0 : Int32)), .val (.ref b175), .val (.int (1 : Int32))] [])) (fun t k => XS.ifNo X197.here hx rfl (Jvm.hb hby at_315) rfl ((if0 _ _).trans (feq (by decide : ¬ ((1 : Int32) = (0 : Int32)))).1) k) ?_
  refine own_go (B := T197.setTop (mkF m 320 #[.val (.int p1), .val (.int p2), .val (.int p3), .val (.int p4), .val (.int p5), .val (.int p6), .val (.int vk), .val (.int (0 : Int32)), .val (.ref b175), .val (.int (1 : Int32))] [(.ref b175)])) (fun t k => XS.aload X197.here hx rfl (Jvm.hb hby at_318) rfl rfl k) ?_
  obtain ⟨cq198, kq198, q198a, q198b, q198c⟩ := isOf hZ rfl E_b175
  obtain ⟨_, _, ⟨T198, La198, ka198, na198⟩, -, X198, ⟨Lc198, hQ198, l198, y198, z198⟩, st198⟩ := X197.virtualBack hx (y := (⟨"com/example/term_unifier/termunifier/IntPairStack", "isEmpty", "()Z"⟩ : MethodName)) (z := (⟨"com/example/term_unifier/termunifier/IntPairStack", "isEmpty", "()Z"⟩ : MethodName)) hown (mvT hZ (own_w hw 55 rfl)) (mvT hZ (own_w hw 56 rfl)) (notFace_of_selects (args := #[]) (mvT hZ (own_w hw 58 rfl))) (mvT hZ (own_w hw 58 rfl)) (mvT hZ (own_w hw 57 rfl)) (by decide) (backOf (W := 0) (rm8 l Z a0 hw [] b175 (0 : Int32) (0 : Int32) T197.heap n0 Zs F_b175_top (by decide)) hZ (own_w hw 59 rfl) (own_w hw 2 rfl) (by decide) (by decide)) q198a q198c (g := (mkF m 320 #[.val (.int p1), .val (.int p2), .val (.int p3), .val (.int p4), .val (.int p5), .val (.int p6), .val (.int vk), .val (.int (0 : Int32)), .val (.ref b175), .val (.int (1 : Int32))] [(.ref b175)])) rfl (by rw [hml]; rfl) (Steps.refl _) (argsL := []) (rest := []) (lenOf pd_4 rfl) rfl (by show 2 * 0 + _ ≤ _; exact Nat.le_of_eq rfl) (Jvm.hb hby at_320) (fun _ _ => ⟨rfl, rfl, (by decide : 6 + 0 ≤ _), (by decide : 73 + 0 ≤ _)⟩)
  dsimp only [Pt.U, Pt.locs, Pt.cells, Pt.slots] at X198 l198 y198 z198 st198 hQ198
  have y198 : ka198 = 6 := y198
  have z198 : na198 = 73 := z198
  subst y198 z198
  obtain ⟨rfl, N198q, e198⟩ := hQ198
  have N198 : Fr n0 La198 := by rw [l198]; exact Fr.app N197 N198q
  refine own_go (B := T198.setTop (mkF m 323 #[.val (.int p1), .val (.int p2), .val (.int p3), .val (.int p4), .val (.int p5), .val (.int p6), .val (.int vk), .val (.int (0 : Int32)), .val (.ref b175), .val (.int (1 : Int32))] [(.int (0 : Int32))])) (fun t k => own_st st198 k) ?_
  refine own_go (B := T198.setTop (mkF m 326 #[.val (.int p1), .val (.int p2), .val (.int p3), .val (.int p4), .val (.int p5), .val (.int p6), .val (.int vk), .val (.int (0 : Int32)), .val (.ref b175), .val (.int (1 : Int32))] [])) (fun t k => XS.ifNo X198.here hx rfl (Jvm.hb hby at_323) rfl ((if0 _ _).trans (teq (by decide : (0 : Int32) = (0 : Int32))).2) k) ?_
  refine own_go (B := T198.setTop (mkF m 328 #[.val (.int p1), .val (.int p2), .val (.int p3), .val (.int p4), .val (.int p5), .val (.int p6), .val (.int vk), .val (.int (0 : Int32)), .val (.ref b175), .val (.int (1 : Int32))] [(.ref b175)])) (fun t k => XS.aload X198.here hx rfl (Jvm.hb hby at_326) rfl rfl k) ?_
  obtain ⟨cq199, kq199, q199a, q199b, q199c⟩ := isOf hZ e198 E_b175
  obtain ⟨_, _, ⟨T199, La199, ka199, na199⟩, -, X199, ⟨Lc199, hQ199, l199, y199, z199⟩, st199⟩ := X198.virtualBack hx (y := (⟨"com/example/term_unifier/termunifier/IntPairStack", "first", "()I"⟩ : MethodName)) (z := (⟨"com/example/term_unifier/termunifier/IntPairStack", "first", "()I"⟩ : MethodName)) hown (mvT hZ (own_w hw 60 rfl)) (mvT hZ (own_w hw 61 rfl)) (notFace_of_selects (args := #[]) (mvT hZ (own_w hw 63 rfl))) (mvT hZ (own_w hw 63 rfl)) (mvT hZ (own_w hw 62 rfl)) (by decide) (backOf (W := 0) (rm9 l Z a0 hw [] b175 b177 (0 : Int32) 0 (own_upd (own_upd (own_upd (fun _ => 0) 0 p1) 1 p3) 1 p5) p1 T197.heap n0 Zs F_b175_firsts F_b175_top V_b177 (by decide) (by decide) (by decide) rfl) hZ (own_w hw 64 rfl) (own_w hw 2 rfl) (by decide) (by decide)) q199a q199c (g := (mkF m 328 #[.val (.int p1), .val (.int p2), .val (.int p3), .val (.int p4), .val (.int p5), .val (.int p6), .val (.int vk), .val (.int (0 : Int32)), .val (.ref b175), .val (.int (1 : Int32))] [(.ref b175)])) rfl (by rw [hml]; rfl) (Steps.refl _) (argsL := []) (rest := []) (lenOf pd_2 rfl) rfl (by show 2 * 0 + _ ≤ _; exact Nat.le_of_eq rfl) (Jvm.hb hby at_328) (fun _ _ => ⟨rfl, e198, (by decide : 6 + 0 ≤ _), (by decide : 73 + 0 ≤ _)⟩)
  dsimp only [Pt.U, Pt.locs, Pt.cells, Pt.slots] at X199 l199 y199 z199 st199 hQ199
  have y199 : ka199 = 6 := y199
  have z199 : na199 = 73 := z199
  subst y199 z199
  obtain ⟨rfl, N199q, e199⟩ := hQ199
  have N199 : Fr n0 La199 := by rw [l199]; exact Fr.app N198 N199q
  refine own_go (B := T199.setTop (mkF m 331 #[.val (.int p1), .val (.int p2), .val (.int p3), .val (.int p4), .val (.int p5), .val (.int p6), .val (.int vk), .val (.int (0 : Int32)), .val (.ref b175), .val (.int (1 : Int32))] [(.int p1)])) (fun t k => own_st st199 k) ?_
  refine own_go (B := T199.setTop (mkF m 332 #[.val (.int p1), .val (.int p2), .val (.int p3), .val (.int p4), .val (.int p5), .val (.int p6), .val (.int vk), .val (.int (0 : Int32)), .val (.ref b175), .val (.int (1 : Int32))] [(.int p1), (.int p1)])) (fun t k => XS.iloadN X199.here hx rfl (Jvm.hb hby at_331) rfl k) ?_
  refine own_go (B := T199.setTop (mkF m 335 #[.val (.int p1), .val (.int p2), .val (.int p3), .val (.int p4), .val (.int p5), .val (.int p6), .val (.int vk), .val (.int (0 : Int32)), .val (.ref b175), .val (.int (1 : Int32))] [])) (fun t k => XS.icmpNo X199.here hx rfl (Jvm.hb hby at_332) rfl (teq (rfl : p1 = p1)).2 k) ?_
  refine own_go (B := T199.setTop (mkF m 337 #[.val (.int p1), .val (.int p2), .val (.int p3), .val (.int p4), .val (.int p5), .val (.int p6), .val (.int vk), .val (.int (0 : Int32)), .val (.ref b175), .val (.int (1 : Int32))] [(.ref b175)])) (fun t k => XS.aload X199.here hx rfl (Jvm.hb hby at_335) rfl rfl k) ?_
  obtain ⟨cq200, kq200, q200a, q200b, q200c⟩ := isOf hZ e199 E_b175
  obtain ⟨_, _, ⟨T200, La200, ka200, na200⟩, -, X200, ⟨Lc200, hQ200, l200, y200, z200⟩, st200⟩ := X199.virtualBack hx (y := (⟨"com/example/term_unifier/termunifier/IntPairStack", "second", "()I"⟩ : MethodName)) (z := (⟨"com/example/term_unifier/termunifier/IntPairStack", "second", "()I"⟩ : MethodName)) hown (mvT hZ (own_w hw 65 rfl)) (mvT hZ (own_w hw 66 rfl)) (notFace_of_selects (args := #[]) (mvT hZ (own_w hw 68 rfl))) (mvT hZ (own_w hw 68 rfl)) (mvT hZ (own_w hw 67 rfl)) (by decide) (backOf (W := 0) (rm10 l Z a0 hw [] b175 b178 (0 : Int32) 0 (own_upd (own_upd (own_upd (fun _ => 0) 0 p2) 1 p4) 1 (p5 ^^^ (-1 : Int32))) p2 T197.heap n0 Zs F_b175_seconds F_b175_top V_b178 (by decide) (by decide) (by decide) rfl) hZ (own_w hw 69 rfl) (own_w hw 2 rfl) (by decide) (by decide)) q200a q200c (g := (mkF m 337 #[.val (.int p1), .val (.int p2), .val (.int p3), .val (.int p4), .val (.int p5), .val (.int p6), .val (.int vk), .val (.int (0 : Int32)), .val (.ref b175), .val (.int (1 : Int32))] [(.ref b175)])) rfl (by rw [hml]; rfl) (Steps.refl _) (argsL := []) (rest := []) (lenOf pd_2 rfl) rfl (by show 2 * 0 + _ ≤ _; exact Nat.le_of_eq rfl) (Jvm.hb hby at_337) (fun _ _ => ⟨rfl, e199, (by decide : 6 + 0 ≤ _), (by decide : 73 + 0 ≤ _)⟩)
  dsimp only [Pt.U, Pt.locs, Pt.cells, Pt.slots] at X200 l200 y200 z200 st200 hQ200
  have y200 : ka200 = 6 := y200
  have z200 : na200 = 73 := z200
  subst y200 z200
  obtain ⟨rfl, N200q, e200⟩ := hQ200
  have N200 : Fr n0 La200 := by rw [l200]; exact Fr.app N199 N200q
  refine own_go (B := T200.setTop (mkF m 340 #[.val (.int p1), .val (.int p2), .val (.int p3), .val (.int p4), .val (.int p5), .val (.int p6), .val (.int vk), .val (.int (0 : Int32)), .val (.ref b175), .val (.int (1 : Int32))] [(.int p2)])) (fun t k => own_st st200 k) ?_
  refine own_go (B := T200.setTop (mkF m 341 #[.val (.int p1), .val (.int p2), .val (.int p3), .val (.int p4), .val (.int p5), .val (.int p6), .val (.int vk), .val (.int (0 : Int32)), .val (.ref b175), .val (.int (1 : Int32))] [(.int p2), (.int p2)])) (fun t k => XS.iloadN X200.here hx rfl (Jvm.hb hby at_340) rfl k) ?_
  refine own_go (B := T200.setTop (mkF m 344 #[.val (.int p1), .val (.int p2), .val (.int p3), .val (.int p4), .val (.int p5), .val (.int p6), .val (.int vk), .val (.int (0 : Int32)), .val (.ref b175), .val (.int (1 : Int32))] [])) (fun t k => XS.icmpNo X200.here hx rfl (Jvm.hb hby at_341) rfl (teq (rfl : p2 = p2)).2 k) ?_
  refine own_go (B := T200.setTop (mkF m 345 #[.val (.int p1), .val (.int p2), .val (.int p3), .val (.int p4), .val (.int p5), .val (.int p6), .val (.int vk), .val (.int (0 : Int32)), .val (.ref b175), .val (.int (1 : Int32))] [(.int (1 : Int32))])) (fun t k => XS.iconst X200.here hx rfl (Jvm.hb hby at_344) k) ?_
  refine own_go (B := T200.setTop (mkF m 349 #[.val (.int p1), .val (.int p2), .val (.int p3), .val (.int p4), .val (.int p5), .val (.int p6), .val (.int vk), .val (.int (0 : Int32)), .val (.ref b175), .val (.int (1 : Int32))] [(.int (1 : Int32))])) (fun t k => XS.goto X200.here hx rfl (pc0 := 345) (pc' := 349) rfl (Jvm.hb hby at_345) (by decide) (by decide) k) ?_
  refine own_go (B := T200.setTop (mkF m 351 #[.val (.int p1), .val (.int p2), .val (.int p3), .val (.int p4), .val (.int p5), .val (.int p6), .val (.int vk), .val (.int (0 : Int32)), .val (.ref b175), .val (.int (1 : Int32))] [])) (fun t k => XS.istore X200.here hx rfl (Jvm.hb hby at_349) rfl (l' := #[.val (.int p1), .val (.int p2), .val (.int p3), .val (.int p4), .val (.int p5), .val (.int p6), .val (.int vk), .val (.int (0 : Int32)), .val (.ref b175), .val (.int (1 : Int32))]) rfl k) ?_
  refine own_go (B := T200.setTop (mkF m 435 #[.val (.int p1), .val (.int p2), .val (.int p3), .val (.int p4), .val (.int p5), .val (.int p6), .val (.int vk), .val (.int (0 : Int32)), .val (.ref b175), .val (.int (1 : Int32))] [])) (fun t k => XS.goto X200.here hx rfl (pc0 := 351) (pc' := 435) rfl (Jvm.hb hby at_351) (by decide) (by decide) k) ?_
  refine own_go (B := T200.setTop (mkF m 437 #[.val (.int p1), .val (.int p2), .val (.int p3), .val (.int p4), .val (.int p5), .val (.int p6), .val (.int vk), .val (.int (0 : Int32)), .val (.ref b175), .val (.int (1 : Int32))] [(.int (1 : Int32))])) (fun t k => XS.iload X200.here hx rfl (Jvm.hb hby at_435) rfl k) ?_
  refine own_out X200 (v := (some (.int (1 : Int32)))) (fun h => by rw [Bd.returns] at h; cases h) Bd.notSynchronized (fun fs hr => retOut X200 hx (t := .boolean) Bd.returns rfl (by first | exact Or.inl ⟨rfl, by simp, _, rfl⟩) (Jvm.hb hby at_437) hr) ?_ (by decide) (by decide)
  show own_Q0 Z p1 p2 p3 p4 p5 p6 h0 n0 (some (.int (1 : Int32))) T200.heap _
  rw [e200]
  exact ⟨rfl, N200⟩
theorem ef_0_20 (m : MethodId) (x0 : Int32) (x1 : Int32) (x2 : Int32) (x3 : Int32) (x4 : Int32) (x5 : Int32) : entryFrame m #[(.int x0), (.int x1), (.int x2), (.int x3), (.int x4), (.int x5)] maxLocals = mkF m 0 #[.val (.int x0), .val (.int x1), .val (.int x2), .val (.int x3), .val (.int x4), .val (.int x5), .unset, .unset, .unset, .unset] [] := by first | (simp [entryFrame, mkF, argsToLocals, Value.category, maxLocals]; done) | rfl
set_option maxRecDepth 65536 in
set_option maxHeartbeats 40000000 in
theorem rm0_20 (l : Launch) (Z : State) (a0 : Array Value) (hw : ∀ d ∈ tables_1, d.before a0 Z = true) (ws : List Jvm.Cond) (p1 : Int32) (p2 : Int32) (p3 : Int32) (p4 : Int32) (p5 : Int32) (p6 : Int32) (h0 : Heap) (n0 : Nat) (Z0 : n0 ≤ h0.size) (hk : (p6 &&& (3 : Int32)) = (2 : Int32)) (ht : ¬ ((p6 &&& (4 : Int32)) = (0 : Int32))) :
    MetFree l x (head1 (Jvm.Cond.code x code maxLocals ret :: ws) room_1) (fun a U => a = #[(.int p1), (.int p2), (.int p3), (.int p4), (.int p5), (.int p6)] ∧ Z.Warmed39 U.vm ∧ U.heap = h0) (fun _ _ _ _ _ => True) (fun _ U o U' => ∃ v L, o = .returned v ∧ own_Q0 Z p1 p2 p3 p4 p5 p6 h0 n0 v U'.heap L ∧ FrameEnd U o U' L room_1.cells room_1.slots) := by
  refine MetFree.of_bodySF (plainFor_of_name pn_com_example_term_unifier_termunifier_IntPairStackPopPinLaw) hisR ?_
  intro p e s m args below meth c s₁ Bd hml0 hP hK
  obtain ⟨rfl, hZ, hh⟩ := hP
  have hx := Bd.exec
  have hby := Bd.bytes
  have hml : c.maxLocals = 10 := hml0
  have hown : s.vm.findClass "com/example/term_unifier/termunifier/IntPairStackPopPinLaw" = some m.cls := findClass_of_methodNamed Bd.named
  have hnm := (name_of_methodNamed Bd.named Bd.method).1
  have X0 : Stand p l e room_1 s m #[(.int p1), (.int p2), (.int p3), (.int p4), (.int p5), (.int p6)] below meth c s₁ [] 0 0 := Stand.of_body Bd
  have e0 : s₁.heap = h0 := by rw [← hh, Bd.state]; rfl
  have N0 := Fr.nil n0
  have Zs := Z0
  show own_Goes p e below s (own_Q0 Z p1 p2 p3 p4 p5 p6 h0 n0) room_1.cells room_1.slots _
  refine own_go (B := s₁.setTop (mkF m 0 #[.val (.int p1), .val (.int p2), .val (.int p3), .val (.int p4), .val (.int p5), .val (.int p6), .unset, .unset, .unset, .unset] [])) (fun t k => castTop (ef_0_20 m p1 p2 p3 p4 p5 p6) k) ?_
  refine own_go (B := s₁.setTop (mkF m 2 #[.val (.int p1), .val (.int p2), .val (.int p3), .val (.int p4), .val (.int p5), .val (.int p6), .unset, .unset, .unset, .unset] [(.int p6)])) (fun t k => XS.iload X0.here hx rfl (Jvm.hb hby at_0) rfl k) ?_
  refine own_go (B := s₁.setTop (mkF m 3 #[.val (.int p1), .val (.int p2), .val (.int p3), .val (.int p4), .val (.int p5), .val (.int p6), .unset, .unset, .unset, .unset] [(.int (3 : Int32)), (.int p6)])) (fun t k => XS.iconst X0.here hx rfl (Jvm.hb hby at_2) k) ?_
  refine own_go (B := s₁.setTop (mkF m 4 #[.val (.int p1), .val (.int p2), .val (.int p3), .val (.int p4), .val (.int p5), .val (.int p6), .unset, .unset, .unset, .unset] [(.int (p6 &&& (3 : Int32)))])) (fun t k => XS.iand X0.here hx rfl (Jvm.hb hby at_3) rfl k) ?_
  obtain ⟨vk, hvk⟩ : ∃ z : Int32, z = (p6 &&& (3 : Int32)) := ⟨_, rfl⟩
  rw [← hvk]
  refine own_go (B := s₁.setTop (mkF m 6 #[.val (.int p1), .val (.int p2), .val (.int p3), .val (.int p4), .val (.int p5), .val (.int p6), .val (.int vk), .unset, .unset, .unset] [])) (fun t k => XS.istore X0.here hx rfl (Jvm.hb hby at_4) rfl (l' := #[.val (.int p1), .val (.int p2), .val (.int p3), .val (.int p4), .val (.int p5), .val (.int p6), .val (.int vk), .unset, .unset, .unset]) rfl k) ?_
  refine own_go (B := s₁.setTop (mkF m 8 #[.val (.int p1), .val (.int p2), .val (.int p3), .val (.int p4), .val (.int p5), .val (.int p6), .val (.int vk), .unset, .unset, .unset] [(.int p6)])) (fun t k => XS.iload X0.here hx rfl (Jvm.hb hby at_6) rfl k) ?_
  refine own_go (B := s₁.setTop (mkF m 9 #[.val (.int p1), .val (.int p2), .val (.int p3), .val (.int p4), .val (.int p5), .val (.int p6), .val (.int vk), .unset, .unset, .unset] [(.int (4 : Int32)), (.int p6)])) (fun t k => XS.iconst X0.here hx rfl (Jvm.hb hby at_8) k) ?_
  refine own_go (B := s₁.setTop (mkF m 10 #[.val (.int p1), .val (.int p2), .val (.int p3), .val (.int p4), .val (.int p5), .val (.int p6), .val (.int vk), .unset, .unset, .unset] [(.int (p6 &&& (4 : Int32)))])) (fun t k => XS.iand X0.here hx rfl (Jvm.hb hby at_9) rfl k) ?_
  refine own_go (B := s₁.setTop (mkF m 13 #[.val (.int p1), .val (.int p2), .val (.int p3), .val (.int p4), .val (.int p5), .val (.int p6), .val (.int vk), .unset, .unset, .unset] [])) (fun t k => XS.ifNo X0.here hx rfl (Jvm.hb hby at_10) rfl ((if0 _ _).trans (feq ht).1) k) ?_
  refine own_go (B := s₁.setTop (mkF m 14 #[.val (.int p1), .val (.int p2), .val (.int p3), .val (.int p4), .val (.int p5), .val (.int p6), .val (.int vk), .unset, .unset, .unset] [(.int (1 : Int32))])) (fun t k => XS.iconst X0.here hx rfl (Jvm.hb hby at_13) k) ?_
  refine own_go (B := s₁.setTop (mkF m 18 #[.val (.int p1), .val (.int p2), .val (.int p3), .val (.int p4), .val (.int p5), .val (.int p6), .val (.int vk), .unset, .unset, .unset] [(.int (1 : Int32))])) (fun t k => XS.goto X0.here hx rfl (pc0 := 14) (pc' := 18) rfl (Jvm.hb hby at_14) (by decide) (by decide) k) ?_
  refine own_go (B := s₁.setTop (mkF m 20 #[.val (.int p1), .val (.int p2), .val (.int p3), .val (.int p4), .val (.int p5), .val (.int p6), .val (.int vk), .val (.int (1 : Int32)), .unset, .unset] [])) (fun t k => XS.istore X0.here hx rfl (Jvm.hb hby at_18) rfl (l' := #[.val (.int p1), .val (.int p2), .val (.int p3), .val (.int p4), .val (.int p5), .val (.int p6), .val (.int vk), .val (.int (1 : Int32)), .unset, .unset]) rfl k) ?_
  obtain ⟨T201, h201, X201, e201, E201, A201, D201, -, st201⟩ := newO X0 hx hZ hown (own_w hw 0 rfl) (own_w hw 1 rfl) (own_w hw 2 rfl) e0 (g := (mkF m 20 #[.val (.int p1), .val (.int p2), .val (.int p3), .val (.int p4), .val (.int p5), .val (.int p6), .val (.int vk), .val (.int (1 : Int32)), .unset, .unset] [])) rfl (Jvm.hb hby at_20) (by decide) (by decide)
  obtain ⟨b201, g201⟩ : ∃ z, z = h0.size := ⟨_, rfl⟩
  rw [← g201] at A201 D201 st201
  have g_b201 : n0 ≤ b201 := Nat.le_trans Zs (Nat.le_of_eq g201.symm)
  have Zs := Nat.le_trans Zs E201.1
  have E_b201 := A201
  have F_b201_firsts : Fld Z h201 b201 "com/example/term_unifier/termunifier/IntPairStack" "firsts" "[I" .null := D201 (Or.inl (own_w hw 11 rfl)) (ty := (.array .int)) (by decide)
  have F_b201_seconds : Fld Z h201 b201 "com/example/term_unifier/termunifier/IntPairStack" "seconds" "[I" .null := D201 (Or.inl (own_w hw 13 rfl)) (ty := (.array .int)) (by decide)
  have F_b201_below : Fld Z h201 b201 "com/example/term_unifier/termunifier/IntPairStack" "below" "[I" .null := D201 (Or.inl (own_w hw 15 rfl)) (ty := (.array .int)) (by decide)
  have F_b201_top : Fld Z h201 b201 "com/example/term_unifier/termunifier/IntPairStack" "top" "I" (.int (0 : Int32)) := D201 (Or.inl (own_w hw 17 rfl)) (ty := .int) (by decide)
  have F_b201_marks : Fld Z h201 b201 "com/example/term_unifier/termunifier/IntPairStack" "marks" "Lcom/example/term_unifier/termunifier/IntStack;" .null := D201 (Or.inr (own_w hw 28 rfl)) (ty := (.object "com/example/term_unifier/termunifier/IntStack")) (by decide)
  have F_b201_used : Fld Z h201 b201 "com/example/term_unifier/termunifier/IntPairStack" "used" "I" (.int (0 : Int32)) := D201 (Or.inl (own_w hw 35 rfl)) (ty := .int) (by decide)
  have F_b201_kept : Fld Z h201 b201 "com/example/term_unifier/termunifier/IntPairStack" "kept" "I" (.int (0 : Int32)) := D201 (Or.inl (own_w hw 49 rfl)) (ty := .int) (by decide)
  refine own_go (B := T201.setTop (mkF m 23 #[.val (.int p1), .val (.int p2), .val (.int p3), .val (.int p4), .val (.int p5), .val (.int p6), .val (.int vk), .val (.int (1 : Int32)), .unset, .unset] [(.ref b201)])) (fun t k => st201 _ k) ?_
  refine own_go (B := T201.setTop (mkF m 24 #[.val (.int p1), .val (.int p2), .val (.int p3), .val (.int p4), .val (.int p5), .val (.int p6), .val (.int vk), .val (.int (1 : Int32)), .unset, .unset] [(.ref b201), (.ref b201)])) (fun t k => XS.dup X201.here hx rfl (Jvm.hb hby at_23) rfl rfl k) ?_
  obtain ⟨_, _, ⟨T202, La202, ka202, na202⟩, -, X202, ⟨Lc202, hQ202, l202, y202, z202⟩, st202⟩ := X201.specialBack hx (y := (⟨"com/example/term_unifier/termunifier/IntPairStack", "<init>", "()V"⟩ : MethodName)) rfl hown (mvT hZ (own_w hw 3 rfl)) (mvT hZ (own_w hw 4 rfl)) (mvT hZ (own_w hw 5 rfl)) (by decide) (backOf (W := 1) (rm1 l Z a0 hw [] b201 h201 n0 Zs E_b201 F_b201_firsts F_b201_seconds F_b201_below F_b201_top F_b201_used F_b201_kept F_b201_marks g_b201) hZ (own_w hw 5 rfl) (own_w hw 2 rfl) (by decide) (by decide)) (g := (mkF m 24 #[.val (.int p1), .val (.int p2), .val (.int p3), .val (.int p4), .val (.int p5), .val (.int p6), .val (.int vk), .val (.int (1 : Int32)), .unset, .unset] [(.ref b201), (.ref b201)])) rfl (by rw [hml]; rfl) (Steps.refl _) (a := b201) (argsL := []) (rest := [(.ref b201)]) (lenOf pd_0 rfl) rfl (by show 2 * 0 + _ ≤ _; exact Nat.le_of_eq rfl) (Jvm.hb hby at_24) (fun _ _ => ⟨rfl, e201, (by decide : 1 + 5 ≤ _), (by decide : 7 + 66 ≤ _)⟩)
  dsimp only [Pt.U, Pt.locs, Pt.cells, Pt.slots] at X202 l202 y202 z202 st202 hQ202
  have y202 : ka202 = 6 := y202
  have z202 : na202 = 73 := z202
  subst y202 z202
  obtain ⟨rfl, N202q, b203, sq_b203, b204, sq_b204, b205, sq_b205, b206, sq_b206, b207, sq_b207, ne_b203_b204, ne_b203_b205, ne_b203_b206, ne_b203_b207, ne_b204_b205, ne_b204_b206, ne_b204_b207, ne_b205_b206, ne_b205_b207, ne_b206_b207, Kc202, E_b201_q, F_b201_firsts_q, F_b201_seconds_q, F_b201_below_q, F_b201_top_q, F_b201_used_q, F_b201_kept_q, F_b201_marks_q, V_b203_q, V_b204_q, V_b205_q, E_b206_q, F_b206_items_q, F_b206_size_q, V_b207_q⟩ := hQ202
  have g_b203 : n0 ≤ b203 := Nat.le_trans Zs sq_b203
  have ne_b201_b203 : b201 ≠ b203 := Nat.ne_of_lt (Nat.lt_of_lt_of_le E_b201.lt sq_b203)
  have g_b204 : n0 ≤ b204 := Nat.le_trans Zs sq_b204
  have ne_b201_b204 : b201 ≠ b204 := Nat.ne_of_lt (Nat.lt_of_lt_of_le E_b201.lt sq_b204)
  have g_b205 : n0 ≤ b205 := Nat.le_trans Zs sq_b205
  have ne_b201_b205 : b201 ≠ b205 := Nat.ne_of_lt (Nat.lt_of_lt_of_le E_b201.lt sq_b205)
  have g_b206 : n0 ≤ b206 := Nat.le_trans Zs sq_b206
  have ne_b201_b206 : b201 ≠ b206 := Nat.ne_of_lt (Nat.lt_of_lt_of_le E_b201.lt sq_b206)
  have g_b207 : n0 ≤ b207 := Nat.le_trans Zs sq_b207
  have ne_b201_b207 : b201 ≠ b207 := Nat.ne_of_lt (Nat.lt_of_lt_of_le E_b201.lt sq_b207)
  have N202 : Fr n0 La202 := by rw [l202]; exact Fr.app N0 N202q
  have Zs := Nat.le_trans Zs Kc202.1
  have E_b201 := E_b201_q
  have F_b201_firsts := F_b201_firsts_q
  have F_b201_seconds := F_b201_seconds_q
  have F_b201_below := F_b201_below_q
  have F_b201_top := F_b201_top_q
  have F_b201_used := F_b201_used_q
  have F_b201_kept := F_b201_kept_q
  have F_b201_marks := F_b201_marks_q
  have V_b203 := V_b203_q
  have V_b204 := V_b204_q
  have V_b205 := V_b205_q
  have E_b206 := E_b206_q
  have F_b206_items := F_b206_items_q
  have F_b206_size := F_b206_size_q
  have V_b207 := V_b207_q
  refine own_go (B := T202.setTop (mkF m 27 #[.val (.int p1), .val (.int p2), .val (.int p3), .val (.int p4), .val (.int p5), .val (.int p6), .val (.int vk), .val (.int (1 : Int32)), .unset, .unset] [(.ref b201)])) (fun t k => own_st st202 k) ?_
  refine own_go (B := T202.setTop (mkF m 29 #[.val (.int p1), .val (.int p2), .val (.int p3), .val (.int p4), .val (.int p5), .val (.int p6), .val (.int vk), .val (.int (1 : Int32)), .val (.ref b201), .unset] [])) (fun t k => XS.astore X202.here hx rfl (Jvm.hb hby at_27) rfl rfl (l' := #[.val (.int p1), .val (.int p2), .val (.int p3), .val (.int p4), .val (.int p5), .val (.int p6), .val (.int vk), .val (.int (1 : Int32)), .val (.ref b201), .unset]) rfl k) ?_
  refine own_go (B := T202.setTop (mkF m 31 #[.val (.int p1), .val (.int p2), .val (.int p3), .val (.int p4), .val (.int p5), .val (.int p6), .val (.int vk), .val (.int (1 : Int32)), .val (.ref b201), .unset] [(.int vk)])) (fun t k => XS.iload X202.here hx rfl (Jvm.hb hby at_29) rfl k) ?_
  refine own_go (B := T202.setTop (mkF m 32 #[.val (.int p1), .val (.int p2), .val (.int p3), .val (.int p4), .val (.int p5), .val (.int p6), .val (.int vk), .val (.int (1 : Int32)), .val (.ref b201), .unset] [(.int (1 : Int32)), (.int vk)])) (fun t k => XS.iconst X202.here hx rfl (Jvm.hb hby at_31) k) ?_
  refine own_go (B := T202.setTop (mkF m 40 #[.val (.int p1), .val (.int p2), .val (.int p3), .val (.int p4), .val (.int p5), .val (.int p6), .val (.int vk), .val (.int (1 : Int32)), .val (.ref b201), .unset] [])) (fun t k => XS.icmpYes X202.here hx rfl (pc0 := 32) (pc' := 40) rfl (Jvm.hb hby at_32) rfl (feq (by rw [hvk, hk]; decide)).2 (by decide) (by decide) k) ?_
  refine own_go (B := T202.setTop (mkF m 42 #[.val (.int p1), .val (.int p2), .val (.int p3), .val (.int p4), .val (.int p5), .val (.int p6), .val (.int vk), .val (.int (1 : Int32)), .val (.ref b201), .unset] [(.ref b201)])) (fun t k => XS.aload X202.here hx rfl (Jvm.hb hby at_40) rfl rfl k) ?_
  refine own_go (B := T202.setTop (mkF m 43 #[.val (.int p1), .val (.int p2), .val (.int p3), .val (.int p4), .val (.int p5), .val (.int p6), .val (.int vk), .val (.int (1 : Int32)), .val (.ref b201), .unset] [(.int p1), (.ref b201)])) (fun t k => XS.iloadN X202.here hx rfl (Jvm.hb hby at_42) rfl k) ?_
  refine own_go (B := T202.setTop (mkF m 44 #[.val (.int p1), .val (.int p2), .val (.int p3), .val (.int p4), .val (.int p5), .val (.int p6), .val (.int vk), .val (.int (1 : Int32)), .val (.ref b201), .unset] [(.int p2), (.int p1), (.ref b201)])) (fun t k => XS.iloadN X202.here hx rfl (Jvm.hb hby at_43) rfl k) ?_
  obtain ⟨cq208, kq208, q208a, q208b, q208c⟩ := isOf hZ rfl E_b201
  obtain ⟨_, _, ⟨T208, La208, ka208, na208⟩, -, X208, ⟨Lc208, hQ208, l208, y208, z208⟩, st208⟩ := X202.virtualBack hx (y := (⟨"com/example/term_unifier/termunifier/IntPairStack", "push", "(II)V"⟩ : MethodName)) (z := (⟨"com/example/term_unifier/termunifier/IntPairStack", "push", "(II)V"⟩ : MethodName)) hown (mvT hZ (own_w hw 29 rfl)) (mvT hZ (own_w hw 30 rfl)) (notFace_of_selects (args := #[]) (mvT hZ (own_w hw 32 rfl))) (mvT hZ (own_w hw 32 rfl)) (mvT hZ (own_w hw 31 rfl)) (by decide) (backOf (W := 0) (rm4 l Z a0 hw [] b201 p1 p2 b203 b204 b205 b206 (-1 : Int32) (0 : Int32) (0 : Int32) (1 : Int32) 0 (fun _ => 0) (fun _ => 0) (fun _ => 0) T202.heap n0 Zs E_b201 F_b201_firsts F_b201_seconds F_b201_below F_b201_top F_b201_used F_b201_kept F_b201_marks V_b203 V_b204 V_b205 g_b201 g_b203 g_b204 g_b205 ne_b201_b203 ne_b201_b204 ne_b201_b205 ne_b203_b204 ne_b203_b205 ne_b204_b205 (by decide) (by decide) (by decide) (by decide) (by decide)) hZ (own_w hw 33 rfl) (own_w hw 2 rfl) (by decide) (by decide)) q208a q208c (g := (mkF m 44 #[.val (.int p1), .val (.int p2), .val (.int p3), .val (.int p4), .val (.int p5), .val (.int p6), .val (.int vk), .val (.int (1 : Int32)), .val (.ref b201), .unset] [(.int p2), (.int p1), (.ref b201)])) rfl (by rw [hml]; rfl) (Steps.refl _) (argsL := [(.int p1), (.int p2)]) (rest := []) (lenOf pd_3 rfl) rfl (by show 2 * 0 + _ ≤ _; exact Nat.le_of_eq rfl) (Jvm.hb hby at_44) (fun _ _ => ⟨rfl, rfl, (by decide : 6 + 0 ≤ _), (by decide : 73 + 0 ≤ _)⟩)
  dsimp only [Pt.U, Pt.locs, Pt.cells, Pt.slots] at X208 l208 y208 z208 st208 hQ208
  have y208 : ka208 = 6 := y208
  have z208 : na208 = 73 := z208
  subst y208 z208
  obtain ⟨rfl, N208q, Kc208, E_b201_q, F_b201_firsts_q, F_b201_seconds_q, F_b201_below_q, F_b201_top_q, F_b201_used_q, F_b201_kept_q, F_b201_marks_q, V_b203_q, V_b204_q, V_b205_q⟩ := hQ208
  have N208 : Fr n0 La208 := by rw [l208]; exact Fr.app N202 N208q
  have E_b206 := E_b206.keep Kc208
  have F_b206_items := F_b206_items.keep Kc208 (ninS (Ne.symm ne_b201_b206) (ninS (Ne.symm ne_b203_b206) (ninS (Ne.symm ne_b204_b206) (ninS (Ne.symm ne_b205_b206) nin0))))
  have F_b206_size := F_b206_size.keep Kc208 (ninS (Ne.symm ne_b201_b206) (ninS (Ne.symm ne_b203_b206) (ninS (Ne.symm ne_b204_b206) (ninS (Ne.symm ne_b205_b206) nin0))))
  have V_b207 := V_b207.keep Kc208 (ninS (Ne.symm ne_b201_b207) (ninS (Ne.symm ne_b203_b207) (ninS (Ne.symm ne_b204_b207) (ninS (Ne.symm ne_b205_b207) nin0))))
  have Zs := Nat.le_trans Zs Kc208.1
  have E_b201 := E_b201_q
  have F_b201_firsts := F_b201_firsts_q
  have F_b201_seconds := F_b201_seconds_q
  have F_b201_below := F_b201_below_q
  have F_b201_top := F_b201_top_q
  have F_b201_used := F_b201_used_q
  have F_b201_kept := F_b201_kept_q
  have F_b201_marks := F_b201_marks_q
  have V_b203 := V_b203_q
  have V_b204 := V_b204_q
  have V_b205 := V_b205_q
  refine own_go (B := T208.setTop (mkF m 47 #[.val (.int p1), .val (.int p2), .val (.int p3), .val (.int p4), .val (.int p5), .val (.int p6), .val (.int vk), .val (.int (1 : Int32)), .val (.ref b201), .unset] [])) (fun t k => own_st st208 k) ?_
  refine own_go (B := T208.setTop (mkF m 49 #[.val (.int p1), .val (.int p2), .val (.int p3), .val (.int p4), .val (.int p5), .val (.int p6), .val (.int vk), .val (.int (1 : Int32)), .val (.ref b201), .unset] [(.int vk)])) (fun t k => XS.iload X208.here hx rfl (Jvm.hb hby at_47) rfl k) ?_
  refine own_go (B := T208.setTop (mkF m 50 #[.val (.int p1), .val (.int p2), .val (.int p3), .val (.int p4), .val (.int p5), .val (.int p6), .val (.int vk), .val (.int (1 : Int32)), .val (.ref b201), .unset] [(.int (2 : Int32)), (.int vk)])) (fun t k => XS.iconst X208.here hx rfl (Jvm.hb hby at_49) k) ?_
  refine own_go (B := T208.setTop (mkF m 53 #[.val (.int p1), .val (.int p2), .val (.int p3), .val (.int p4), .val (.int p5), .val (.int p6), .val (.int vk), .val (.int (1 : Int32)), .val (.ref b201), .unset] [])) (fun t k => XS.icmpNo X208.here hx rfl (Jvm.hb hby at_50) rfl (teq (hvk.trans hk)).2 k) ?_
  refine own_go (B := T208.setTop (mkF m 55 #[.val (.int p1), .val (.int p2), .val (.int p3), .val (.int p4), .val (.int p5), .val (.int p6), .val (.int vk), .val (.int (1 : Int32)), .val (.ref b201), .unset] [(.ref b201)])) (fun t k => XS.aload X208.here hx rfl (Jvm.hb hby at_53) rfl rfl k) ?_
  obtain ⟨cq209, kq209, q209a, q209b, q209c⟩ := isOf hZ rfl E_b201
  obtain ⟨_, _, ⟨T209, La209, ka209, na209⟩, -, X209, ⟨Lc209, hQ209, l209, y209, z209⟩, st209⟩ := X208.virtualBack hx (y := (⟨"com/example/term_unifier/termunifier/IntPairStack", "mark", "()V"⟩ : MethodName)) (z := (⟨"com/example/term_unifier/termunifier/IntPairStack", "mark", "()V"⟩ : MethodName)) hown (mvT hZ (own_w hw 36 rfl)) (mvT hZ (own_w hw 37 rfl)) (notFace_of_selects (args := #[]) (mvT hZ (own_w hw 39 rfl))) (mvT hZ (own_w hw 39 rfl)) (mvT hZ (own_w hw 38 rfl)) (by decide) (backOf (W := 0) (rm5 l Z a0 hw [] b201 b203 b204 b205 b206 b207 (0 : Int32) (1 : Int32) (0 : Int32) (fun _ => 0) T208.heap n0 Zs E_b201 F_b201_firsts F_b201_seconds F_b201_below F_b201_top F_b201_used F_b201_kept F_b201_marks E_b206 F_b206_items F_b206_size V_b207 g_b201 g_b206 g_b207 ne_b201_b206 ne_b201_b207 ne_b206_b207) hZ (own_w hw 40 rfl) (own_w hw 2 rfl) (by decide) (by decide)) q209a q209c (g := (mkF m 55 #[.val (.int p1), .val (.int p2), .val (.int p3), .val (.int p4), .val (.int p5), .val (.int p6), .val (.int vk), .val (.int (1 : Int32)), .val (.ref b201), .unset] [(.ref b201)])) rfl (by rw [hml]; rfl) (Steps.refl _) (argsL := []) (rest := []) (lenOf pd_0 rfl) rfl (by show 2 * 0 + _ ≤ _; exact Nat.le_of_eq rfl) (Jvm.hb hby at_55) (fun _ _ => ⟨rfl, rfl, (by decide : 6 + 0 ≤ _), (by decide : 73 + 0 ≤ _)⟩)
  dsimp only [Pt.U, Pt.locs, Pt.cells, Pt.slots] at X209 l209 y209 z209 st209 hQ209
  have y209 : ka209 = 6 := y209
  have z209 : na209 = 73 := z209
  subst y209 z209
  obtain ⟨rfl, N209q, Kc209, E_b201_q, F_b201_firsts_q, F_b201_seconds_q, F_b201_below_q, F_b201_top_q, F_b201_used_q, F_b201_kept_q, F_b201_marks_q, E_b206_q, F_b206_items_q, F_b206_size_q, V_b207_q⟩ := hQ209
  have N209 : Fr n0 La209 := by rw [l209]; exact Fr.app N208 N209q
  have V_b203 := V_b203.keep Kc209 (ninS (Ne.symm ne_b201_b203) (ninS ne_b203_b206 (ninS ne_b203_b207 nin0)))
  have V_b204 := V_b204.keep Kc209 (ninS (Ne.symm ne_b201_b204) (ninS ne_b204_b206 (ninS ne_b204_b207 nin0)))
  have V_b205 := V_b205.keep Kc209 (ninS (Ne.symm ne_b201_b205) (ninS ne_b205_b206 (ninS ne_b205_b207 nin0)))
  have Zs := Nat.le_trans Zs Kc209.1
  have E_b201 := E_b201_q
  have F_b201_firsts := F_b201_firsts_q
  have F_b201_seconds := F_b201_seconds_q
  have F_b201_below := F_b201_below_q
  have F_b201_top := F_b201_top_q
  have F_b201_used := F_b201_used_q
  have F_b201_kept := F_b201_kept_q
  have F_b201_marks := F_b201_marks_q
  have E_b206 := E_b206_q
  have F_b206_items := F_b206_items_q
  have F_b206_size := F_b206_size_q
  have V_b207 := V_b207_q
  refine own_go (B := T209.setTop (mkF m 58 #[.val (.int p1), .val (.int p2), .val (.int p3), .val (.int p4), .val (.int p5), .val (.int p6), .val (.int vk), .val (.int (1 : Int32)), .val (.ref b201), .unset] [])) (fun t k => own_st st209 k) ?_
  refine own_go (B := T209.setTop (mkF m 60 #[.val (.int p1), .val (.int p2), .val (.int p3), .val (.int p4), .val (.int p5), .val (.int p6), .val (.int vk), .val (.int (1 : Int32)), .val (.ref b201), .unset] [(.ref b201)])) (fun t k => XS.aload X209.here hx rfl (Jvm.hb hby at_58) rfl rfl k) ?_
  refine own_go (B := T209.setTop (mkF m 61 #[.val (.int p1), .val (.int p2), .val (.int p3), .val (.int p4), .val (.int p5), .val (.int p6), .val (.int vk), .val (.int (1 : Int32)), .val (.ref b201), .unset] [(.int p3), (.ref b201)])) (fun t k => XS.iloadN X209.here hx rfl (Jvm.hb hby at_60) rfl k) ?_
  refine own_go (B := T209.setTop (mkF m 62 #[.val (.int p1), .val (.int p2), .val (.int p3), .val (.int p4), .val (.int p5), .val (.int p6), .val (.int vk), .val (.int (1 : Int32)), .val (.ref b201), .unset] [(.int p4), (.int p3), (.ref b201)])) (fun t k => XS.iloadN X209.here hx rfl (Jvm.hb hby at_61) rfl k) ?_
  obtain ⟨cq210, kq210, q210a, q210b, q210c⟩ := isOf hZ rfl E_b201
  obtain ⟨_, _, ⟨T210, La210, ka210, na210⟩, -, X210, ⟨Lc210, hQ210, l210, y210, z210⟩, st210⟩ := X209.virtualBack hx (y := (⟨"com/example/term_unifier/termunifier/IntPairStack", "push", "(II)V"⟩ : MethodName)) (z := (⟨"com/example/term_unifier/termunifier/IntPairStack", "push", "(II)V"⟩ : MethodName)) hown (mvT hZ (own_w hw 29 rfl)) (mvT hZ (own_w hw 30 rfl)) (notFace_of_selects (args := #[]) (mvT hZ (own_w hw 32 rfl))) (mvT hZ (own_w hw 32 rfl)) (mvT hZ (own_w hw 31 rfl)) (by decide) (backOf (W := 0) (rm4 l Z a0 hw [] b201 p3 p4 b203 b204 b205 b206 (0 : Int32) (1 : Int32) (1 : Int32) (2 : Int32) 1 (own_upd (fun _ => 0) 0 p1) (own_upd (fun _ => 0) 0 p2) (own_upd (fun _ => 0) 0 (-1 : Int32)) T209.heap n0 Zs E_b201 F_b201_firsts F_b201_seconds F_b201_below F_b201_top F_b201_used F_b201_kept F_b201_marks V_b203 V_b204 V_b205 g_b201 g_b203 g_b204 g_b205 ne_b201_b203 ne_b201_b204 ne_b201_b205 ne_b203_b204 ne_b203_b205 ne_b204_b205 (by decide) (by decide) (by decide) (by decide) (by decide)) hZ (own_w hw 33 rfl) (own_w hw 2 rfl) (by decide) (by decide)) q210a q210c (g := (mkF m 62 #[.val (.int p1), .val (.int p2), .val (.int p3), .val (.int p4), .val (.int p5), .val (.int p6), .val (.int vk), .val (.int (1 : Int32)), .val (.ref b201), .unset] [(.int p4), (.int p3), (.ref b201)])) rfl (by rw [hml]; rfl) (Steps.refl _) (argsL := [(.int p3), (.int p4)]) (rest := []) (lenOf pd_3 rfl) rfl (by show 2 * 0 + _ ≤ _; exact Nat.le_of_eq rfl) (Jvm.hb hby at_62) (fun _ _ => ⟨rfl, rfl, (by decide : 6 + 0 ≤ _), (by decide : 73 + 0 ≤ _)⟩)
  dsimp only [Pt.U, Pt.locs, Pt.cells, Pt.slots] at X210 l210 y210 z210 st210 hQ210
  have y210 : ka210 = 6 := y210
  have z210 : na210 = 73 := z210
  subst y210 z210
  obtain ⟨rfl, N210q, Kc210, E_b201_q, F_b201_firsts_q, F_b201_seconds_q, F_b201_below_q, F_b201_top_q, F_b201_used_q, F_b201_kept_q, F_b201_marks_q, V_b203_q, V_b204_q, V_b205_q⟩ := hQ210
  have N210 : Fr n0 La210 := by rw [l210]; exact Fr.app N209 N210q
  have E_b206 := E_b206.keep Kc210
  have F_b206_items := F_b206_items.keep Kc210 (ninS (Ne.symm ne_b201_b206) (ninS (Ne.symm ne_b203_b206) (ninS (Ne.symm ne_b204_b206) (ninS (Ne.symm ne_b205_b206) nin0))))
  have F_b206_size := F_b206_size.keep Kc210 (ninS (Ne.symm ne_b201_b206) (ninS (Ne.symm ne_b203_b206) (ninS (Ne.symm ne_b204_b206) (ninS (Ne.symm ne_b205_b206) nin0))))
  have V_b207 := V_b207.keep Kc210 (ninS (Ne.symm ne_b201_b207) (ninS (Ne.symm ne_b203_b207) (ninS (Ne.symm ne_b204_b207) (ninS (Ne.symm ne_b205_b207) nin0))))
  have Zs := Nat.le_trans Zs Kc210.1
  have E_b201 := E_b201_q
  have F_b201_firsts := F_b201_firsts_q
  have F_b201_seconds := F_b201_seconds_q
  have F_b201_below := F_b201_below_q
  have F_b201_top := F_b201_top_q
  have F_b201_used := F_b201_used_q
  have F_b201_kept := F_b201_kept_q
  have F_b201_marks := F_b201_marks_q
  have V_b203 := V_b203_q
  have V_b204 := V_b204_q
  have V_b205 := V_b205_q
  refine own_go (B := T210.setTop (mkF m 65 #[.val (.int p1), .val (.int p2), .val (.int p3), .val (.int p4), .val (.int p5), .val (.int p6), .val (.int vk), .val (.int (1 : Int32)), .val (.ref b201), .unset] [])) (fun t k => own_st st210 k) ?_
  refine own_go (B := T210.setTop (mkF m 67 #[.val (.int p1), .val (.int p2), .val (.int p3), .val (.int p4), .val (.int p5), .val (.int p6), .val (.int vk), .val (.int (1 : Int32)), .val (.ref b201), .unset] [(.int vk)])) (fun t k => XS.iload X210.here hx rfl (Jvm.hb hby at_65) rfl k) ?_
  refine own_go (B := T210.setTop (mkF m 68 #[.val (.int p1), .val (.int p2), .val (.int p3), .val (.int p4), .val (.int p5), .val (.int p6), .val (.int vk), .val (.int (1 : Int32)), .val (.ref b201), .unset] [(.int (3 : Int32)), (.int vk)])) (fun t k => XS.iconst X210.here hx rfl (Jvm.hb hby at_67) k) ?_
  refine own_go (B := T210.setTop (mkF m 76 #[.val (.int p1), .val (.int p2), .val (.int p3), .val (.int p4), .val (.int p5), .val (.int p6), .val (.int vk), .val (.int (1 : Int32)), .val (.ref b201), .unset] [])) (fun t k => XS.icmpYes X210.here hx rfl (pc0 := 68) (pc' := 76) rfl (Jvm.hb hby at_68) rfl (feq (by rw [hvk, hk]; decide)).2 (by decide) (by decide) k) ?_
  refine own_go (B := T210.setTop (mkF m 78 #[.val (.int p1), .val (.int p2), .val (.int p3), .val (.int p4), .val (.int p5), .val (.int p6), .val (.int vk), .val (.int (1 : Int32)), .val (.ref b201), .unset] [(.ref b201)])) (fun t k => XS.aload X210.here hx rfl (Jvm.hb hby at_76) rfl rfl k) ?_
  obtain ⟨cq211, kq211, q211a, q211b, q211c⟩ := isOf hZ rfl E_b201
  obtain ⟨_, _, ⟨T211, La211, ka211, na211⟩, -, X211, ⟨Lc211, hQ211, l211, y211, z211⟩, st211⟩ := X210.virtualBack hx (y := (⟨"com/example/term_unifier/termunifier/IntPairStack", "pop", "()V"⟩ : MethodName)) (z := (⟨"com/example/term_unifier/termunifier/IntPairStack", "pop", "()V"⟩ : MethodName)) hown (mvT hZ (own_w hw 50 rfl)) (mvT hZ (own_w hw 51 rfl)) (notFace_of_selects (args := #[]) (mvT hZ (own_w hw 53 rfl))) (mvT hZ (own_w hw 53 rfl)) (mvT hZ (own_w hw 52 rfl)) (by decide) (backOf (W := 0) (rm_popd l Z a0 hw [] b201 b203 b204 b205 b206 (1 : Int32) (2 : Int32) (1 : Int32) (0 : Int32) (1 : Int32) 1 (own_upd (own_upd (fun _ => 0) 0 (-1 : Int32)) 1 (0 : Int32)) T210.heap n0 Zs E_b201 F_b201_firsts F_b201_seconds F_b201_below F_b201_top F_b201_used F_b201_kept F_b201_marks V_b205 g_b201 ne_b201_b205 (by decide) (by decide) (by decide) rfl (by decide) (by decide) (by decide)) hZ (own_w hw 54 rfl) (own_w hw 2 rfl) (by decide) (by decide)) q211a q211c (g := (mkF m 78 #[.val (.int p1), .val (.int p2), .val (.int p3), .val (.int p4), .val (.int p5), .val (.int p6), .val (.int vk), .val (.int (1 : Int32)), .val (.ref b201), .unset] [(.ref b201)])) rfl (by rw [hml]; rfl) (Steps.refl _) (argsL := []) (rest := []) (lenOf pd_0 rfl) rfl (by show 2 * 0 + _ ≤ _; exact Nat.le_of_eq rfl) (Jvm.hb hby at_78) (fun _ _ => ⟨rfl, rfl, (by decide : 6 + 0 ≤ _), (by decide : 73 + 0 ≤ _)⟩)
  dsimp only [Pt.U, Pt.locs, Pt.cells, Pt.slots] at X211 l211 y211 z211 st211 hQ211
  have y211 : ka211 = 6 := y211
  have z211 : na211 = 73 := z211
  subst y211 z211
  obtain ⟨rfl, N211q, Kc211, E_b201_q, F_b201_firsts_q, F_b201_seconds_q, F_b201_below_q, F_b201_top_q, F_b201_used_q, F_b201_kept_q, F_b201_marks_q⟩ := hQ211
  have N211 : Fr n0 La211 := by rw [l211]; exact Fr.app N210 N211q
  have E_b206 := E_b206.keep Kc211
  have F_b206_items := F_b206_items.keep Kc211 (ninS (Ne.symm ne_b201_b206) nin0)
  have F_b206_size := F_b206_size.keep Kc211 (ninS (Ne.symm ne_b201_b206) nin0)
  have V_b207 := V_b207.keep Kc211 (ninS (Ne.symm ne_b201_b207) nin0)
  have V_b203 := V_b203.keep Kc211 (ninS (Ne.symm ne_b201_b203) nin0)
  have V_b204 := V_b204.keep Kc211 (ninS (Ne.symm ne_b201_b204) nin0)
  have V_b205 := V_b205.keep Kc211 (ninS (Ne.symm ne_b201_b205) nin0)
  have Zs := Nat.le_trans Zs Kc211.1
  have E_b201 := E_b201_q
  have F_b201_firsts := F_b201_firsts_q
  have F_b201_seconds := F_b201_seconds_q
  have F_b201_below := F_b201_below_q
  have F_b201_top := F_b201_top_q
  have F_b201_used := F_b201_used_q
  have F_b201_kept := F_b201_kept_q
  have F_b201_marks := F_b201_marks_q
  refine own_go (B := T211.setTop (mkF m 81 #[.val (.int p1), .val (.int p2), .val (.int p3), .val (.int p4), .val (.int p5), .val (.int p6), .val (.int vk), .val (.int (1 : Int32)), .val (.ref b201), .unset] [])) (fun t k => own_st st211 k) ?_
  refine own_go (B := T211.setTop (mkF m 83 #[.val (.int p1), .val (.int p2), .val (.int p3), .val (.int p4), .val (.int p5), .val (.int p6), .val (.int vk), .val (.int (1 : Int32)), .val (.ref b201), .unset] [(.ref b201)])) (fun t k => XS.aload X211.here hx rfl (Jvm.hb hby at_81) rfl rfl k) ?_
  obtain ⟨cq212, kq212, q212a, q212b, q212c⟩ := isOf hZ rfl E_b201
  obtain ⟨_, _, ⟨T212, La212, ka212, na212⟩, -, X212, ⟨Lc212, hQ212, l212, y212, z212⟩, st212⟩ := X211.virtualBack hx (y := (⟨"com/example/term_unifier/termunifier/IntPairStack", "isEmpty", "()Z"⟩ : MethodName)) (z := (⟨"com/example/term_unifier/termunifier/IntPairStack", "isEmpty", "()Z"⟩ : MethodName)) hown (mvT hZ (own_w hw 55 rfl)) (mvT hZ (own_w hw 56 rfl)) (notFace_of_selects (args := #[]) (mvT hZ (own_w hw 58 rfl))) (mvT hZ (own_w hw 58 rfl)) (mvT hZ (own_w hw 57 rfl)) (by decide) (backOf (W := 0) (rm8 l Z a0 hw [] b201 (0 : Int32) (0 : Int32) T211.heap n0 Zs F_b201_top (by decide)) hZ (own_w hw 59 rfl) (own_w hw 2 rfl) (by decide) (by decide)) q212a q212c (g := (mkF m 83 #[.val (.int p1), .val (.int p2), .val (.int p3), .val (.int p4), .val (.int p5), .val (.int p6), .val (.int vk), .val (.int (1 : Int32)), .val (.ref b201), .unset] [(.ref b201)])) rfl (by rw [hml]; rfl) (Steps.refl _) (argsL := []) (rest := []) (lenOf pd_4 rfl) rfl (by show 2 * 0 + _ ≤ _; exact Nat.le_of_eq rfl) (Jvm.hb hby at_83) (fun _ _ => ⟨rfl, rfl, (by decide : 6 + 0 ≤ _), (by decide : 73 + 0 ≤ _)⟩)
  dsimp only [Pt.U, Pt.locs, Pt.cells, Pt.slots] at X212 l212 y212 z212 st212 hQ212
  have y212 : ka212 = 6 := y212
  have z212 : na212 = 73 := z212
  subst y212 z212
  obtain ⟨rfl, N212q, e212⟩ := hQ212
  have N212 : Fr n0 La212 := by rw [l212]; exact Fr.app N211 N212q
  refine own_go (B := T212.setTop (mkF m 86 #[.val (.int p1), .val (.int p2), .val (.int p3), .val (.int p4), .val (.int p5), .val (.int p6), .val (.int vk), .val (.int (1 : Int32)), .val (.ref b201), .unset] [(.int (0 : Int32))])) (fun t k => own_st st212 k) ?_
  refine own_go (B := T212.setTop (mkF m 89 #[.val (.int p1), .val (.int p2), .val (.int p3), .val (.int p4), .val (.int p5), .val (.int p6), .val (.int vk), .val (.int (1 : Int32)), .val (.ref b201), .unset] [])) (fun t k => XS.ifNo X212.here hx rfl (Jvm.hb hby at_86) rfl ((if0 _ _).trans (teq (by decide : (0 : Int32) = (0 : Int32))).2) k) ?_
  refine own_go (B := T212.setTop (mkF m 91 #[.val (.int p1), .val (.int p2), .val (.int p3), .val (.int p4), .val (.int p5), .val (.int p6), .val (.int vk), .val (.int (1 : Int32)), .val (.ref b201), .unset] [(.ref b201)])) (fun t k => XS.aload X212.here hx rfl (Jvm.hb hby at_89) rfl rfl k) ?_
  obtain ⟨cq213, kq213, q213a, q213b, q213c⟩ := isOf hZ e212 E_b201
  obtain ⟨_, _, ⟨T213, La213, ka213, na213⟩, -, X213, ⟨Lc213, hQ213, l213, y213, z213⟩, st213⟩ := X212.virtualBack hx (y := (⟨"com/example/term_unifier/termunifier/IntPairStack", "first", "()I"⟩ : MethodName)) (z := (⟨"com/example/term_unifier/termunifier/IntPairStack", "first", "()I"⟩ : MethodName)) hown (mvT hZ (own_w hw 60 rfl)) (mvT hZ (own_w hw 61 rfl)) (notFace_of_selects (args := #[]) (mvT hZ (own_w hw 63 rfl))) (mvT hZ (own_w hw 63 rfl)) (mvT hZ (own_w hw 62 rfl)) (by decide) (backOf (W := 0) (rm9 l Z a0 hw [] b201 b203 (0 : Int32) 0 (own_upd (own_upd (fun _ => 0) 0 p1) 1 p3) p1 T211.heap n0 Zs F_b201_firsts F_b201_top V_b203 (by decide) (by decide) (by decide) rfl) hZ (own_w hw 64 rfl) (own_w hw 2 rfl) (by decide) (by decide)) q213a q213c (g := (mkF m 91 #[.val (.int p1), .val (.int p2), .val (.int p3), .val (.int p4), .val (.int p5), .val (.int p6), .val (.int vk), .val (.int (1 : Int32)), .val (.ref b201), .unset] [(.ref b201)])) rfl (by rw [hml]; rfl) (Steps.refl _) (argsL := []) (rest := []) (lenOf pd_2 rfl) rfl (by show 2 * 0 + _ ≤ _; exact Nat.le_of_eq rfl) (Jvm.hb hby at_91) (fun _ _ => ⟨rfl, e212, (by decide : 6 + 0 ≤ _), (by decide : 73 + 0 ≤ _)⟩)
  dsimp only [Pt.U, Pt.locs, Pt.cells, Pt.slots] at X213 l213 y213 z213 st213 hQ213
  have y213 : ka213 = 6 := y213
  have z213 : na213 = 73 := z213
  subst y213 z213
  obtain ⟨rfl, N213q, e213⟩ := hQ213
  have N213 : Fr n0 La213 := by rw [l213]; exact Fr.app N212 N213q
  refine own_go (B := T213.setTop (mkF m 94 #[.val (.int p1), .val (.int p2), .val (.int p3), .val (.int p4), .val (.int p5), .val (.int p6), .val (.int vk), .val (.int (1 : Int32)), .val (.ref b201), .unset] [(.int p1)])) (fun t k => own_st st213 k) ?_
  refine own_go (B := T213.setTop (mkF m 95 #[.val (.int p1), .val (.int p2), .val (.int p3), .val (.int p4), .val (.int p5), .val (.int p6), .val (.int vk), .val (.int (1 : Int32)), .val (.ref b201), .unset] [(.int p1), (.int p1)])) (fun t k => XS.iloadN X213.here hx rfl (Jvm.hb hby at_94) rfl k) ?_
  refine own_go (B := T213.setTop (mkF m 98 #[.val (.int p1), .val (.int p2), .val (.int p3), .val (.int p4), .val (.int p5), .val (.int p6), .val (.int vk), .val (.int (1 : Int32)), .val (.ref b201), .unset] [])) (fun t k => XS.icmpNo X213.here hx rfl (Jvm.hb hby at_95) rfl (teq (rfl : p1 = p1)).2 k) ?_
  refine own_go (B := T213.setTop (mkF m 100 #[.val (.int p1), .val (.int p2), .val (.int p3), .val (.int p4), .val (.int p5), .val (.int p6), .val (.int vk), .val (.int (1 : Int32)), .val (.ref b201), .unset] [(.ref b201)])) (fun t k => XS.aload X213.here hx rfl (Jvm.hb hby at_98) rfl rfl k) ?_
  obtain ⟨cq214, kq214, q214a, q214b, q214c⟩ := isOf hZ e213 E_b201
  obtain ⟨_, _, ⟨T214, La214, ka214, na214⟩, -, X214, ⟨Lc214, hQ214, l214, y214, z214⟩, st214⟩ := X213.virtualBack hx (y := (⟨"com/example/term_unifier/termunifier/IntPairStack", "second", "()I"⟩ : MethodName)) (z := (⟨"com/example/term_unifier/termunifier/IntPairStack", "second", "()I"⟩ : MethodName)) hown (mvT hZ (own_w hw 65 rfl)) (mvT hZ (own_w hw 66 rfl)) (notFace_of_selects (args := #[]) (mvT hZ (own_w hw 68 rfl))) (mvT hZ (own_w hw 68 rfl)) (mvT hZ (own_w hw 67 rfl)) (by decide) (backOf (W := 0) (rm10 l Z a0 hw [] b201 b204 (0 : Int32) 0 (own_upd (own_upd (fun _ => 0) 0 p2) 1 p4) p2 T211.heap n0 Zs F_b201_seconds F_b201_top V_b204 (by decide) (by decide) (by decide) rfl) hZ (own_w hw 69 rfl) (own_w hw 2 rfl) (by decide) (by decide)) q214a q214c (g := (mkF m 100 #[.val (.int p1), .val (.int p2), .val (.int p3), .val (.int p4), .val (.int p5), .val (.int p6), .val (.int vk), .val (.int (1 : Int32)), .val (.ref b201), .unset] [(.ref b201)])) rfl (by rw [hml]; rfl) (Steps.refl _) (argsL := []) (rest := []) (lenOf pd_2 rfl) rfl (by show 2 * 0 + _ ≤ _; exact Nat.le_of_eq rfl) (Jvm.hb hby at_100) (fun _ _ => ⟨rfl, e213, (by decide : 6 + 0 ≤ _), (by decide : 73 + 0 ≤ _)⟩)
  dsimp only [Pt.U, Pt.locs, Pt.cells, Pt.slots] at X214 l214 y214 z214 st214 hQ214
  have y214 : ka214 = 6 := y214
  have z214 : na214 = 73 := z214
  subst y214 z214
  obtain ⟨rfl, N214q, e214⟩ := hQ214
  have N214 : Fr n0 La214 := by rw [l214]; exact Fr.app N213 N214q
  refine own_go (B := T214.setTop (mkF m 103 #[.val (.int p1), .val (.int p2), .val (.int p3), .val (.int p4), .val (.int p5), .val (.int p6), .val (.int vk), .val (.int (1 : Int32)), .val (.ref b201), .unset] [(.int p2)])) (fun t k => own_st st214 k) ?_
  refine own_go (B := T214.setTop (mkF m 104 #[.val (.int p1), .val (.int p2), .val (.int p3), .val (.int p4), .val (.int p5), .val (.int p6), .val (.int vk), .val (.int (1 : Int32)), .val (.ref b201), .unset] [(.int p2), (.int p2)])) (fun t k => XS.iloadN X214.here hx rfl (Jvm.hb hby at_103) rfl k) ?_
  refine own_go (B := T214.setTop (mkF m 107 #[.val (.int p1), .val (.int p2), .val (.int p3), .val (.int p4), .val (.int p5), .val (.int p6), .val (.int vk), .val (.int (1 : Int32)), .val (.ref b201), .unset] [])) (fun t k => XS.icmpNo X214.here hx rfl (Jvm.hb hby at_104) rfl (teq (rfl : p2 = p2)).2 k) ?_
  refine own_go (B := T214.setTop (mkF m 108 #[.val (.int p1), .val (.int p2), .val (.int p3), .val (.int p4), .val (.int p5), .val (.int p6), .val (.int vk), .val (.int (1 : Int32)), .val (.ref b201), .unset] [(.int (1 : Int32))])) (fun t k => XS.iconst X214.here hx rfl (Jvm.hb hby at_107) k) ?_
  refine own_go (B := T214.setTop (mkF m 112 #[.val (.int p1), .val (.int p2), .val (.int p3), .val (.int p4), .val (.int p5), .val (.int p6), .val (.int vk), .val (.int (1 : Int32)), .val (.ref b201), .unset] [(.int (1 : Int32))])) (fun t k => XS.goto X214.here hx rfl (pc0 := 108) (pc' := 112) rfl (Jvm.hb hby at_108) (by decide) (by decide) k) ?_
  refine own_go (B := T214.setTop (mkF m 114 #[.val (.int p1), .val (.int p2), .val (.int p3), .val (.int p4), .val (.int p5), .val (.int p6), .val (.int vk), .val (.int (1 : Int32)), .val (.ref b201), .val (.int (1 : Int32))] [])) (fun t k => XS.istore X214.here hx rfl (Jvm.hb hby at_112) rfl (l' := #[.val (.int p1), .val (.int p2), .val (.int p3), .val (.int p4), .val (.int p5), .val (.int p6), .val (.int vk), .val (.int (1 : Int32)), .val (.ref b201), .val (.int (1 : Int32))]) rfl k) ?_
  refine own_go (B := T214.setTop (mkF m 116 #[.val (.int p1), .val (.int p2), .val (.int p3), .val (.int p4), .val (.int p5), .val (.int p6), .val (.int vk), .val (.int (1 : Int32)), .val (.ref b201), .val (.int (1 : Int32))] [(.int (1 : Int32))])) (fun t k => XS.iload X214.here hx rfl (Jvm.hb hby at_114) rfl k) ?_
  refine own_go (B := T214.setTop (mkF m 119 #[.val (.int p1), .val (.int p2), .val (.int p3), .val (.int p4), .val (.int p5), .val (.int p6), .val (.int vk), .val (.int (1 : Int32)), .val (.ref b201), .val (.int (1 : Int32))] [])) (fun t k => XS.ifNo X214.here hx rfl (Jvm.hb hby at_116) rfl ((if0 _ _).trans (feq (by decide : ¬ ((1 : Int32) = (0 : Int32)))).1) k) ?_
  refine own_go (B := T214.setTop (mkF m 121 #[.val (.int p1), .val (.int p2), .val (.int p3), .val (.int p4), .val (.int p5), .val (.int p6), .val (.int vk), .val (.int (1 : Int32)), .val (.ref b201), .val (.int (1 : Int32))] [(.ref b201)])) (fun t k => XS.aload X214.here hx rfl (Jvm.hb hby at_119) rfl rfl k) ?_
  obtain ⟨cq215, kq215, q215a, q215b, q215c⟩ := isOf hZ e214 E_b201
  obtain ⟨_, _, ⟨T215, La215, ka215, na215⟩, -, X215, ⟨Lc215, hQ215, l215, y215, z215⟩, st215⟩ := X214.virtualBack hx (y := (⟨"com/example/term_unifier/termunifier/IntPairStack", "pop", "()V"⟩ : MethodName)) (z := (⟨"com/example/term_unifier/termunifier/IntPairStack", "pop", "()V"⟩ : MethodName)) hown (mvT hZ (own_w hw 50 rfl)) (mvT hZ (own_w hw 51 rfl)) (notFace_of_selects (args := #[]) (mvT hZ (own_w hw 53 rfl))) (mvT hZ (own_w hw 53 rfl)) (mvT hZ (own_w hw 52 rfl)) (by decide) (backOf (W := 0) (rm_popk l Z a0 hw [] b201 b203 b204 b205 b206 (0 : Int32) (1 : Int32) (1 : Int32) (-1 : Int32) (0 : Int32) 0 (own_upd (own_upd (fun _ => 0) 0 (-1 : Int32)) 1 (0 : Int32)) T211.heap n0 Zs E_b201 F_b201_firsts F_b201_seconds F_b201_below F_b201_top F_b201_used F_b201_kept F_b201_marks V_b205 g_b201 ne_b201_b205 (by decide) (by decide) (by decide) rfl (by decide) (by decide) (by decide)) hZ (own_w hw 54 rfl) (own_w hw 2 rfl) (by decide) (by decide)) q215a q215c (g := (mkF m 121 #[.val (.int p1), .val (.int p2), .val (.int p3), .val (.int p4), .val (.int p5), .val (.int p6), .val (.int vk), .val (.int (1 : Int32)), .val (.ref b201), .val (.int (1 : Int32))] [(.ref b201)])) rfl (by rw [hml]; rfl) (Steps.refl _) (argsL := []) (rest := []) (lenOf pd_0 rfl) rfl (by show 2 * 0 + _ ≤ _; exact Nat.le_of_eq rfl) (Jvm.hb hby at_121) (fun _ _ => ⟨rfl, e214, (by decide : 6 + 0 ≤ _), (by decide : 73 + 0 ≤ _)⟩)
  dsimp only [Pt.U, Pt.locs, Pt.cells, Pt.slots] at X215 l215 y215 z215 st215 hQ215
  have y215 : ka215 = 6 := y215
  have z215 : na215 = 73 := z215
  subst y215 z215
  obtain ⟨rfl, N215q, Kc215, E_b201_q, F_b201_firsts_q, F_b201_seconds_q, F_b201_below_q, F_b201_top_q, F_b201_used_q, F_b201_kept_q, F_b201_marks_q⟩ := hQ215
  have N215 : Fr n0 La215 := by rw [l215]; exact Fr.app N214 N215q
  have E_b206 := E_b206.keep Kc215
  have F_b206_items := F_b206_items.keep Kc215 (ninS (Ne.symm ne_b201_b206) nin0)
  have F_b206_size := F_b206_size.keep Kc215 (ninS (Ne.symm ne_b201_b206) nin0)
  have V_b207 := V_b207.keep Kc215 (ninS (Ne.symm ne_b201_b207) nin0)
  have V_b203 := V_b203.keep Kc215 (ninS (Ne.symm ne_b201_b203) nin0)
  have V_b204 := V_b204.keep Kc215 (ninS (Ne.symm ne_b201_b204) nin0)
  have V_b205 := V_b205.keep Kc215 (ninS (Ne.symm ne_b201_b205) nin0)
  have Zs := Nat.le_trans Zs Kc215.1
  have E_b201 := E_b201_q
  have F_b201_firsts := F_b201_firsts_q
  have F_b201_seconds := F_b201_seconds_q
  have F_b201_below := F_b201_below_q
  have F_b201_top := F_b201_top_q
  have F_b201_used := F_b201_used_q
  have F_b201_kept := F_b201_kept_q
  have F_b201_marks := F_b201_marks_q
  refine own_go (B := T215.setTop (mkF m 124 #[.val (.int p1), .val (.int p2), .val (.int p3), .val (.int p4), .val (.int p5), .val (.int p6), .val (.int vk), .val (.int (1 : Int32)), .val (.ref b201), .val (.int (1 : Int32))] [])) (fun t k => own_st st215 k) ?_
  refine own_go (B := T215.setTop (mkF m 126 #[.val (.int p1), .val (.int p2), .val (.int p3), .val (.int p4), .val (.int p5), .val (.int p6), .val (.int vk), .val (.int (1 : Int32)), .val (.ref b201), .val (.int (1 : Int32))] [(.int (1 : Int32))])) (fun t k => XS.iload X215.here hx rfl (Jvm.hb hby at_124) rfl k) ?_
  refine own_go (B := T215.setTop (mkF m 129 #[.val (.int p1), .val (.int p2), .val (.int p3), .val (.int p4), .val (.int p5), .val (.int p6), .val (.int vk), .val (.int (1 : Int32)), .val (.ref b201), .val (.int (1 : Int32))] [])) (fun t k => XS.ifNo X215.here hx rfl (Jvm.hb hby at_126) rfl ((if0 _ _).trans (feq (by decide : ¬ ((1 : Int32) = (0 : Int32)))).1) k) ?_
  refine own_go (B := T215.setTop (mkF m 131 #[.val (.int p1), .val (.int p2), .val (.int p3), .val (.int p4), .val (.int p5), .val (.int p6), .val (.int vk), .val (.int (1 : Int32)), .val (.ref b201), .val (.int (1 : Int32))] [(.ref b201)])) (fun t k => XS.aload X215.here hx rfl (Jvm.hb hby at_129) rfl rfl k) ?_
  obtain ⟨cq216, kq216, q216a, q216b, q216c⟩ := isOf hZ rfl E_b201
  obtain ⟨_, _, ⟨T216, La216, ka216, na216⟩, -, X216, ⟨Lc216, hQ216, l216, y216, z216⟩, st216⟩ := X215.virtualBack hx (y := (⟨"com/example/term_unifier/termunifier/IntPairStack", "isEmpty", "()Z"⟩ : MethodName)) (z := (⟨"com/example/term_unifier/termunifier/IntPairStack", "isEmpty", "()Z"⟩ : MethodName)) hown (mvT hZ (own_w hw 55 rfl)) (mvT hZ (own_w hw 56 rfl)) (notFace_of_selects (args := #[]) (mvT hZ (own_w hw 58 rfl))) (mvT hZ (own_w hw 58 rfl)) (mvT hZ (own_w hw 57 rfl)) (by decide) (backOf (W := 0) (rm8 l Z a0 hw [] b201 (-1 : Int32) (1 : Int32) T215.heap n0 Zs F_b201_top (by decide)) hZ (own_w hw 59 rfl) (own_w hw 2 rfl) (by decide) (by decide)) q216a q216c (g := (mkF m 131 #[.val (.int p1), .val (.int p2), .val (.int p3), .val (.int p4), .val (.int p5), .val (.int p6), .val (.int vk), .val (.int (1 : Int32)), .val (.ref b201), .val (.int (1 : Int32))] [(.ref b201)])) rfl (by rw [hml]; rfl) (Steps.refl _) (argsL := []) (rest := []) (lenOf pd_4 rfl) rfl (by show 2 * 0 + _ ≤ _; exact Nat.le_of_eq rfl) (Jvm.hb hby at_131) (fun _ _ => ⟨rfl, rfl, (by decide : 6 + 0 ≤ _), (by decide : 73 + 0 ≤ _)⟩)
  dsimp only [Pt.U, Pt.locs, Pt.cells, Pt.slots] at X216 l216 y216 z216 st216 hQ216
  have y216 : ka216 = 6 := y216
  have z216 : na216 = 73 := z216
  subst y216 z216
  obtain ⟨rfl, N216q, e216⟩ := hQ216
  have N216 : Fr n0 La216 := by rw [l216]; exact Fr.app N215 N216q
  refine own_go (B := T216.setTop (mkF m 134 #[.val (.int p1), .val (.int p2), .val (.int p3), .val (.int p4), .val (.int p5), .val (.int p6), .val (.int vk), .val (.int (1 : Int32)), .val (.ref b201), .val (.int (1 : Int32))] [(.int (1 : Int32))])) (fun t k => own_st st216 k) ?_
  refine own_go (B := T216.setTop (mkF m 137 #[.val (.int p1), .val (.int p2), .val (.int p3), .val (.int p4), .val (.int p5), .val (.int p6), .val (.int vk), .val (.int (1 : Int32)), .val (.ref b201), .val (.int (1 : Int32))] [])) (fun t k => XS.ifNo X216.here hx rfl (Jvm.hb hby at_134) rfl ((if0 _ _).trans (feq (by decide : ¬ ((1 : Int32) = (0 : Int32)))).1) k) ?_
  refine own_go (B := T216.setTop (mkF m 138 #[.val (.int p1), .val (.int p2), .val (.int p3), .val (.int p4), .val (.int p5), .val (.int p6), .val (.int vk), .val (.int (1 : Int32)), .val (.ref b201), .val (.int (1 : Int32))] [(.int (1 : Int32))])) (fun t k => XS.iconst X216.here hx rfl (Jvm.hb hby at_137) k) ?_
  refine own_go (B := T216.setTop (mkF m 142 #[.val (.int p1), .val (.int p2), .val (.int p3), .val (.int p4), .val (.int p5), .val (.int p6), .val (.int vk), .val (.int (1 : Int32)), .val (.ref b201), .val (.int (1 : Int32))] [(.int (1 : Int32))])) (fun t k => XS.goto X216.here hx rfl (pc0 := 138) (pc' := 142) rfl (Jvm.hb hby at_138) (by decide) (by decide) k) ?_
  refine own_go (B := T216.setTop (mkF m 144 #[.val (.int p1), .val (.int p2), .val (.int p3), .val (.int p4), .val (.int p5), .val (.int p6), .val (.int vk), .val (.int (1 : Int32)), .val (.ref b201), .val (.int (1 : Int32))] [])) (fun t k => XS.istore X216.here hx rfl (Jvm.hb hby at_142) rfl (l' := #[.val (.int p1), .val (.int p2), .val (.int p3), .val (.int p4), .val (.int p5), .val (.int p6), .val (.int vk), .val (.int (1 : Int32)), .val (.ref b201), .val (.int (1 : Int32))]) rfl k) ?_
  refine own_go (B := T216.setTop (mkF m 146 #[.val (.int p1), .val (.int p2), .val (.int p3), .val (.int p4), .val (.int p5), .val (.int p6), .val (.int vk), .val (.int (1 : Int32)), .val (.ref b201), .val (.int (1 : Int32))] [(.ref b201)])) (fun t k => XS.aload X216.here hx rfl (Jvm.hb hby at_144) rfl rfl k) ?_
  refine own_go (B := T216.setTop (mkF m 148 #[.val (.int p1), .val (.int p2), .val (.int p3), .val (.int p4), .val (.int p5), .val (.int p6), .val (.int vk), .val (.int (1 : Int32)), .val (.ref b201), .val (.int (1 : Int32))] [(.int p5), (.ref b201)])) (fun t k => XS.iload X216.here hx rfl (Jvm.hb hby at_146) rfl k) ?_
  refine own_go (B := T216.setTop (mkF m 150 #[.val (.int p1), .val (.int p2), .val (.int p3), .val (.int p4), .val (.int p5), .val (.int p6), .val (.int vk), .val (.int (1 : Int32)), .val (.ref b201), .val (.int (1 : Int32))] [(.int p5), (.int p5), (.ref b201)])) (fun t k => XS.iload X216.here hx rfl (Jvm.hb hby at_148) rfl k) ?_
  refine own_go (B := T216.setTop (mkF m 151 #[.val (.int p1), .val (.int p2), .val (.int p3), .val (.int p4), .val (.int p5), .val (.int p6), .val (.int vk), .val (.int (1 : Int32)), .val (.ref b201), .val (.int (1 : Int32))] [(.int (-1 : Int32)), (.int p5), (.int p5), (.ref b201)])) (fun t k => XS.iconst X216.here hx rfl (Jvm.hb hby at_150) k) ?_
  refine own_go (B := T216.setTop (mkF m 152 #[.val (.int p1), .val (.int p2), .val (.int p3), .val (.int p4), .val (.int p5), .val (.int p6), .val (.int vk), .val (.int (1 : Int32)), .val (.ref b201), .val (.int (1 : Int32))] [(.int (p5 ^^^ (-1 : Int32))), (.int p5), (.ref b201)])) (fun t k => XS.ixor X216.here hx rfl (Jvm.hb hby at_151) rfl k) ?_
  obtain ⟨cq217, kq217, q217a, q217b, q217c⟩ := isOf hZ e216 E_b201
  obtain ⟨_, _, ⟨T217, La217, ka217, na217⟩, -, X217, ⟨Lc217, hQ217, l217, y217, z217⟩, st217⟩ := X216.virtualBack hx (y := (⟨"com/example/term_unifier/termunifier/IntPairStack", "push", "(II)V"⟩ : MethodName)) (z := (⟨"com/example/term_unifier/termunifier/IntPairStack", "push", "(II)V"⟩ : MethodName)) hown (mvT hZ (own_w hw 29 rfl)) (mvT hZ (own_w hw 30 rfl)) (notFace_of_selects (args := #[]) (mvT hZ (own_w hw 32 rfl))) (mvT hZ (own_w hw 32 rfl)) (mvT hZ (own_w hw 31 rfl)) (by decide) (backOf (W := 0) (rm4 l Z a0 hw [] b201 p5 (p5 ^^^ (-1 : Int32)) b203 b204 b205 b206 (-1 : Int32) (1 : Int32) (1 : Int32) (2 : Int32) 1 (own_upd (own_upd (fun _ => 0) 0 p1) 1 p3) (own_upd (own_upd (fun _ => 0) 0 p2) 1 p4) (own_upd (own_upd (fun _ => 0) 0 (-1 : Int32)) 1 (0 : Int32)) T215.heap n0 Zs E_b201 F_b201_firsts F_b201_seconds F_b201_below F_b201_top F_b201_used F_b201_kept F_b201_marks V_b203 V_b204 V_b205 g_b201 g_b203 g_b204 g_b205 ne_b201_b203 ne_b201_b204 ne_b201_b205 ne_b203_b204 ne_b203_b205 ne_b204_b205 (by decide) (by decide) (by decide) (by decide) (by decide)) hZ (own_w hw 33 rfl) (own_w hw 2 rfl) (by decide) (by decide)) q217a q217c (g := (mkF m 152 #[.val (.int p1), .val (.int p2), .val (.int p3), .val (.int p4), .val (.int p5), .val (.int p6), .val (.int vk), .val (.int (1 : Int32)), .val (.ref b201), .val (.int (1 : Int32))] [(.int (p5 ^^^ (-1 : Int32))), (.int p5), (.ref b201)])) rfl (by rw [hml]; rfl) (Steps.refl _) (argsL := [(.int p5), (.int (p5 ^^^ (-1 : Int32)))]) (rest := []) (lenOf pd_3 rfl) rfl (by show 2 * 0 + _ ≤ _; exact Nat.le_of_eq rfl) (Jvm.hb hby at_152) (fun _ _ => ⟨rfl, e216, (by decide : 6 + 0 ≤ _), (by decide : 73 + 0 ≤ _)⟩)
  dsimp only [Pt.U, Pt.locs, Pt.cells, Pt.slots] at X217 l217 y217 z217 st217 hQ217
  have y217 : ka217 = 6 := y217
  have z217 : na217 = 73 := z217
  subst y217 z217
  obtain ⟨rfl, N217q, Kc217, E_b201_q, F_b201_firsts_q, F_b201_seconds_q, F_b201_below_q, F_b201_top_q, F_b201_used_q, F_b201_kept_q, F_b201_marks_q, V_b203_q, V_b204_q, V_b205_q⟩ := hQ217
  have N217 : Fr n0 La217 := by rw [l217]; exact Fr.app N216 N217q
  have E_b206 := E_b206.keep Kc217
  have F_b206_items := F_b206_items.keep Kc217 (ninS (Ne.symm ne_b201_b206) (ninS (Ne.symm ne_b203_b206) (ninS (Ne.symm ne_b204_b206) (ninS (Ne.symm ne_b205_b206) nin0))))
  have F_b206_size := F_b206_size.keep Kc217 (ninS (Ne.symm ne_b201_b206) (ninS (Ne.symm ne_b203_b206) (ninS (Ne.symm ne_b204_b206) (ninS (Ne.symm ne_b205_b206) nin0))))
  have V_b207 := V_b207.keep Kc217 (ninS (Ne.symm ne_b201_b207) (ninS (Ne.symm ne_b203_b207) (ninS (Ne.symm ne_b204_b207) (ninS (Ne.symm ne_b205_b207) nin0))))
  have Zs := Nat.le_trans Zs Kc217.1
  have E_b201 := E_b201_q
  have F_b201_firsts := F_b201_firsts_q
  have F_b201_seconds := F_b201_seconds_q
  have F_b201_below := F_b201_below_q
  have F_b201_top := F_b201_top_q
  have F_b201_used := F_b201_used_q
  have F_b201_kept := F_b201_kept_q
  have F_b201_marks := F_b201_marks_q
  have V_b203 := V_b203_q
  have V_b204 := V_b204_q
  have V_b205 := V_b205_q
  refine own_go (B := T217.setTop (mkF m 155 #[.val (.int p1), .val (.int p2), .val (.int p3), .val (.int p4), .val (.int p5), .val (.int p6), .val (.int vk), .val (.int (1 : Int32)), .val (.ref b201), .val (.int (1 : Int32))] [])) (fun t k => own_st st217 k) ?_
  refine own_go (B := T217.setTop (mkF m 157 #[.val (.int p1), .val (.int p2), .val (.int p3), .val (.int p4), .val (.int p5), .val (.int p6), .val (.int vk), .val (.int (1 : Int32)), .val (.ref b201), .val (.int (1 : Int32))] [(.int (1 : Int32))])) (fun t k => XS.iload X217.here hx rfl (Jvm.hb hby at_155) rfl k) ?_
  refine own_go (B := T217.setTop (mkF m 160 #[.val (.int p1), .val (.int p2), .val (.int p3), .val (.int p4), .val (.int p5), .val (.int p6), .val (.int vk), .val (.int (1 : Int32)), .val (.ref b201), .val (.int (1 : Int32))] [])) (fun t k => XS.ifNo X217.here hx rfl (Jvm.hb hby at_157) rfl ((if0 _ _).trans (feq (by decide : ¬ ((1 : Int32) = (0 : Int32)))).1) k) ?_
  refine own_go (B := T217.setTop (mkF m 162 #[.val (.int p1), .val (.int p2), .val (.int p3), .val (.int p4), .val (.int p5), .val (.int p6), .val (.int vk), .val (.int (1 : Int32)), .val (.ref b201), .val (.int (1 : Int32))] [(.ref b201)])) (fun t k => XS.aload X217.here hx rfl (Jvm.hb hby at_160) rfl rfl k) ?_
  obtain ⟨cq218, kq218, q218a, q218b, q218c⟩ := isOf hZ rfl E_b201
  obtain ⟨_, _, ⟨T218, La218, ka218, na218⟩, -, X218, ⟨Lc218, hQ218, l218, y218, z218⟩, st218⟩ := X217.virtualBack hx (y := (⟨"com/example/term_unifier/termunifier/IntPairStack", "isEmpty", "()Z"⟩ : MethodName)) (z := (⟨"com/example/term_unifier/termunifier/IntPairStack", "isEmpty", "()Z"⟩ : MethodName)) hown (mvT hZ (own_w hw 55 rfl)) (mvT hZ (own_w hw 56 rfl)) (notFace_of_selects (args := #[]) (mvT hZ (own_w hw 58 rfl))) (mvT hZ (own_w hw 58 rfl)) (mvT hZ (own_w hw 57 rfl)) (by decide) (backOf (W := 0) (rm8 l Z a0 hw [] b201 (1 : Int32) (0 : Int32) T217.heap n0 Zs F_b201_top (by decide)) hZ (own_w hw 59 rfl) (own_w hw 2 rfl) (by decide) (by decide)) q218a q218c (g := (mkF m 162 #[.val (.int p1), .val (.int p2), .val (.int p3), .val (.int p4), .val (.int p5), .val (.int p6), .val (.int vk), .val (.int (1 : Int32)), .val (.ref b201), .val (.int (1 : Int32))] [(.ref b201)])) rfl (by rw [hml]; rfl) (Steps.refl _) (argsL := []) (rest := []) (lenOf pd_4 rfl) rfl (by show 2 * 0 + _ ≤ _; exact Nat.le_of_eq rfl) (Jvm.hb hby at_162) (fun _ _ => ⟨rfl, rfl, (by decide : 6 + 0 ≤ _), (by decide : 73 + 0 ≤ _)⟩)
  dsimp only [Pt.U, Pt.locs, Pt.cells, Pt.slots] at X218 l218 y218 z218 st218 hQ218
  have y218 : ka218 = 6 := y218
  have z218 : na218 = 73 := z218
  subst y218 z218
  obtain ⟨rfl, N218q, e218⟩ := hQ218
  have N218 : Fr n0 La218 := by rw [l218]; exact Fr.app N217 N218q
  refine own_go (B := T218.setTop (mkF m 165 #[.val (.int p1), .val (.int p2), .val (.int p3), .val (.int p4), .val (.int p5), .val (.int p6), .val (.int vk), .val (.int (1 : Int32)), .val (.ref b201), .val (.int (1 : Int32))] [(.int (0 : Int32))])) (fun t k => own_st st218 k) ?_
  refine own_go (B := T218.setTop (mkF m 168 #[.val (.int p1), .val (.int p2), .val (.int p3), .val (.int p4), .val (.int p5), .val (.int p6), .val (.int vk), .val (.int (1 : Int32)), .val (.ref b201), .val (.int (1 : Int32))] [])) (fun t k => XS.ifNo X218.here hx rfl (Jvm.hb hby at_165) rfl ((if0 _ _).trans (teq (by decide : (0 : Int32) = (0 : Int32))).2) k) ?_
  refine own_go (B := T218.setTop (mkF m 170 #[.val (.int p1), .val (.int p2), .val (.int p3), .val (.int p4), .val (.int p5), .val (.int p6), .val (.int vk), .val (.int (1 : Int32)), .val (.ref b201), .val (.int (1 : Int32))] [(.ref b201)])) (fun t k => XS.aload X218.here hx rfl (Jvm.hb hby at_168) rfl rfl k) ?_
  obtain ⟨cq219, kq219, q219a, q219b, q219c⟩ := isOf hZ e218 E_b201
  obtain ⟨_, _, ⟨T219, La219, ka219, na219⟩, -, X219, ⟨Lc219, hQ219, l219, y219, z219⟩, st219⟩ := X218.virtualBack hx (y := (⟨"com/example/term_unifier/termunifier/IntPairStack", "first", "()I"⟩ : MethodName)) (z := (⟨"com/example/term_unifier/termunifier/IntPairStack", "first", "()I"⟩ : MethodName)) hown (mvT hZ (own_w hw 60 rfl)) (mvT hZ (own_w hw 61 rfl)) (notFace_of_selects (args := #[]) (mvT hZ (own_w hw 63 rfl))) (mvT hZ (own_w hw 63 rfl)) (mvT hZ (own_w hw 62 rfl)) (by decide) (backOf (W := 0) (rm9 l Z a0 hw [] b201 b203 (1 : Int32) 1 (own_upd (own_upd (own_upd (fun _ => 0) 0 p1) 1 p3) 1 p5) p5 T217.heap n0 Zs F_b201_firsts F_b201_top V_b203 (by decide) (by decide) (by decide) rfl) hZ (own_w hw 64 rfl) (own_w hw 2 rfl) (by decide) (by decide)) q219a q219c (g := (mkF m 170 #[.val (.int p1), .val (.int p2), .val (.int p3), .val (.int p4), .val (.int p5), .val (.int p6), .val (.int vk), .val (.int (1 : Int32)), .val (.ref b201), .val (.int (1 : Int32))] [(.ref b201)])) rfl (by rw [hml]; rfl) (Steps.refl _) (argsL := []) (rest := []) (lenOf pd_2 rfl) rfl (by show 2 * 0 + _ ≤ _; exact Nat.le_of_eq rfl) (Jvm.hb hby at_170) (fun _ _ => ⟨rfl, e218, (by decide : 6 + 0 ≤ _), (by decide : 73 + 0 ≤ _)⟩)
  dsimp only [Pt.U, Pt.locs, Pt.cells, Pt.slots] at X219 l219 y219 z219 st219 hQ219
  have y219 : ka219 = 6 := y219
  have z219 : na219 = 73 := z219
  subst y219 z219
  obtain ⟨rfl, N219q, e219⟩ := hQ219
  have N219 : Fr n0 La219 := by rw [l219]; exact Fr.app N218 N219q
  refine own_go (B := T219.setTop (mkF m 173 #[.val (.int p1), .val (.int p2), .val (.int p3), .val (.int p4), .val (.int p5), .val (.int p6), .val (.int vk), .val (.int (1 : Int32)), .val (.ref b201), .val (.int (1 : Int32))] [(.int p5)])) (fun t k => own_st st219 k) ?_
  refine own_go (B := T219.setTop (mkF m 175 #[.val (.int p1), .val (.int p2), .val (.int p3), .val (.int p4), .val (.int p5), .val (.int p6), .val (.int vk), .val (.int (1 : Int32)), .val (.ref b201), .val (.int (1 : Int32))] [(.int p5), (.int p5)])) (fun t k => XS.iload X219.here hx rfl (Jvm.hb hby at_173) rfl k) ?_
  refine own_go (B := T219.setTop (mkF m 178 #[.val (.int p1), .val (.int p2), .val (.int p3), .val (.int p4), .val (.int p5), .val (.int p6), .val (.int vk), .val (.int (1 : Int32)), .val (.ref b201), .val (.int (1 : Int32))] [])) (fun t k => XS.icmpNo X219.here hx rfl (Jvm.hb hby at_175) rfl (teq (rfl : p5 = p5)).2 k) ?_
  refine own_go (B := T219.setTop (mkF m 180 #[.val (.int p1), .val (.int p2), .val (.int p3), .val (.int p4), .val (.int p5), .val (.int p6), .val (.int vk), .val (.int (1 : Int32)), .val (.ref b201), .val (.int (1 : Int32))] [(.ref b201)])) (fun t k => XS.aload X219.here hx rfl (Jvm.hb hby at_178) rfl rfl k) ?_
  obtain ⟨cq220, kq220, q220a, q220b, q220c⟩ := isOf hZ e219 E_b201
  obtain ⟨_, _, ⟨T220, La220, ka220, na220⟩, -, X220, ⟨Lc220, hQ220, l220, y220, z220⟩, st220⟩ := X219.virtualBack hx (y := (⟨"com/example/term_unifier/termunifier/IntPairStack", "second", "()I"⟩ : MethodName)) (z := (⟨"com/example/term_unifier/termunifier/IntPairStack", "second", "()I"⟩ : MethodName)) hown (mvT hZ (own_w hw 65 rfl)) (mvT hZ (own_w hw 66 rfl)) (notFace_of_selects (args := #[]) (mvT hZ (own_w hw 68 rfl))) (mvT hZ (own_w hw 68 rfl)) (mvT hZ (own_w hw 67 rfl)) (by decide) (backOf (W := 0) (rm10 l Z a0 hw [] b201 b204 (1 : Int32) 1 (own_upd (own_upd (own_upd (fun _ => 0) 0 p2) 1 p4) 1 (p5 ^^^ (-1 : Int32))) (p5 ^^^ (-1 : Int32)) T217.heap n0 Zs F_b201_seconds F_b201_top V_b204 (by decide) (by decide) (by decide) rfl) hZ (own_w hw 69 rfl) (own_w hw 2 rfl) (by decide) (by decide)) q220a q220c (g := (mkF m 180 #[.val (.int p1), .val (.int p2), .val (.int p3), .val (.int p4), .val (.int p5), .val (.int p6), .val (.int vk), .val (.int (1 : Int32)), .val (.ref b201), .val (.int (1 : Int32))] [(.ref b201)])) rfl (by rw [hml]; rfl) (Steps.refl _) (argsL := []) (rest := []) (lenOf pd_2 rfl) rfl (by show 2 * 0 + _ ≤ _; exact Nat.le_of_eq rfl) (Jvm.hb hby at_180) (fun _ _ => ⟨rfl, e219, (by decide : 6 + 0 ≤ _), (by decide : 73 + 0 ≤ _)⟩)
  dsimp only [Pt.U, Pt.locs, Pt.cells, Pt.slots] at X220 l220 y220 z220 st220 hQ220
  have y220 : ka220 = 6 := y220
  have z220 : na220 = 73 := z220
  subst y220 z220
  obtain ⟨rfl, N220q, e220⟩ := hQ220
  have N220 : Fr n0 La220 := by rw [l220]; exact Fr.app N219 N220q
  refine own_go (B := T220.setTop (mkF m 183 #[.val (.int p1), .val (.int p2), .val (.int p3), .val (.int p4), .val (.int p5), .val (.int p6), .val (.int vk), .val (.int (1 : Int32)), .val (.ref b201), .val (.int (1 : Int32))] [(.int (p5 ^^^ (-1 : Int32)))])) (fun t k => own_st st220 k) ?_
  refine own_go (B := T220.setTop (mkF m 185 #[.val (.int p1), .val (.int p2), .val (.int p3), .val (.int p4), .val (.int p5), .val (.int p6), .val (.int vk), .val (.int (1 : Int32)), .val (.ref b201), .val (.int (1 : Int32))] [(.int p5), (.int (p5 ^^^ (-1 : Int32)))])) (fun t k => XS.iload X220.here hx rfl (Jvm.hb hby at_183) rfl k) ?_
  refine own_go (B := T220.setTop (mkF m 186 #[.val (.int p1), .val (.int p2), .val (.int p3), .val (.int p4), .val (.int p5), .val (.int p6), .val (.int vk), .val (.int (1 : Int32)), .val (.ref b201), .val (.int (1 : Int32))] [(.int (-1 : Int32)), (.int p5), (.int (p5 ^^^ (-1 : Int32)))])) (fun t k => XS.iconst X220.here hx rfl (Jvm.hb hby at_185) k) ?_
  refine own_go (B := T220.setTop (mkF m 187 #[.val (.int p1), .val (.int p2), .val (.int p3), .val (.int p4), .val (.int p5), .val (.int p6), .val (.int vk), .val (.int (1 : Int32)), .val (.ref b201), .val (.int (1 : Int32))] [(.int (p5 ^^^ (-1 : Int32))), (.int (p5 ^^^ (-1 : Int32)))])) (fun t k => XS.ixor X220.here hx rfl (Jvm.hb hby at_186) rfl k) ?_
  refine own_go (B := T220.setTop (mkF m 190 #[.val (.int p1), .val (.int p2), .val (.int p3), .val (.int p4), .val (.int p5), .val (.int p6), .val (.int vk), .val (.int (1 : Int32)), .val (.ref b201), .val (.int (1 : Int32))] [])) (fun t k => XS.icmpNo X220.here hx rfl (Jvm.hb hby at_187) rfl (teq (rfl : (p5 ^^^ (-1 : Int32)) = (p5 ^^^ (-1 : Int32)))).2 k) ?_
  refine own_go (B := T220.setTop (mkF m 191 #[.val (.int p1), .val (.int p2), .val (.int p3), .val (.int p4), .val (.int p5), .val (.int p6), .val (.int vk), .val (.int (1 : Int32)), .val (.ref b201), .val (.int (1 : Int32))] [(.int (1 : Int32))])) (fun t k => XS.iconst X220.here hx rfl (Jvm.hb hby at_190) k) ?_
  refine own_go (B := T220.setTop (mkF m 195 #[.val (.int p1), .val (.int p2), .val (.int p3), .val (.int p4), .val (.int p5), .val (.int p6), .val (.int vk), .val (.int (1 : Int32)), .val (.ref b201), .val (.int (1 : Int32))] [(.int (1 : Int32))])) (fun t k => XS.goto X220.here hx rfl (pc0 := 191) (pc' := 195) rfl (Jvm.hb hby at_191) (by decide) (by decide) k) ?_
  refine own_go (B := T220.setTop (mkF m 197 #[.val (.int p1), .val (.int p2), .val (.int p3), .val (.int p4), .val (.int p5), .val (.int p6), .val (.int vk), .val (.int (1 : Int32)), .val (.ref b201), .val (.int (1 : Int32))] [])) (fun t k => XS.istore X220.here hx rfl (Jvm.hb hby at_195) rfl (l' := #[.val (.int p1), .val (.int p2), .val (.int p3), .val (.int p4), .val (.int p5), .val (.int p6), .val (.int vk), .val (.int (1 : Int32)), .val (.ref b201), .val (.int (1 : Int32))]) rfl k) ?_
  refine own_go (B := T220.setTop (mkF m 199 #[.val (.int p1), .val (.int p2), .val (.int p3), .val (.int p4), .val (.int p5), .val (.int p6), .val (.int vk), .val (.int (1 : Int32)), .val (.ref b201), .val (.int (1 : Int32))] [(.ref b201)])) (fun t k => XS.aload X220.here hx rfl (Jvm.hb hby at_197) rfl rfl k) ?_
  obtain ⟨cq221, kq221, q221a, q221b, q221c⟩ := isOf hZ e220 E_b201
  obtain ⟨_, _, ⟨T221, La221, ka221, na221⟩, -, X221, ⟨Lc221, hQ221, l221, y221, z221⟩, st221⟩ := X220.virtualBack hx (y := (⟨"com/example/term_unifier/termunifier/IntPairStack", "pop", "()V"⟩ : MethodName)) (z := (⟨"com/example/term_unifier/termunifier/IntPairStack", "pop", "()V"⟩ : MethodName)) hown (mvT hZ (own_w hw 50 rfl)) (mvT hZ (own_w hw 51 rfl)) (notFace_of_selects (args := #[]) (mvT hZ (own_w hw 53 rfl))) (mvT hZ (own_w hw 53 rfl)) (mvT hZ (own_w hw 52 rfl)) (by decide) (backOf (W := 0) (rm_popd l Z a0 hw [] b201 b203 b204 b205 b206 (1 : Int32) (2 : Int32) (1 : Int32) (-1 : Int32) (1 : Int32) 1 (own_upd (own_upd (own_upd (fun _ => 0) 0 (-1 : Int32)) 1 (0 : Int32)) 1 (-1 : Int32)) T217.heap n0 Zs E_b201 F_b201_firsts F_b201_seconds F_b201_below F_b201_top F_b201_used F_b201_kept F_b201_marks V_b205 g_b201 ne_b201_b205 (by decide) (by decide) (by decide) rfl (by decide) (by decide) (by decide)) hZ (own_w hw 54 rfl) (own_w hw 2 rfl) (by decide) (by decide)) q221a q221c (g := (mkF m 199 #[.val (.int p1), .val (.int p2), .val (.int p3), .val (.int p4), .val (.int p5), .val (.int p6), .val (.int vk), .val (.int (1 : Int32)), .val (.ref b201), .val (.int (1 : Int32))] [(.ref b201)])) rfl (by rw [hml]; rfl) (Steps.refl _) (argsL := []) (rest := []) (lenOf pd_0 rfl) rfl (by show 2 * 0 + _ ≤ _; exact Nat.le_of_eq rfl) (Jvm.hb hby at_199) (fun _ _ => ⟨rfl, e220, (by decide : 6 + 0 ≤ _), (by decide : 73 + 0 ≤ _)⟩)
  dsimp only [Pt.U, Pt.locs, Pt.cells, Pt.slots] at X221 l221 y221 z221 st221 hQ221
  have y221 : ka221 = 6 := y221
  have z221 : na221 = 73 := z221
  subst y221 z221
  obtain ⟨rfl, N221q, Kc221, E_b201_q, F_b201_firsts_q, F_b201_seconds_q, F_b201_below_q, F_b201_top_q, F_b201_used_q, F_b201_kept_q, F_b201_marks_q⟩ := hQ221
  have N221 : Fr n0 La221 := by rw [l221]; exact Fr.app N220 N221q
  have E_b206 := E_b206.keep Kc221
  have F_b206_items := F_b206_items.keep Kc221 (ninS (Ne.symm ne_b201_b206) nin0)
  have F_b206_size := F_b206_size.keep Kc221 (ninS (Ne.symm ne_b201_b206) nin0)
  have V_b207 := V_b207.keep Kc221 (ninS (Ne.symm ne_b201_b207) nin0)
  have V_b203 := V_b203.keep Kc221 (ninS (Ne.symm ne_b201_b203) nin0)
  have V_b204 := V_b204.keep Kc221 (ninS (Ne.symm ne_b201_b204) nin0)
  have V_b205 := V_b205.keep Kc221 (ninS (Ne.symm ne_b201_b205) nin0)
  have Zs := Nat.le_trans Zs Kc221.1
  have E_b201 := E_b201_q
  have F_b201_firsts := F_b201_firsts_q
  have F_b201_seconds := F_b201_seconds_q
  have F_b201_below := F_b201_below_q
  have F_b201_top := F_b201_top_q
  have F_b201_used := F_b201_used_q
  have F_b201_kept := F_b201_kept_q
  have F_b201_marks := F_b201_marks_q
  refine own_go (B := T221.setTop (mkF m 202 #[.val (.int p1), .val (.int p2), .val (.int p3), .val (.int p4), .val (.int p5), .val (.int p6), .val (.int vk), .val (.int (1 : Int32)), .val (.ref b201), .val (.int (1 : Int32))] [])) (fun t k => own_st st221 k) ?_
  refine own_go (B := T221.setTop (mkF m 204 #[.val (.int p1), .val (.int p2), .val (.int p3), .val (.int p4), .val (.int p5), .val (.int p6), .val (.int vk), .val (.int (1 : Int32)), .val (.ref b201), .val (.int (1 : Int32))] [(.int (1 : Int32))])) (fun t k => XS.iload X221.here hx rfl (Jvm.hb hby at_202) rfl k) ?_
  refine own_go (B := T221.setTop (mkF m 207 #[.val (.int p1), .val (.int p2), .val (.int p3), .val (.int p4), .val (.int p5), .val (.int p6), .val (.int vk), .val (.int (1 : Int32)), .val (.ref b201), .val (.int (1 : Int32))] [])) (fun t k => XS.ifNo X221.here hx rfl (Jvm.hb hby at_204) rfl ((if0 _ _).trans (feq (by decide : ¬ ((1 : Int32) = (0 : Int32)))).1) k) ?_
  refine own_go (B := T221.setTop (mkF m 209 #[.val (.int p1), .val (.int p2), .val (.int p3), .val (.int p4), .val (.int p5), .val (.int p6), .val (.int vk), .val (.int (1 : Int32)), .val (.ref b201), .val (.int (1 : Int32))] [(.int (1 : Int32))])) (fun t k => XS.iload X221.here hx rfl (Jvm.hb hby at_207) rfl k) ?_
  refine own_go (B := T221.setTop (mkF m 212 #[.val (.int p1), .val (.int p2), .val (.int p3), .val (.int p4), .val (.int p5), .val (.int p6), .val (.int vk), .val (.int (1 : Int32)), .val (.ref b201), .val (.int (1 : Int32))] [])) (fun t k => XS.ifNo X221.here hx rfl (Jvm.hb hby at_209) rfl ((if0 _ _).trans (feq (by decide : ¬ ((1 : Int32) = (0 : Int32)))).1) k) ?_
  refine own_go (B := T221.setTop (mkF m 214 #[.val (.int p1), .val (.int p2), .val (.int p3), .val (.int p4), .val (.int p5), .val (.int p6), .val (.int vk), .val (.int (1 : Int32)), .val (.ref b201), .val (.int (1 : Int32))] [(.ref b201)])) (fun t k => XS.aload X221.here hx rfl (Jvm.hb hby at_212) rfl rfl k) ?_
  obtain ⟨cq222, kq222, q222a, q222b, q222c⟩ := isOf hZ rfl E_b201
  obtain ⟨_, _, ⟨T222, La222, ka222, na222⟩, -, X222, ⟨Lc222, hQ222, l222, y222, z222⟩, st222⟩ := X221.virtualBack hx (y := (⟨"com/example/term_unifier/termunifier/IntPairStack", "isEmpty", "()Z"⟩ : MethodName)) (z := (⟨"com/example/term_unifier/termunifier/IntPairStack", "isEmpty", "()Z"⟩ : MethodName)) hown (mvT hZ (own_w hw 55 rfl)) (mvT hZ (own_w hw 56 rfl)) (notFace_of_selects (args := #[]) (mvT hZ (own_w hw 58 rfl))) (mvT hZ (own_w hw 58 rfl)) (mvT hZ (own_w hw 57 rfl)) (by decide) (backOf (W := 0) (rm8 l Z a0 hw [] b201 (-1 : Int32) (1 : Int32) T221.heap n0 Zs F_b201_top (by decide)) hZ (own_w hw 59 rfl) (own_w hw 2 rfl) (by decide) (by decide)) q222a q222c (g := (mkF m 214 #[.val (.int p1), .val (.int p2), .val (.int p3), .val (.int p4), .val (.int p5), .val (.int p6), .val (.int vk), .val (.int (1 : Int32)), .val (.ref b201), .val (.int (1 : Int32))] [(.ref b201)])) rfl (by rw [hml]; rfl) (Steps.refl _) (argsL := []) (rest := []) (lenOf pd_4 rfl) rfl (by show 2 * 0 + _ ≤ _; exact Nat.le_of_eq rfl) (Jvm.hb hby at_214) (fun _ _ => ⟨rfl, rfl, (by decide : 6 + 0 ≤ _), (by decide : 73 + 0 ≤ _)⟩)
  dsimp only [Pt.U, Pt.locs, Pt.cells, Pt.slots] at X222 l222 y222 z222 st222 hQ222
  have y222 : ka222 = 6 := y222
  have z222 : na222 = 73 := z222
  subst y222 z222
  obtain ⟨rfl, N222q, e222⟩ := hQ222
  have N222 : Fr n0 La222 := by rw [l222]; exact Fr.app N221 N222q
  refine own_go (B := T222.setTop (mkF m 217 #[.val (.int p1), .val (.int p2), .val (.int p3), .val (.int p4), .val (.int p5), .val (.int p6), .val (.int vk), .val (.int (1 : Int32)), .val (.ref b201), .val (.int (1 : Int32))] [(.int (1 : Int32))])) (fun t k => own_st st222 k) ?_
  refine own_go (B := T222.setTop (mkF m 220 #[.val (.int p1), .val (.int p2), .val (.int p3), .val (.int p4), .val (.int p5), .val (.int p6), .val (.int vk), .val (.int (1 : Int32)), .val (.ref b201), .val (.int (1 : Int32))] [])) (fun t k => XS.ifNo X222.here hx rfl (Jvm.hb hby at_217) rfl ((if0 _ _).trans (feq (by decide : ¬ ((1 : Int32) = (0 : Int32)))).1) k) ?_
  refine own_go (B := T222.setTop (mkF m 221 #[.val (.int p1), .val (.int p2), .val (.int p3), .val (.int p4), .val (.int p5), .val (.int p6), .val (.int vk), .val (.int (1 : Int32)), .val (.ref b201), .val (.int (1 : Int32))] [(.int (1 : Int32))])) (fun t k => XS.iconst X222.here hx rfl (Jvm.hb hby at_220) k) ?_
  refine own_go (B := T222.setTop (mkF m 225 #[.val (.int p1), .val (.int p2), .val (.int p3), .val (.int p4), .val (.int p5), .val (.int p6), .val (.int vk), .val (.int (1 : Int32)), .val (.ref b201), .val (.int (1 : Int32))] [(.int (1 : Int32))])) (fun t k => XS.goto X222.here hx rfl (pc0 := 221) (pc' := 225) rfl (Jvm.hb hby at_221) (by decide) (by decide) k) ?_
  refine own_go (B := T222.setTop (mkF m 227 #[.val (.int p1), .val (.int p2), .val (.int p3), .val (.int p4), .val (.int p5), .val (.int p6), .val (.int vk), .val (.int (1 : Int32)), .val (.ref b201), .val (.int (1 : Int32))] [])) (fun t k => XS.istore X222.here hx rfl (Jvm.hb hby at_225) rfl (l' := #[.val (.int p1), .val (.int p2), .val (.int p3), .val (.int p4), .val (.int p5), .val (.int p6), .val (.int vk), .val (.int (1 : Int32)), .val (.ref b201), .val (.int (1 : Int32))]) rfl k) ?_
  refine own_go (B := T222.setTop (mkF m 268 #[.val (.int p1), .val (.int p2), .val (.int p3), .val (.int p4), .val (.int p5), .val (.int p6), .val (.int vk), .val (.int (1 : Int32)), .val (.ref b201), .val (.int (1 : Int32))] [])) (fun t k => XS.goto X222.here hx rfl (pc0 := 227) (pc' := 268) rfl (Jvm.hb hby at_227) (by decide) (by decide) k) ?_
  refine own_go (B := T222.setTop (mkF m 270 #[.val (.int p1), .val (.int p2), .val (.int p3), .val (.int p4), .val (.int p5), .val (.int p6), .val (.int vk), .val (.int (1 : Int32)), .val (.ref b201), .val (.int (1 : Int32))] [(.int vk)])) (fun t k => XS.iload X222.here hx rfl (Jvm.hb hby at_268) rfl k) ?_
  refine own_go (B := T222.setTop (mkF m 273 #[.val (.int p1), .val (.int p2), .val (.int p3), .val (.int p4), .val (.int p5), .val (.int p6), .val (.int vk), .val (.int (1 : Int32)), .val (.ref b201), .val (.int (1 : Int32))] [])) (fun t k => XS.ifNo X222.here hx rfl (Jvm.hb hby at_270) rfl ((if0 _ _).trans (feq (by rw [hvk, hk]; decide)).1) k) ?_
  refine own_go (B := T222.setTop (mkF m 275 #[.val (.int p1), .val (.int p2), .val (.int p3), .val (.int p4), .val (.int p5), .val (.int p6), .val (.int vk), .val (.int (1 : Int32)), .val (.ref b201), .val (.int (1 : Int32))] [(.ref b201)])) (fun t k => XS.aload X222.here hx rfl (Jvm.hb hby at_273) rfl rfl k) ?_
  obtain ⟨cq223, kq223, q223a, q223b, q223c⟩ := isOf hZ e222 E_b201
  obtain ⟨_, _, ⟨T223, La223, ka223, na223⟩, -, X223, ⟨Lc223, hQ223, l223, y223, z223⟩, st223⟩ := X222.virtualBack hx (y := (⟨"com/example/term_unifier/termunifier/IntPairStack", "returnToMark", "()V"⟩ : MethodName)) (z := (⟨"com/example/term_unifier/termunifier/IntPairStack", "returnToMark", "()V"⟩ : MethodName)) hown (mvT hZ (own_w hw 70 rfl)) (mvT hZ (own_w hw 71 rfl)) (notFace_of_selects (args := #[]) (mvT hZ (own_w hw 73 rfl))) (mvT hZ (own_w hw 73 rfl)) (mvT hZ (own_w hw 72 rfl)) (by decide) (backOf (W := 0) (rm11 l Z a0 hw [] b201 b203 b204 b205 b206 b207 (-1 : Int32) (1 : Int32) (1 : Int32) (0 : Int32) (1 : Int32) (0 : Int32) (own_upd (own_upd (own_upd (fun _ => 0) 0 (0 : Int32)) 1 (1 : Int32)) 2 (0 : Int32)) T221.heap n0 Zs E_b201 F_b201_firsts F_b201_seconds F_b201_below F_b201_top F_b201_used F_b201_kept F_b201_marks E_b206 F_b206_items F_b206_size V_b207 g_b201 g_b206 ne_b201_b206 ne_b201_b207 ne_b206_b207 rfl rfl rfl) hZ (own_w hw 74 rfl) (own_w hw 2 rfl) (by decide) (by decide)) q223a q223c (g := (mkF m 275 #[.val (.int p1), .val (.int p2), .val (.int p3), .val (.int p4), .val (.int p5), .val (.int p6), .val (.int vk), .val (.int (1 : Int32)), .val (.ref b201), .val (.int (1 : Int32))] [(.ref b201)])) rfl (by rw [hml]; rfl) (Steps.refl _) (argsL := []) (rest := []) (lenOf pd_0 rfl) rfl (by show 2 * 0 + _ ≤ _; exact Nat.le_of_eq rfl) (Jvm.hb hby at_275) (fun _ _ => ⟨rfl, e222, (by decide : 6 + 0 ≤ _), (by decide : 73 + 0 ≤ _)⟩)
  dsimp only [Pt.U, Pt.locs, Pt.cells, Pt.slots] at X223 l223 y223 z223 st223 hQ223
  have y223 : ka223 = 6 := y223
  have z223 : na223 = 73 := z223
  subst y223 z223
  obtain ⟨rfl, N223q, Kc223, E_b201_q, F_b201_firsts_q, F_b201_seconds_q, F_b201_below_q, F_b201_top_q, F_b201_used_q, F_b201_kept_q, F_b201_marks_q, E_b206_q, F_b206_items_q, F_b206_size_q, V_b207_q⟩ := hQ223
  have N223 : Fr n0 La223 := by rw [l223]; exact Fr.app N222 N223q
  have V_b203 := V_b203.keep Kc223 (ninS (Ne.symm ne_b201_b203) (ninS ne_b203_b206 nin0))
  have V_b204 := V_b204.keep Kc223 (ninS (Ne.symm ne_b201_b204) (ninS ne_b204_b206 nin0))
  have V_b205 := V_b205.keep Kc223 (ninS (Ne.symm ne_b201_b205) (ninS ne_b205_b206 nin0))
  have Zs := Nat.le_trans Zs Kc223.1
  have E_b201 := E_b201_q
  have F_b201_firsts := F_b201_firsts_q
  have F_b201_seconds := F_b201_seconds_q
  have F_b201_below := F_b201_below_q
  have F_b201_top := F_b201_top_q
  have F_b201_used := F_b201_used_q
  have F_b201_kept := F_b201_kept_q
  have F_b201_marks := F_b201_marks_q
  have E_b206 := E_b206_q
  have F_b206_items := F_b206_items_q
  have F_b206_size := F_b206_size_q
  have V_b207 := V_b207_q
  refine own_go (B := T223.setTop (mkF m 278 #[.val (.int p1), .val (.int p2), .val (.int p3), .val (.int p4), .val (.int p5), .val (.int p6), .val (.int vk), .val (.int (1 : Int32)), .val (.ref b201), .val (.int (1 : Int32))] [])) (fun t k => own_st st223 k) ?_
  refine own_go (B := T223.setTop (mkF m 280 #[.val (.int p1), .val (.int p2), .val (.int p3), .val (.int p4), .val (.int p5), .val (.int p6), .val (.int vk), .val (.int (1 : Int32)), .val (.ref b201), .val (.int (1 : Int32))] [(.int vk)])) (fun t k => XS.iload X223.here hx rfl (Jvm.hb hby at_278) rfl k) ?_
  refine own_go (B := T223.setTop (mkF m 281 #[.val (.int p1), .val (.int p2), .val (.int p3), .val (.int p4), .val (.int p5), .val (.int p6), .val (.int vk), .val (.int (1 : Int32)), .val (.ref b201), .val (.int (1 : Int32))] [(.int (1 : Int32)), (.int vk)])) (fun t k => XS.iconst X223.here hx rfl (Jvm.hb hby at_280) k) ?_
  refine own_go (B := T223.setTop (mkF m 307 #[.val (.int p1), .val (.int p2), .val (.int p3), .val (.int p4), .val (.int p5), .val (.int p6), .val (.int vk), .val (.int (1 : Int32)), .val (.ref b201), .val (.int (1 : Int32))] [])) (fun t k => XS.icmpYes X223.here hx rfl (pc0 := 281) (pc' := 307) rfl (Jvm.hb hby at_281) rfl (feq (by rw [hvk, hk]; decide)).2 (by decide) (by decide) k) ?_
  refine own_go (B := T223.setTop (mkF m 309 #[.val (.int p1), .val (.int p2), .val (.int p3), .val (.int p4), .val (.int p5), .val (.int p6), .val (.int vk), .val (.int (1 : Int32)), .val (.ref b201), .val (.int (1 : Int32))] [(.int vk)])) (fun t k => XS.iload X223.here hx rfl (Jvm.hb hby at_307) rfl k) ?_
  refine own_go (B := T223.setTop (mkF m 310 #[.val (.int p1), .val (.int p2), .val (.int p3), .val (.int p4), .val (.int p5), .val (.int p6), .val (.int vk), .val (.int (1 : Int32)), .val (.ref b201), .val (.int (1 : Int32))] [(.int (2 : Int32)), (.int vk)])) (fun t k => XS.iconst X223.here hx rfl (Jvm.hb hby at_309) k) ?_
  refine own_go (B := T223.setTop (mkF m 313 #[.val (.int p1), .val (.int p2), .val (.int p3), .val (.int p4), .val (.int p5), .val (.int p6), .val (.int vk), .val (.int (1 : Int32)), .val (.ref b201), .val (.int (1 : Int32))] [])) (fun t k => XS.icmpNo X223.here hx rfl (Jvm.hb hby at_310) rfl (teq (hvk.trans hk)).2 k) ?_
  refine own_go (B := T223.setTop (mkF m 315 #[.val (.int p1), .val (.int p2), .val (.int p3), .val (.int p4), .val (.int p5), .val (.int p6), .val (.int vk), .val (.int (1 : Int32)), .val (.ref b201), .val (.int (1 : Int32))] [(.int (1 : Int32))])) (fun t k => XS.iload X223.here hx rfl (Jvm.hb hby at_313) rfl k) ?_
  refine own_go (B := T223.setTop (mkF m 318 #[.val (.int p1), .val (.int p2), .val (.int p3), .val (.int p4), .val (.int p5), .val (.int p6), .val (.int vk), .val (.int (1 : Int32)), .val (.ref b201), .val (.int (1 : Int32))] [])) (fun t k => XS.ifNo X223.here hx rfl (Jvm.hb hby at_315) rfl ((if0 _ _).trans (feq (by decide : ¬ ((1 : Int32) = (0 : Int32)))).1) k) ?_
  refine own_go (B := T223.setTop (mkF m 320 #[.val (.int p1), .val (.int p2), .val (.int p3), .val (.int p4), .val (.int p5), .val (.int p6), .val (.int vk), .val (.int (1 : Int32)), .val (.ref b201), .val (.int (1 : Int32))] [(.ref b201)])) (fun t k => XS.aload X223.here hx rfl (Jvm.hb hby at_318) rfl rfl k) ?_
  obtain ⟨cq224, kq224, q224a, q224b, q224c⟩ := isOf hZ rfl E_b201
  obtain ⟨_, _, ⟨T224, La224, ka224, na224⟩, -, X224, ⟨Lc224, hQ224, l224, y224, z224⟩, st224⟩ := X223.virtualBack hx (y := (⟨"com/example/term_unifier/termunifier/IntPairStack", "isEmpty", "()Z"⟩ : MethodName)) (z := (⟨"com/example/term_unifier/termunifier/IntPairStack", "isEmpty", "()Z"⟩ : MethodName)) hown (mvT hZ (own_w hw 55 rfl)) (mvT hZ (own_w hw 56 rfl)) (notFace_of_selects (args := #[]) (mvT hZ (own_w hw 58 rfl))) (mvT hZ (own_w hw 58 rfl)) (mvT hZ (own_w hw 57 rfl)) (by decide) (backOf (W := 0) (rm8 l Z a0 hw [] b201 (0 : Int32) (0 : Int32) T223.heap n0 Zs F_b201_top (by decide)) hZ (own_w hw 59 rfl) (own_w hw 2 rfl) (by decide) (by decide)) q224a q224c (g := (mkF m 320 #[.val (.int p1), .val (.int p2), .val (.int p3), .val (.int p4), .val (.int p5), .val (.int p6), .val (.int vk), .val (.int (1 : Int32)), .val (.ref b201), .val (.int (1 : Int32))] [(.ref b201)])) rfl (by rw [hml]; rfl) (Steps.refl _) (argsL := []) (rest := []) (lenOf pd_4 rfl) rfl (by show 2 * 0 + _ ≤ _; exact Nat.le_of_eq rfl) (Jvm.hb hby at_320) (fun _ _ => ⟨rfl, rfl, (by decide : 6 + 0 ≤ _), (by decide : 73 + 0 ≤ _)⟩)
  dsimp only [Pt.U, Pt.locs, Pt.cells, Pt.slots] at X224 l224 y224 z224 st224 hQ224
  have y224 : ka224 = 6 := y224
  have z224 : na224 = 73 := z224
  subst y224 z224
  obtain ⟨rfl, N224q, e224⟩ := hQ224
  have N224 : Fr n0 La224 := by rw [l224]; exact Fr.app N223 N224q
  refine own_go (B := T224.setTop (mkF m 323 #[.val (.int p1), .val (.int p2), .val (.int p3), .val (.int p4), .val (.int p5), .val (.int p6), .val (.int vk), .val (.int (1 : Int32)), .val (.ref b201), .val (.int (1 : Int32))] [(.int (0 : Int32))])) (fun t k => own_st st224 k) ?_
  refine own_go (B := T224.setTop (mkF m 326 #[.val (.int p1), .val (.int p2), .val (.int p3), .val (.int p4), .val (.int p5), .val (.int p6), .val (.int vk), .val (.int (1 : Int32)), .val (.ref b201), .val (.int (1 : Int32))] [])) (fun t k => XS.ifNo X224.here hx rfl (Jvm.hb hby at_323) rfl ((if0 _ _).trans (teq (by decide : (0 : Int32) = (0 : Int32))).2) k) ?_
  refine own_go (B := T224.setTop (mkF m 328 #[.val (.int p1), .val (.int p2), .val (.int p3), .val (.int p4), .val (.int p5), .val (.int p6), .val (.int vk), .val (.int (1 : Int32)), .val (.ref b201), .val (.int (1 : Int32))] [(.ref b201)])) (fun t k => XS.aload X224.here hx rfl (Jvm.hb hby at_326) rfl rfl k) ?_
  obtain ⟨cq225, kq225, q225a, q225b, q225c⟩ := isOf hZ e224 E_b201
  obtain ⟨_, _, ⟨T225, La225, ka225, na225⟩, -, X225, ⟨Lc225, hQ225, l225, y225, z225⟩, st225⟩ := X224.virtualBack hx (y := (⟨"com/example/term_unifier/termunifier/IntPairStack", "first", "()I"⟩ : MethodName)) (z := (⟨"com/example/term_unifier/termunifier/IntPairStack", "first", "()I"⟩ : MethodName)) hown (mvT hZ (own_w hw 60 rfl)) (mvT hZ (own_w hw 61 rfl)) (notFace_of_selects (args := #[]) (mvT hZ (own_w hw 63 rfl))) (mvT hZ (own_w hw 63 rfl)) (mvT hZ (own_w hw 62 rfl)) (by decide) (backOf (W := 0) (rm9 l Z a0 hw [] b201 b203 (0 : Int32) 0 (own_upd (own_upd (own_upd (fun _ => 0) 0 p1) 1 p3) 1 p5) p1 T223.heap n0 Zs F_b201_firsts F_b201_top V_b203 (by decide) (by decide) (by decide) rfl) hZ (own_w hw 64 rfl) (own_w hw 2 rfl) (by decide) (by decide)) q225a q225c (g := (mkF m 328 #[.val (.int p1), .val (.int p2), .val (.int p3), .val (.int p4), .val (.int p5), .val (.int p6), .val (.int vk), .val (.int (1 : Int32)), .val (.ref b201), .val (.int (1 : Int32))] [(.ref b201)])) rfl (by rw [hml]; rfl) (Steps.refl _) (argsL := []) (rest := []) (lenOf pd_2 rfl) rfl (by show 2 * 0 + _ ≤ _; exact Nat.le_of_eq rfl) (Jvm.hb hby at_328) (fun _ _ => ⟨rfl, e224, (by decide : 6 + 0 ≤ _), (by decide : 73 + 0 ≤ _)⟩)
  dsimp only [Pt.U, Pt.locs, Pt.cells, Pt.slots] at X225 l225 y225 z225 st225 hQ225
  have y225 : ka225 = 6 := y225
  have z225 : na225 = 73 := z225
  subst y225 z225
  obtain ⟨rfl, N225q, e225⟩ := hQ225
  have N225 : Fr n0 La225 := by rw [l225]; exact Fr.app N224 N225q
  refine own_go (B := T225.setTop (mkF m 331 #[.val (.int p1), .val (.int p2), .val (.int p3), .val (.int p4), .val (.int p5), .val (.int p6), .val (.int vk), .val (.int (1 : Int32)), .val (.ref b201), .val (.int (1 : Int32))] [(.int p1)])) (fun t k => own_st st225 k) ?_
  refine own_go (B := T225.setTop (mkF m 332 #[.val (.int p1), .val (.int p2), .val (.int p3), .val (.int p4), .val (.int p5), .val (.int p6), .val (.int vk), .val (.int (1 : Int32)), .val (.ref b201), .val (.int (1 : Int32))] [(.int p1), (.int p1)])) (fun t k => XS.iloadN X225.here hx rfl (Jvm.hb hby at_331) rfl k) ?_
  refine own_go (B := T225.setTop (mkF m 335 #[.val (.int p1), .val (.int p2), .val (.int p3), .val (.int p4), .val (.int p5), .val (.int p6), .val (.int vk), .val (.int (1 : Int32)), .val (.ref b201), .val (.int (1 : Int32))] [])) (fun t k => XS.icmpNo X225.here hx rfl (Jvm.hb hby at_332) rfl (teq (rfl : p1 = p1)).2 k) ?_
  refine own_go (B := T225.setTop (mkF m 337 #[.val (.int p1), .val (.int p2), .val (.int p3), .val (.int p4), .val (.int p5), .val (.int p6), .val (.int vk), .val (.int (1 : Int32)), .val (.ref b201), .val (.int (1 : Int32))] [(.ref b201)])) (fun t k => XS.aload X225.here hx rfl (Jvm.hb hby at_335) rfl rfl k) ?_
  obtain ⟨cq226, kq226, q226a, q226b, q226c⟩ := isOf hZ e225 E_b201
  obtain ⟨_, _, ⟨T226, La226, ka226, na226⟩, -, X226, ⟨Lc226, hQ226, l226, y226, z226⟩, st226⟩ := X225.virtualBack hx (y := (⟨"com/example/term_unifier/termunifier/IntPairStack", "second", "()I"⟩ : MethodName)) (z := (⟨"com/example/term_unifier/termunifier/IntPairStack", "second", "()I"⟩ : MethodName)) hown (mvT hZ (own_w hw 65 rfl)) (mvT hZ (own_w hw 66 rfl)) (notFace_of_selects (args := #[]) (mvT hZ (own_w hw 68 rfl))) (mvT hZ (own_w hw 68 rfl)) (mvT hZ (own_w hw 67 rfl)) (by decide) (backOf (W := 0) (rm10 l Z a0 hw [] b201 b204 (0 : Int32) 0 (own_upd (own_upd (own_upd (fun _ => 0) 0 p2) 1 p4) 1 (p5 ^^^ (-1 : Int32))) p2 T223.heap n0 Zs F_b201_seconds F_b201_top V_b204 (by decide) (by decide) (by decide) rfl) hZ (own_w hw 69 rfl) (own_w hw 2 rfl) (by decide) (by decide)) q226a q226c (g := (mkF m 337 #[.val (.int p1), .val (.int p2), .val (.int p3), .val (.int p4), .val (.int p5), .val (.int p6), .val (.int vk), .val (.int (1 : Int32)), .val (.ref b201), .val (.int (1 : Int32))] [(.ref b201)])) rfl (by rw [hml]; rfl) (Steps.refl _) (argsL := []) (rest := []) (lenOf pd_2 rfl) rfl (by show 2 * 0 + _ ≤ _; exact Nat.le_of_eq rfl) (Jvm.hb hby at_337) (fun _ _ => ⟨rfl, e225, (by decide : 6 + 0 ≤ _), (by decide : 73 + 0 ≤ _)⟩)
  dsimp only [Pt.U, Pt.locs, Pt.cells, Pt.slots] at X226 l226 y226 z226 st226 hQ226
  have y226 : ka226 = 6 := y226
  have z226 : na226 = 73 := z226
  subst y226 z226
  obtain ⟨rfl, N226q, e226⟩ := hQ226
  have N226 : Fr n0 La226 := by rw [l226]; exact Fr.app N225 N226q
  refine own_go (B := T226.setTop (mkF m 340 #[.val (.int p1), .val (.int p2), .val (.int p3), .val (.int p4), .val (.int p5), .val (.int p6), .val (.int vk), .val (.int (1 : Int32)), .val (.ref b201), .val (.int (1 : Int32))] [(.int p2)])) (fun t k => own_st st226 k) ?_
  refine own_go (B := T226.setTop (mkF m 341 #[.val (.int p1), .val (.int p2), .val (.int p3), .val (.int p4), .val (.int p5), .val (.int p6), .val (.int vk), .val (.int (1 : Int32)), .val (.ref b201), .val (.int (1 : Int32))] [(.int p2), (.int p2)])) (fun t k => XS.iloadN X226.here hx rfl (Jvm.hb hby at_340) rfl k) ?_
  refine own_go (B := T226.setTop (mkF m 344 #[.val (.int p1), .val (.int p2), .val (.int p3), .val (.int p4), .val (.int p5), .val (.int p6), .val (.int vk), .val (.int (1 : Int32)), .val (.ref b201), .val (.int (1 : Int32))] [])) (fun t k => XS.icmpNo X226.here hx rfl (Jvm.hb hby at_341) rfl (teq (rfl : p2 = p2)).2 k) ?_
  refine own_go (B := T226.setTop (mkF m 345 #[.val (.int p1), .val (.int p2), .val (.int p3), .val (.int p4), .val (.int p5), .val (.int p6), .val (.int vk), .val (.int (1 : Int32)), .val (.ref b201), .val (.int (1 : Int32))] [(.int (1 : Int32))])) (fun t k => XS.iconst X226.here hx rfl (Jvm.hb hby at_344) k) ?_
  refine own_go (B := T226.setTop (mkF m 349 #[.val (.int p1), .val (.int p2), .val (.int p3), .val (.int p4), .val (.int p5), .val (.int p6), .val (.int vk), .val (.int (1 : Int32)), .val (.ref b201), .val (.int (1 : Int32))] [(.int (1 : Int32))])) (fun t k => XS.goto X226.here hx rfl (pc0 := 345) (pc' := 349) rfl (Jvm.hb hby at_345) (by decide) (by decide) k) ?_
  refine own_go (B := T226.setTop (mkF m 351 #[.val (.int p1), .val (.int p2), .val (.int p3), .val (.int p4), .val (.int p5), .val (.int p6), .val (.int vk), .val (.int (1 : Int32)), .val (.ref b201), .val (.int (1 : Int32))] [])) (fun t k => XS.istore X226.here hx rfl (Jvm.hb hby at_349) rfl (l' := #[.val (.int p1), .val (.int p2), .val (.int p3), .val (.int p4), .val (.int p5), .val (.int p6), .val (.int vk), .val (.int (1 : Int32)), .val (.ref b201), .val (.int (1 : Int32))]) rfl k) ?_
  refine own_go (B := T226.setTop (mkF m 435 #[.val (.int p1), .val (.int p2), .val (.int p3), .val (.int p4), .val (.int p5), .val (.int p6), .val (.int vk), .val (.int (1 : Int32)), .val (.ref b201), .val (.int (1 : Int32))] [])) (fun t k => XS.goto X226.here hx rfl (pc0 := 351) (pc' := 435) rfl (Jvm.hb hby at_351) (by decide) (by decide) k) ?_
  refine own_go (B := T226.setTop (mkF m 437 #[.val (.int p1), .val (.int p2), .val (.int p3), .val (.int p4), .val (.int p5), .val (.int p6), .val (.int vk), .val (.int (1 : Int32)), .val (.ref b201), .val (.int (1 : Int32))] [(.int (1 : Int32))])) (fun t k => XS.iload X226.here hx rfl (Jvm.hb hby at_435) rfl k) ?_
  refine own_out X226 (v := (some (.int (1 : Int32)))) (fun h => by rw [Bd.returns] at h; cases h) Bd.notSynchronized (fun fs hr => retOut X226 hx (t := .boolean) Bd.returns rfl (by first | exact Or.inl ⟨rfl, by simp, _, rfl⟩) (Jvm.hb hby at_437) hr) ?_ (by decide) (by decide)
  show own_Q0 Z p1 p2 p3 p4 p5 p6 h0 n0 (some (.int (1 : Int32))) T226.heap _
  rw [e226]
  exact ⟨rfl, N226⟩
theorem ef_0_31 (m : MethodId) (x0 : Int32) (x1 : Int32) (x2 : Int32) (x3 : Int32) (x4 : Int32) (x5 : Int32) : entryFrame m #[(.int x0), (.int x1), (.int x2), (.int x3), (.int x4), (.int x5)] maxLocals = mkF m 0 #[.val (.int x0), .val (.int x1), .val (.int x2), .val (.int x3), .val (.int x4), .val (.int x5), .unset, .unset, .unset, .unset] [] := by first | (simp [entryFrame, mkF, argsToLocals, Value.category, maxLocals]; done) | rfl
set_option maxRecDepth 65536 in
set_option maxHeartbeats 40000000 in
theorem rm0_31 (l : Launch) (Z : State) (a0 : Array Value) (hw : ∀ d ∈ tables_1, d.before a0 Z = true) (ws : List Jvm.Cond) (p1 : Int32) (p2 : Int32) (p3 : Int32) (p4 : Int32) (p5 : Int32) (p6 : Int32) (h0 : Heap) (n0 : Nat) (Z0 : n0 ≤ h0.size) (hk : (p6 &&& (3 : Int32)) = (3 : Int32)) (ht : (p6 &&& (4 : Int32)) = (0 : Int32)) :
    MetFree l x (head1 (Jvm.Cond.code x code maxLocals ret :: ws) room_1) (fun a U => a = #[(.int p1), (.int p2), (.int p3), (.int p4), (.int p5), (.int p6)] ∧ Z.Warmed39 U.vm ∧ U.heap = h0) (fun _ _ _ _ _ => True) (fun _ U o U' => ∃ v L, o = .returned v ∧ own_Q0 Z p1 p2 p3 p4 p5 p6 h0 n0 v U'.heap L ∧ FrameEnd U o U' L room_1.cells room_1.slots) := by
  refine MetFree.of_bodySF (plainFor_of_name pn_com_example_term_unifier_termunifier_IntPairStackPopPinLaw) hisR ?_
  intro p e s m args below meth c s₁ Bd hml0 hP hK
  obtain ⟨rfl, hZ, hh⟩ := hP
  have hx := Bd.exec
  have hby := Bd.bytes
  have hml : c.maxLocals = 10 := hml0
  have hown : s.vm.findClass "com/example/term_unifier/termunifier/IntPairStackPopPinLaw" = some m.cls := findClass_of_methodNamed Bd.named
  have hnm := (name_of_methodNamed Bd.named Bd.method).1
  have X0 : Stand p l e room_1 s m #[(.int p1), (.int p2), (.int p3), (.int p4), (.int p5), (.int p6)] below meth c s₁ [] 0 0 := Stand.of_body Bd
  have e0 : s₁.heap = h0 := by rw [← hh, Bd.state]; rfl
  have N0 := Fr.nil n0
  have Zs := Z0
  show own_Goes p e below s (own_Q0 Z p1 p2 p3 p4 p5 p6 h0 n0) room_1.cells room_1.slots _
  refine own_go (B := s₁.setTop (mkF m 0 #[.val (.int p1), .val (.int p2), .val (.int p3), .val (.int p4), .val (.int p5), .val (.int p6), .unset, .unset, .unset, .unset] [])) (fun t k => castTop (ef_0_31 m p1 p2 p3 p4 p5 p6) k) ?_
  refine own_go (B := s₁.setTop (mkF m 2 #[.val (.int p1), .val (.int p2), .val (.int p3), .val (.int p4), .val (.int p5), .val (.int p6), .unset, .unset, .unset, .unset] [(.int p6)])) (fun t k => XS.iload X0.here hx rfl (Jvm.hb hby at_0) rfl k) ?_
  refine own_go (B := s₁.setTop (mkF m 3 #[.val (.int p1), .val (.int p2), .val (.int p3), .val (.int p4), .val (.int p5), .val (.int p6), .unset, .unset, .unset, .unset] [(.int (3 : Int32)), (.int p6)])) (fun t k => XS.iconst X0.here hx rfl (Jvm.hb hby at_2) k) ?_
  refine own_go (B := s₁.setTop (mkF m 4 #[.val (.int p1), .val (.int p2), .val (.int p3), .val (.int p4), .val (.int p5), .val (.int p6), .unset, .unset, .unset, .unset] [(.int (p6 &&& (3 : Int32)))])) (fun t k => XS.iand X0.here hx rfl (Jvm.hb hby at_3) rfl k) ?_
  obtain ⟨vk, hvk⟩ : ∃ z : Int32, z = (p6 &&& (3 : Int32)) := ⟨_, rfl⟩
  rw [← hvk]
  refine own_go (B := s₁.setTop (mkF m 6 #[.val (.int p1), .val (.int p2), .val (.int p3), .val (.int p4), .val (.int p5), .val (.int p6), .val (.int vk), .unset, .unset, .unset] [])) (fun t k => XS.istore X0.here hx rfl (Jvm.hb hby at_4) rfl (l' := #[.val (.int p1), .val (.int p2), .val (.int p3), .val (.int p4), .val (.int p5), .val (.int p6), .val (.int vk), .unset, .unset, .unset]) rfl k) ?_
  refine own_go (B := s₁.setTop (mkF m 8 #[.val (.int p1), .val (.int p2), .val (.int p3), .val (.int p4), .val (.int p5), .val (.int p6), .val (.int vk), .unset, .unset, .unset] [(.int p6)])) (fun t k => XS.iload X0.here hx rfl (Jvm.hb hby at_6) rfl k) ?_
  refine own_go (B := s₁.setTop (mkF m 9 #[.val (.int p1), .val (.int p2), .val (.int p3), .val (.int p4), .val (.int p5), .val (.int p6), .val (.int vk), .unset, .unset, .unset] [(.int (4 : Int32)), (.int p6)])) (fun t k => XS.iconst X0.here hx rfl (Jvm.hb hby at_8) k) ?_
  refine own_go (B := s₁.setTop (mkF m 10 #[.val (.int p1), .val (.int p2), .val (.int p3), .val (.int p4), .val (.int p5), .val (.int p6), .val (.int vk), .unset, .unset, .unset] [(.int (p6 &&& (4 : Int32)))])) (fun t k => XS.iand X0.here hx rfl (Jvm.hb hby at_9) rfl k) ?_
  refine own_go (B := s₁.setTop (mkF m 17 #[.val (.int p1), .val (.int p2), .val (.int p3), .val (.int p4), .val (.int p5), .val (.int p6), .val (.int vk), .unset, .unset, .unset] [])) (fun t k => XS.ifYes X0.here hx rfl (pc0 := 10) (pc' := 17) rfl (Jvm.hb hby at_10) rfl ((if0 _ _).trans (teq ht).1) (by decide) (by decide) k) ?_
  refine own_go (B := s₁.setTop (mkF m 18 #[.val (.int p1), .val (.int p2), .val (.int p3), .val (.int p4), .val (.int p5), .val (.int p6), .val (.int vk), .unset, .unset, .unset] [(.int (0 : Int32))])) (fun t k => XS.iconst X0.here hx rfl (Jvm.hb hby at_17) k) ?_
  refine own_go (B := s₁.setTop (mkF m 20 #[.val (.int p1), .val (.int p2), .val (.int p3), .val (.int p4), .val (.int p5), .val (.int p6), .val (.int vk), .val (.int (0 : Int32)), .unset, .unset] [])) (fun t k => XS.istore X0.here hx rfl (Jvm.hb hby at_18) rfl (l' := #[.val (.int p1), .val (.int p2), .val (.int p3), .val (.int p4), .val (.int p5), .val (.int p6), .val (.int vk), .val (.int (0 : Int32)), .unset, .unset]) rfl k) ?_
  obtain ⟨T227, h227, X227, e227, E227, A227, D227, -, st227⟩ := newO X0 hx hZ hown (own_w hw 0 rfl) (own_w hw 1 rfl) (own_w hw 2 rfl) e0 (g := (mkF m 20 #[.val (.int p1), .val (.int p2), .val (.int p3), .val (.int p4), .val (.int p5), .val (.int p6), .val (.int vk), .val (.int (0 : Int32)), .unset, .unset] [])) rfl (Jvm.hb hby at_20) (by decide) (by decide)
  obtain ⟨b227, g227⟩ : ∃ z, z = h0.size := ⟨_, rfl⟩
  rw [← g227] at A227 D227 st227
  have g_b227 : n0 ≤ b227 := Nat.le_trans Zs (Nat.le_of_eq g227.symm)
  have Zs := Nat.le_trans Zs E227.1
  have E_b227 := A227
  have F_b227_firsts : Fld Z h227 b227 "com/example/term_unifier/termunifier/IntPairStack" "firsts" "[I" .null := D227 (Or.inl (own_w hw 11 rfl)) (ty := (.array .int)) (by decide)
  have F_b227_seconds : Fld Z h227 b227 "com/example/term_unifier/termunifier/IntPairStack" "seconds" "[I" .null := D227 (Or.inl (own_w hw 13 rfl)) (ty := (.array .int)) (by decide)
  have F_b227_below : Fld Z h227 b227 "com/example/term_unifier/termunifier/IntPairStack" "below" "[I" .null := D227 (Or.inl (own_w hw 15 rfl)) (ty := (.array .int)) (by decide)
  have F_b227_top : Fld Z h227 b227 "com/example/term_unifier/termunifier/IntPairStack" "top" "I" (.int (0 : Int32)) := D227 (Or.inl (own_w hw 17 rfl)) (ty := .int) (by decide)
  have F_b227_marks : Fld Z h227 b227 "com/example/term_unifier/termunifier/IntPairStack" "marks" "Lcom/example/term_unifier/termunifier/IntStack;" .null := D227 (Or.inr (own_w hw 28 rfl)) (ty := (.object "com/example/term_unifier/termunifier/IntStack")) (by decide)
  have F_b227_used : Fld Z h227 b227 "com/example/term_unifier/termunifier/IntPairStack" "used" "I" (.int (0 : Int32)) := D227 (Or.inl (own_w hw 35 rfl)) (ty := .int) (by decide)
  have F_b227_kept : Fld Z h227 b227 "com/example/term_unifier/termunifier/IntPairStack" "kept" "I" (.int (0 : Int32)) := D227 (Or.inl (own_w hw 49 rfl)) (ty := .int) (by decide)
  refine own_go (B := T227.setTop (mkF m 23 #[.val (.int p1), .val (.int p2), .val (.int p3), .val (.int p4), .val (.int p5), .val (.int p6), .val (.int vk), .val (.int (0 : Int32)), .unset, .unset] [(.ref b227)])) (fun t k => st227 _ k) ?_
  refine own_go (B := T227.setTop (mkF m 24 #[.val (.int p1), .val (.int p2), .val (.int p3), .val (.int p4), .val (.int p5), .val (.int p6), .val (.int vk), .val (.int (0 : Int32)), .unset, .unset] [(.ref b227), (.ref b227)])) (fun t k => XS.dup X227.here hx rfl (Jvm.hb hby at_23) rfl rfl k) ?_
  obtain ⟨_, _, ⟨T228, La228, ka228, na228⟩, -, X228, ⟨Lc228, hQ228, l228, y228, z228⟩, st228⟩ := X227.specialBack hx (y := (⟨"com/example/term_unifier/termunifier/IntPairStack", "<init>", "()V"⟩ : MethodName)) rfl hown (mvT hZ (own_w hw 3 rfl)) (mvT hZ (own_w hw 4 rfl)) (mvT hZ (own_w hw 5 rfl)) (by decide) (backOf (W := 1) (rm1 l Z a0 hw [] b227 h227 n0 Zs E_b227 F_b227_firsts F_b227_seconds F_b227_below F_b227_top F_b227_used F_b227_kept F_b227_marks g_b227) hZ (own_w hw 5 rfl) (own_w hw 2 rfl) (by decide) (by decide)) (g := (mkF m 24 #[.val (.int p1), .val (.int p2), .val (.int p3), .val (.int p4), .val (.int p5), .val (.int p6), .val (.int vk), .val (.int (0 : Int32)), .unset, .unset] [(.ref b227), (.ref b227)])) rfl (by rw [hml]; rfl) (Steps.refl _) (a := b227) (argsL := []) (rest := [(.ref b227)]) (lenOf pd_0 rfl) rfl (by show 2 * 0 + _ ≤ _; exact Nat.le_of_eq rfl) (Jvm.hb hby at_24) (fun _ _ => ⟨rfl, e227, (by decide : 1 + 5 ≤ _), (by decide : 7 + 66 ≤ _)⟩)
  dsimp only [Pt.U, Pt.locs, Pt.cells, Pt.slots] at X228 l228 y228 z228 st228 hQ228
  have y228 : ka228 = 6 := y228
  have z228 : na228 = 73 := z228
  subst y228 z228
  obtain ⟨rfl, N228q, b229, sq_b229, b230, sq_b230, b231, sq_b231, b232, sq_b232, b233, sq_b233, ne_b229_b230, ne_b229_b231, ne_b229_b232, ne_b229_b233, ne_b230_b231, ne_b230_b232, ne_b230_b233, ne_b231_b232, ne_b231_b233, ne_b232_b233, Kc228, E_b227_q, F_b227_firsts_q, F_b227_seconds_q, F_b227_below_q, F_b227_top_q, F_b227_used_q, F_b227_kept_q, F_b227_marks_q, V_b229_q, V_b230_q, V_b231_q, E_b232_q, F_b232_items_q, F_b232_size_q, V_b233_q⟩ := hQ228
  have g_b229 : n0 ≤ b229 := Nat.le_trans Zs sq_b229
  have ne_b227_b229 : b227 ≠ b229 := Nat.ne_of_lt (Nat.lt_of_lt_of_le E_b227.lt sq_b229)
  have g_b230 : n0 ≤ b230 := Nat.le_trans Zs sq_b230
  have ne_b227_b230 : b227 ≠ b230 := Nat.ne_of_lt (Nat.lt_of_lt_of_le E_b227.lt sq_b230)
  have g_b231 : n0 ≤ b231 := Nat.le_trans Zs sq_b231
  have ne_b227_b231 : b227 ≠ b231 := Nat.ne_of_lt (Nat.lt_of_lt_of_le E_b227.lt sq_b231)
  have g_b232 : n0 ≤ b232 := Nat.le_trans Zs sq_b232
  have ne_b227_b232 : b227 ≠ b232 := Nat.ne_of_lt (Nat.lt_of_lt_of_le E_b227.lt sq_b232)
  have g_b233 : n0 ≤ b233 := Nat.le_trans Zs sq_b233
  have ne_b227_b233 : b227 ≠ b233 := Nat.ne_of_lt (Nat.lt_of_lt_of_le E_b227.lt sq_b233)
  have N228 : Fr n0 La228 := by rw [l228]; exact Fr.app N0 N228q
  have Zs := Nat.le_trans Zs Kc228.1
  have E_b227 := E_b227_q
  have F_b227_firsts := F_b227_firsts_q
  have F_b227_seconds := F_b227_seconds_q
  have F_b227_below := F_b227_below_q
  have F_b227_top := F_b227_top_q
  have F_b227_used := F_b227_used_q
  have F_b227_kept := F_b227_kept_q
  have F_b227_marks := F_b227_marks_q
  have V_b229 := V_b229_q
  have V_b230 := V_b230_q
  have V_b231 := V_b231_q
  have E_b232 := E_b232_q
  have F_b232_items := F_b232_items_q
  have F_b232_size := F_b232_size_q
  have V_b233 := V_b233_q
  refine own_go (B := T228.setTop (mkF m 27 #[.val (.int p1), .val (.int p2), .val (.int p3), .val (.int p4), .val (.int p5), .val (.int p6), .val (.int vk), .val (.int (0 : Int32)), .unset, .unset] [(.ref b227)])) (fun t k => own_st st228 k) ?_
  refine own_go (B := T228.setTop (mkF m 29 #[.val (.int p1), .val (.int p2), .val (.int p3), .val (.int p4), .val (.int p5), .val (.int p6), .val (.int vk), .val (.int (0 : Int32)), .val (.ref b227), .unset] [])) (fun t k => XS.astore X228.here hx rfl (Jvm.hb hby at_27) rfl rfl (l' := #[.val (.int p1), .val (.int p2), .val (.int p3), .val (.int p4), .val (.int p5), .val (.int p6), .val (.int vk), .val (.int (0 : Int32)), .val (.ref b227), .unset]) rfl k) ?_
  refine own_go (B := T228.setTop (mkF m 31 #[.val (.int p1), .val (.int p2), .val (.int p3), .val (.int p4), .val (.int p5), .val (.int p6), .val (.int vk), .val (.int (0 : Int32)), .val (.ref b227), .unset] [(.int vk)])) (fun t k => XS.iload X228.here hx rfl (Jvm.hb hby at_29) rfl k) ?_
  refine own_go (B := T228.setTop (mkF m 32 #[.val (.int p1), .val (.int p2), .val (.int p3), .val (.int p4), .val (.int p5), .val (.int p6), .val (.int vk), .val (.int (0 : Int32)), .val (.ref b227), .unset] [(.int (1 : Int32)), (.int vk)])) (fun t k => XS.iconst X228.here hx rfl (Jvm.hb hby at_31) k) ?_
  refine own_go (B := T228.setTop (mkF m 40 #[.val (.int p1), .val (.int p2), .val (.int p3), .val (.int p4), .val (.int p5), .val (.int p6), .val (.int vk), .val (.int (0 : Int32)), .val (.ref b227), .unset] [])) (fun t k => XS.icmpYes X228.here hx rfl (pc0 := 32) (pc' := 40) rfl (Jvm.hb hby at_32) rfl (feq (by rw [hvk, hk]; decide)).2 (by decide) (by decide) k) ?_
  refine own_go (B := T228.setTop (mkF m 42 #[.val (.int p1), .val (.int p2), .val (.int p3), .val (.int p4), .val (.int p5), .val (.int p6), .val (.int vk), .val (.int (0 : Int32)), .val (.ref b227), .unset] [(.ref b227)])) (fun t k => XS.aload X228.here hx rfl (Jvm.hb hby at_40) rfl rfl k) ?_
  refine own_go (B := T228.setTop (mkF m 43 #[.val (.int p1), .val (.int p2), .val (.int p3), .val (.int p4), .val (.int p5), .val (.int p6), .val (.int vk), .val (.int (0 : Int32)), .val (.ref b227), .unset] [(.int p1), (.ref b227)])) (fun t k => XS.iloadN X228.here hx rfl (Jvm.hb hby at_42) rfl k) ?_
  refine own_go (B := T228.setTop (mkF m 44 #[.val (.int p1), .val (.int p2), .val (.int p3), .val (.int p4), .val (.int p5), .val (.int p6), .val (.int vk), .val (.int (0 : Int32)), .val (.ref b227), .unset] [(.int p2), (.int p1), (.ref b227)])) (fun t k => XS.iloadN X228.here hx rfl (Jvm.hb hby at_43) rfl k) ?_
  obtain ⟨cq234, kq234, q234a, q234b, q234c⟩ := isOf hZ rfl E_b227
  obtain ⟨_, _, ⟨T234, La234, ka234, na234⟩, -, X234, ⟨Lc234, hQ234, l234, y234, z234⟩, st234⟩ := X228.virtualBack hx (y := (⟨"com/example/term_unifier/termunifier/IntPairStack", "push", "(II)V"⟩ : MethodName)) (z := (⟨"com/example/term_unifier/termunifier/IntPairStack", "push", "(II)V"⟩ : MethodName)) hown (mvT hZ (own_w hw 29 rfl)) (mvT hZ (own_w hw 30 rfl)) (notFace_of_selects (args := #[]) (mvT hZ (own_w hw 32 rfl))) (mvT hZ (own_w hw 32 rfl)) (mvT hZ (own_w hw 31 rfl)) (by decide) (backOf (W := 0) (rm4 l Z a0 hw [] b227 p1 p2 b229 b230 b231 b232 (-1 : Int32) (0 : Int32) (0 : Int32) (1 : Int32) 0 (fun _ => 0) (fun _ => 0) (fun _ => 0) T228.heap n0 Zs E_b227 F_b227_firsts F_b227_seconds F_b227_below F_b227_top F_b227_used F_b227_kept F_b227_marks V_b229 V_b230 V_b231 g_b227 g_b229 g_b230 g_b231 ne_b227_b229 ne_b227_b230 ne_b227_b231 ne_b229_b230 ne_b229_b231 ne_b230_b231 (by decide) (by decide) (by decide) (by decide) (by decide)) hZ (own_w hw 33 rfl) (own_w hw 2 rfl) (by decide) (by decide)) q234a q234c (g := (mkF m 44 #[.val (.int p1), .val (.int p2), .val (.int p3), .val (.int p4), .val (.int p5), .val (.int p6), .val (.int vk), .val (.int (0 : Int32)), .val (.ref b227), .unset] [(.int p2), (.int p1), (.ref b227)])) rfl (by rw [hml]; rfl) (Steps.refl _) (argsL := [(.int p1), (.int p2)]) (rest := []) (lenOf pd_3 rfl) rfl (by show 2 * 0 + _ ≤ _; exact Nat.le_of_eq rfl) (Jvm.hb hby at_44) (fun _ _ => ⟨rfl, rfl, (by decide : 6 + 0 ≤ _), (by decide : 73 + 0 ≤ _)⟩)
  dsimp only [Pt.U, Pt.locs, Pt.cells, Pt.slots] at X234 l234 y234 z234 st234 hQ234
  have y234 : ka234 = 6 := y234
  have z234 : na234 = 73 := z234
  subst y234 z234
  obtain ⟨rfl, N234q, Kc234, E_b227_q, F_b227_firsts_q, F_b227_seconds_q, F_b227_below_q, F_b227_top_q, F_b227_used_q, F_b227_kept_q, F_b227_marks_q, V_b229_q, V_b230_q, V_b231_q⟩ := hQ234
  have N234 : Fr n0 La234 := by rw [l234]; exact Fr.app N228 N234q
  have E_b232 := E_b232.keep Kc234
  have F_b232_items := F_b232_items.keep Kc234 (ninS (Ne.symm ne_b227_b232) (ninS (Ne.symm ne_b229_b232) (ninS (Ne.symm ne_b230_b232) (ninS (Ne.symm ne_b231_b232) nin0))))
  have F_b232_size := F_b232_size.keep Kc234 (ninS (Ne.symm ne_b227_b232) (ninS (Ne.symm ne_b229_b232) (ninS (Ne.symm ne_b230_b232) (ninS (Ne.symm ne_b231_b232) nin0))))
  have V_b233 := V_b233.keep Kc234 (ninS (Ne.symm ne_b227_b233) (ninS (Ne.symm ne_b229_b233) (ninS (Ne.symm ne_b230_b233) (ninS (Ne.symm ne_b231_b233) nin0))))
  have Zs := Nat.le_trans Zs Kc234.1
  have E_b227 := E_b227_q
  have F_b227_firsts := F_b227_firsts_q
  have F_b227_seconds := F_b227_seconds_q
  have F_b227_below := F_b227_below_q
  have F_b227_top := F_b227_top_q
  have F_b227_used := F_b227_used_q
  have F_b227_kept := F_b227_kept_q
  have F_b227_marks := F_b227_marks_q
  have V_b229 := V_b229_q
  have V_b230 := V_b230_q
  have V_b231 := V_b231_q
  refine own_go (B := T234.setTop (mkF m 47 #[.val (.int p1), .val (.int p2), .val (.int p3), .val (.int p4), .val (.int p5), .val (.int p6), .val (.int vk), .val (.int (0 : Int32)), .val (.ref b227), .unset] [])) (fun t k => own_st st234 k) ?_
  refine own_go (B := T234.setTop (mkF m 49 #[.val (.int p1), .val (.int p2), .val (.int p3), .val (.int p4), .val (.int p5), .val (.int p6), .val (.int vk), .val (.int (0 : Int32)), .val (.ref b227), .unset] [(.int vk)])) (fun t k => XS.iload X234.here hx rfl (Jvm.hb hby at_47) rfl k) ?_
  refine own_go (B := T234.setTop (mkF m 50 #[.val (.int p1), .val (.int p2), .val (.int p3), .val (.int p4), .val (.int p5), .val (.int p6), .val (.int vk), .val (.int (0 : Int32)), .val (.ref b227), .unset] [(.int (2 : Int32)), (.int vk)])) (fun t k => XS.iconst X234.here hx rfl (Jvm.hb hby at_49) k) ?_
  refine own_go (B := T234.setTop (mkF m 58 #[.val (.int p1), .val (.int p2), .val (.int p3), .val (.int p4), .val (.int p5), .val (.int p6), .val (.int vk), .val (.int (0 : Int32)), .val (.ref b227), .unset] [])) (fun t k => XS.icmpYes X234.here hx rfl (pc0 := 50) (pc' := 58) rfl (Jvm.hb hby at_50) rfl (feq (by rw [hvk, hk]; decide)).2 (by decide) (by decide) k) ?_
  refine own_go (B := T234.setTop (mkF m 60 #[.val (.int p1), .val (.int p2), .val (.int p3), .val (.int p4), .val (.int p5), .val (.int p6), .val (.int vk), .val (.int (0 : Int32)), .val (.ref b227), .unset] [(.ref b227)])) (fun t k => XS.aload X234.here hx rfl (Jvm.hb hby at_58) rfl rfl k) ?_
  refine own_go (B := T234.setTop (mkF m 61 #[.val (.int p1), .val (.int p2), .val (.int p3), .val (.int p4), .val (.int p5), .val (.int p6), .val (.int vk), .val (.int (0 : Int32)), .val (.ref b227), .unset] [(.int p3), (.ref b227)])) (fun t k => XS.iloadN X234.here hx rfl (Jvm.hb hby at_60) rfl k) ?_
  refine own_go (B := T234.setTop (mkF m 62 #[.val (.int p1), .val (.int p2), .val (.int p3), .val (.int p4), .val (.int p5), .val (.int p6), .val (.int vk), .val (.int (0 : Int32)), .val (.ref b227), .unset] [(.int p4), (.int p3), (.ref b227)])) (fun t k => XS.iloadN X234.here hx rfl (Jvm.hb hby at_61) rfl k) ?_
  obtain ⟨cq235, kq235, q235a, q235b, q235c⟩ := isOf hZ rfl E_b227
  obtain ⟨_, _, ⟨T235, La235, ka235, na235⟩, -, X235, ⟨Lc235, hQ235, l235, y235, z235⟩, st235⟩ := X234.virtualBack hx (y := (⟨"com/example/term_unifier/termunifier/IntPairStack", "push", "(II)V"⟩ : MethodName)) (z := (⟨"com/example/term_unifier/termunifier/IntPairStack", "push", "(II)V"⟩ : MethodName)) hown (mvT hZ (own_w hw 29 rfl)) (mvT hZ (own_w hw 30 rfl)) (notFace_of_selects (args := #[]) (mvT hZ (own_w hw 32 rfl))) (mvT hZ (own_w hw 32 rfl)) (mvT hZ (own_w hw 31 rfl)) (by decide) (backOf (W := 0) (rm4 l Z a0 hw [] b227 p3 p4 b229 b230 b231 b232 (0 : Int32) (1 : Int32) (0 : Int32) (2 : Int32) 1 (own_upd (fun _ => 0) 0 p1) (own_upd (fun _ => 0) 0 p2) (own_upd (fun _ => 0) 0 (-1 : Int32)) T234.heap n0 Zs E_b227 F_b227_firsts F_b227_seconds F_b227_below F_b227_top F_b227_used F_b227_kept F_b227_marks V_b229 V_b230 V_b231 g_b227 g_b229 g_b230 g_b231 ne_b227_b229 ne_b227_b230 ne_b227_b231 ne_b229_b230 ne_b229_b231 ne_b230_b231 (by decide) (by decide) (by decide) (by decide) (by decide)) hZ (own_w hw 33 rfl) (own_w hw 2 rfl) (by decide) (by decide)) q235a q235c (g := (mkF m 62 #[.val (.int p1), .val (.int p2), .val (.int p3), .val (.int p4), .val (.int p5), .val (.int p6), .val (.int vk), .val (.int (0 : Int32)), .val (.ref b227), .unset] [(.int p4), (.int p3), (.ref b227)])) rfl (by rw [hml]; rfl) (Steps.refl _) (argsL := [(.int p3), (.int p4)]) (rest := []) (lenOf pd_3 rfl) rfl (by show 2 * 0 + _ ≤ _; exact Nat.le_of_eq rfl) (Jvm.hb hby at_62) (fun _ _ => ⟨rfl, rfl, (by decide : 6 + 0 ≤ _), (by decide : 73 + 0 ≤ _)⟩)
  dsimp only [Pt.U, Pt.locs, Pt.cells, Pt.slots] at X235 l235 y235 z235 st235 hQ235
  have y235 : ka235 = 6 := y235
  have z235 : na235 = 73 := z235
  subst y235 z235
  obtain ⟨rfl, N235q, Kc235, E_b227_q, F_b227_firsts_q, F_b227_seconds_q, F_b227_below_q, F_b227_top_q, F_b227_used_q, F_b227_kept_q, F_b227_marks_q, V_b229_q, V_b230_q, V_b231_q⟩ := hQ235
  have N235 : Fr n0 La235 := by rw [l235]; exact Fr.app N234 N235q
  have E_b232 := E_b232.keep Kc235
  have F_b232_items := F_b232_items.keep Kc235 (ninS (Ne.symm ne_b227_b232) (ninS (Ne.symm ne_b229_b232) (ninS (Ne.symm ne_b230_b232) (ninS (Ne.symm ne_b231_b232) nin0))))
  have F_b232_size := F_b232_size.keep Kc235 (ninS (Ne.symm ne_b227_b232) (ninS (Ne.symm ne_b229_b232) (ninS (Ne.symm ne_b230_b232) (ninS (Ne.symm ne_b231_b232) nin0))))
  have V_b233 := V_b233.keep Kc235 (ninS (Ne.symm ne_b227_b233) (ninS (Ne.symm ne_b229_b233) (ninS (Ne.symm ne_b230_b233) (ninS (Ne.symm ne_b231_b233) nin0))))
  have Zs := Nat.le_trans Zs Kc235.1
  have E_b227 := E_b227_q
  have F_b227_firsts := F_b227_firsts_q
  have F_b227_seconds := F_b227_seconds_q
  have F_b227_below := F_b227_below_q
  have F_b227_top := F_b227_top_q
  have F_b227_used := F_b227_used_q
  have F_b227_kept := F_b227_kept_q
  have F_b227_marks := F_b227_marks_q
  have V_b229 := V_b229_q
  have V_b230 := V_b230_q
  have V_b231 := V_b231_q
  refine own_go (B := T235.setTop (mkF m 65 #[.val (.int p1), .val (.int p2), .val (.int p3), .val (.int p4), .val (.int p5), .val (.int p6), .val (.int vk), .val (.int (0 : Int32)), .val (.ref b227), .unset] [])) (fun t k => own_st st235 k) ?_
  refine own_go (B := T235.setTop (mkF m 67 #[.val (.int p1), .val (.int p2), .val (.int p3), .val (.int p4), .val (.int p5), .val (.int p6), .val (.int vk), .val (.int (0 : Int32)), .val (.ref b227), .unset] [(.int vk)])) (fun t k => XS.iload X235.here hx rfl (Jvm.hb hby at_65) rfl k) ?_
  refine own_go (B := T235.setTop (mkF m 68 #[.val (.int p1), .val (.int p2), .val (.int p3), .val (.int p4), .val (.int p5), .val (.int p6), .val (.int vk), .val (.int (0 : Int32)), .val (.ref b227), .unset] [(.int (3 : Int32)), (.int vk)])) (fun t k => XS.iconst X235.here hx rfl (Jvm.hb hby at_67) k) ?_
  refine own_go (B := T235.setTop (mkF m 71 #[.val (.int p1), .val (.int p2), .val (.int p3), .val (.int p4), .val (.int p5), .val (.int p6), .val (.int vk), .val (.int (0 : Int32)), .val (.ref b227), .unset] [])) (fun t k => XS.icmpNo X235.here hx rfl (Jvm.hb hby at_68) rfl (teq (hvk.trans hk)).2 k) ?_
  refine own_go (B := T235.setTop (mkF m 73 #[.val (.int p1), .val (.int p2), .val (.int p3), .val (.int p4), .val (.int p5), .val (.int p6), .val (.int vk), .val (.int (0 : Int32)), .val (.ref b227), .unset] [(.ref b227)])) (fun t k => XS.aload X235.here hx rfl (Jvm.hb hby at_71) rfl rfl k) ?_
  obtain ⟨cq236, kq236, q236a, q236b, q236c⟩ := isOf hZ rfl E_b227
  obtain ⟨_, _, ⟨T236, La236, ka236, na236⟩, -, X236, ⟨Lc236, hQ236, l236, y236, z236⟩, st236⟩ := X235.virtualBack hx (y := (⟨"com/example/term_unifier/termunifier/IntPairStack", "mark", "()V"⟩ : MethodName)) (z := (⟨"com/example/term_unifier/termunifier/IntPairStack", "mark", "()V"⟩ : MethodName)) hown (mvT hZ (own_w hw 36 rfl)) (mvT hZ (own_w hw 37 rfl)) (notFace_of_selects (args := #[]) (mvT hZ (own_w hw 39 rfl))) (mvT hZ (own_w hw 39 rfl)) (mvT hZ (own_w hw 38 rfl)) (by decide) (backOf (W := 0) (rm5 l Z a0 hw [] b227 b229 b230 b231 b232 b233 (1 : Int32) (2 : Int32) (0 : Int32) (fun _ => 0) T235.heap n0 Zs E_b227 F_b227_firsts F_b227_seconds F_b227_below F_b227_top F_b227_used F_b227_kept F_b227_marks E_b232 F_b232_items F_b232_size V_b233 g_b227 g_b232 g_b233 ne_b227_b232 ne_b227_b233 ne_b232_b233) hZ (own_w hw 40 rfl) (own_w hw 2 rfl) (by decide) (by decide)) q236a q236c (g := (mkF m 73 #[.val (.int p1), .val (.int p2), .val (.int p3), .val (.int p4), .val (.int p5), .val (.int p6), .val (.int vk), .val (.int (0 : Int32)), .val (.ref b227), .unset] [(.ref b227)])) rfl (by rw [hml]; rfl) (Steps.refl _) (argsL := []) (rest := []) (lenOf pd_0 rfl) rfl (by show 2 * 0 + _ ≤ _; exact Nat.le_of_eq rfl) (Jvm.hb hby at_73) (fun _ _ => ⟨rfl, rfl, (by decide : 6 + 0 ≤ _), (by decide : 73 + 0 ≤ _)⟩)
  dsimp only [Pt.U, Pt.locs, Pt.cells, Pt.slots] at X236 l236 y236 z236 st236 hQ236
  have y236 : ka236 = 6 := y236
  have z236 : na236 = 73 := z236
  subst y236 z236
  obtain ⟨rfl, N236q, Kc236, E_b227_q, F_b227_firsts_q, F_b227_seconds_q, F_b227_below_q, F_b227_top_q, F_b227_used_q, F_b227_kept_q, F_b227_marks_q, E_b232_q, F_b232_items_q, F_b232_size_q, V_b233_q⟩ := hQ236
  have N236 : Fr n0 La236 := by rw [l236]; exact Fr.app N235 N236q
  have V_b229 := V_b229.keep Kc236 (ninS (Ne.symm ne_b227_b229) (ninS ne_b229_b232 (ninS ne_b229_b233 nin0)))
  have V_b230 := V_b230.keep Kc236 (ninS (Ne.symm ne_b227_b230) (ninS ne_b230_b232 (ninS ne_b230_b233 nin0)))
  have V_b231 := V_b231.keep Kc236 (ninS (Ne.symm ne_b227_b231) (ninS ne_b231_b232 (ninS ne_b231_b233 nin0)))
  have Zs := Nat.le_trans Zs Kc236.1
  have E_b227 := E_b227_q
  have F_b227_firsts := F_b227_firsts_q
  have F_b227_seconds := F_b227_seconds_q
  have F_b227_below := F_b227_below_q
  have F_b227_top := F_b227_top_q
  have F_b227_used := F_b227_used_q
  have F_b227_kept := F_b227_kept_q
  have F_b227_marks := F_b227_marks_q
  have E_b232 := E_b232_q
  have F_b232_items := F_b232_items_q
  have F_b232_size := F_b232_size_q
  have V_b233 := V_b233_q
  refine own_go (B := T236.setTop (mkF m 76 #[.val (.int p1), .val (.int p2), .val (.int p3), .val (.int p4), .val (.int p5), .val (.int p6), .val (.int vk), .val (.int (0 : Int32)), .val (.ref b227), .unset] [])) (fun t k => own_st st236 k) ?_
  refine own_go (B := T236.setTop (mkF m 78 #[.val (.int p1), .val (.int p2), .val (.int p3), .val (.int p4), .val (.int p5), .val (.int p6), .val (.int vk), .val (.int (0 : Int32)), .val (.ref b227), .unset] [(.ref b227)])) (fun t k => XS.aload X236.here hx rfl (Jvm.hb hby at_76) rfl rfl k) ?_
  obtain ⟨cq237, kq237, q237a, q237b, q237c⟩ := isOf hZ rfl E_b227
  obtain ⟨_, _, ⟨T237, La237, ka237, na237⟩, -, X237, ⟨Lc237, hQ237, l237, y237, z237⟩, st237⟩ := X236.virtualBack hx (y := (⟨"com/example/term_unifier/termunifier/IntPairStack", "pop", "()V"⟩ : MethodName)) (z := (⟨"com/example/term_unifier/termunifier/IntPairStack", "pop", "()V"⟩ : MethodName)) hown (mvT hZ (own_w hw 50 rfl)) (mvT hZ (own_w hw 51 rfl)) (notFace_of_selects (args := #[]) (mvT hZ (own_w hw 53 rfl))) (mvT hZ (own_w hw 53 rfl)) (mvT hZ (own_w hw 52 rfl)) (by decide) (backOf (W := 0) (rm_popk l Z a0 hw [] b227 b229 b230 b231 b232 (1 : Int32) (2 : Int32) (2 : Int32) (0 : Int32) (1 : Int32) 1 (own_upd (own_upd (fun _ => 0) 0 (-1 : Int32)) 1 (0 : Int32)) T236.heap n0 Zs E_b227 F_b227_firsts F_b227_seconds F_b227_below F_b227_top F_b227_used F_b227_kept F_b227_marks V_b231 g_b227 ne_b227_b231 (by decide) (by decide) (by decide) rfl (by decide) (by decide) (by decide)) hZ (own_w hw 54 rfl) (own_w hw 2 rfl) (by decide) (by decide)) q237a q237c (g := (mkF m 78 #[.val (.int p1), .val (.int p2), .val (.int p3), .val (.int p4), .val (.int p5), .val (.int p6), .val (.int vk), .val (.int (0 : Int32)), .val (.ref b227), .unset] [(.ref b227)])) rfl (by rw [hml]; rfl) (Steps.refl _) (argsL := []) (rest := []) (lenOf pd_0 rfl) rfl (by show 2 * 0 + _ ≤ _; exact Nat.le_of_eq rfl) (Jvm.hb hby at_78) (fun _ _ => ⟨rfl, rfl, (by decide : 6 + 0 ≤ _), (by decide : 73 + 0 ≤ _)⟩)
  dsimp only [Pt.U, Pt.locs, Pt.cells, Pt.slots] at X237 l237 y237 z237 st237 hQ237
  have y237 : ka237 = 6 := y237
  have z237 : na237 = 73 := z237
  subst y237 z237
  obtain ⟨rfl, N237q, Kc237, E_b227_q, F_b227_firsts_q, F_b227_seconds_q, F_b227_below_q, F_b227_top_q, F_b227_used_q, F_b227_kept_q, F_b227_marks_q⟩ := hQ237
  have N237 : Fr n0 La237 := by rw [l237]; exact Fr.app N236 N237q
  have V_b229 := V_b229.keep Kc237 (ninS (Ne.symm ne_b227_b229) nin0)
  have V_b230 := V_b230.keep Kc237 (ninS (Ne.symm ne_b227_b230) nin0)
  have V_b231 := V_b231.keep Kc237 (ninS (Ne.symm ne_b227_b231) nin0)
  have E_b232 := E_b232.keep Kc237
  have F_b232_items := F_b232_items.keep Kc237 (ninS (Ne.symm ne_b227_b232) nin0)
  have F_b232_size := F_b232_size.keep Kc237 (ninS (Ne.symm ne_b227_b232) nin0)
  have V_b233 := V_b233.keep Kc237 (ninS (Ne.symm ne_b227_b233) nin0)
  have Zs := Nat.le_trans Zs Kc237.1
  have E_b227 := E_b227_q
  have F_b227_firsts := F_b227_firsts_q
  have F_b227_seconds := F_b227_seconds_q
  have F_b227_below := F_b227_below_q
  have F_b227_top := F_b227_top_q
  have F_b227_used := F_b227_used_q
  have F_b227_kept := F_b227_kept_q
  have F_b227_marks := F_b227_marks_q
  refine own_go (B := T237.setTop (mkF m 81 #[.val (.int p1), .val (.int p2), .val (.int p3), .val (.int p4), .val (.int p5), .val (.int p6), .val (.int vk), .val (.int (0 : Int32)), .val (.ref b227), .unset] [])) (fun t k => own_st st237 k) ?_
  refine own_go (B := T237.setTop (mkF m 83 #[.val (.int p1), .val (.int p2), .val (.int p3), .val (.int p4), .val (.int p5), .val (.int p6), .val (.int vk), .val (.int (0 : Int32)), .val (.ref b227), .unset] [(.ref b227)])) (fun t k => XS.aload X237.here hx rfl (Jvm.hb hby at_81) rfl rfl k) ?_
  obtain ⟨cq238, kq238, q238a, q238b, q238c⟩ := isOf hZ rfl E_b227
  obtain ⟨_, _, ⟨T238, La238, ka238, na238⟩, -, X238, ⟨Lc238, hQ238, l238, y238, z238⟩, st238⟩ := X237.virtualBack hx (y := (⟨"com/example/term_unifier/termunifier/IntPairStack", "isEmpty", "()Z"⟩ : MethodName)) (z := (⟨"com/example/term_unifier/termunifier/IntPairStack", "isEmpty", "()Z"⟩ : MethodName)) hown (mvT hZ (own_w hw 55 rfl)) (mvT hZ (own_w hw 56 rfl)) (notFace_of_selects (args := #[]) (mvT hZ (own_w hw 58 rfl))) (mvT hZ (own_w hw 58 rfl)) (mvT hZ (own_w hw 57 rfl)) (by decide) (backOf (W := 0) (rm8 l Z a0 hw [] b227 (0 : Int32) (0 : Int32) T237.heap n0 Zs F_b227_top (by decide)) hZ (own_w hw 59 rfl) (own_w hw 2 rfl) (by decide) (by decide)) q238a q238c (g := (mkF m 83 #[.val (.int p1), .val (.int p2), .val (.int p3), .val (.int p4), .val (.int p5), .val (.int p6), .val (.int vk), .val (.int (0 : Int32)), .val (.ref b227), .unset] [(.ref b227)])) rfl (by rw [hml]; rfl) (Steps.refl _) (argsL := []) (rest := []) (lenOf pd_4 rfl) rfl (by show 2 * 0 + _ ≤ _; exact Nat.le_of_eq rfl) (Jvm.hb hby at_83) (fun _ _ => ⟨rfl, rfl, (by decide : 6 + 0 ≤ _), (by decide : 73 + 0 ≤ _)⟩)
  dsimp only [Pt.U, Pt.locs, Pt.cells, Pt.slots] at X238 l238 y238 z238 st238 hQ238
  have y238 : ka238 = 6 := y238
  have z238 : na238 = 73 := z238
  subst y238 z238
  obtain ⟨rfl, N238q, e238⟩ := hQ238
  have N238 : Fr n0 La238 := by rw [l238]; exact Fr.app N237 N238q
  refine own_go (B := T238.setTop (mkF m 86 #[.val (.int p1), .val (.int p2), .val (.int p3), .val (.int p4), .val (.int p5), .val (.int p6), .val (.int vk), .val (.int (0 : Int32)), .val (.ref b227), .unset] [(.int (0 : Int32))])) (fun t k => own_st st238 k) ?_
  refine own_go (B := T238.setTop (mkF m 89 #[.val (.int p1), .val (.int p2), .val (.int p3), .val (.int p4), .val (.int p5), .val (.int p6), .val (.int vk), .val (.int (0 : Int32)), .val (.ref b227), .unset] [])) (fun t k => XS.ifNo X238.here hx rfl (Jvm.hb hby at_86) rfl ((if0 _ _).trans (teq (by decide : (0 : Int32) = (0 : Int32))).2) k) ?_
  refine own_go (B := T238.setTop (mkF m 91 #[.val (.int p1), .val (.int p2), .val (.int p3), .val (.int p4), .val (.int p5), .val (.int p6), .val (.int vk), .val (.int (0 : Int32)), .val (.ref b227), .unset] [(.ref b227)])) (fun t k => XS.aload X238.here hx rfl (Jvm.hb hby at_89) rfl rfl k) ?_
  obtain ⟨cq239, kq239, q239a, q239b, q239c⟩ := isOf hZ e238 E_b227
  obtain ⟨_, _, ⟨T239, La239, ka239, na239⟩, -, X239, ⟨Lc239, hQ239, l239, y239, z239⟩, st239⟩ := X238.virtualBack hx (y := (⟨"com/example/term_unifier/termunifier/IntPairStack", "first", "()I"⟩ : MethodName)) (z := (⟨"com/example/term_unifier/termunifier/IntPairStack", "first", "()I"⟩ : MethodName)) hown (mvT hZ (own_w hw 60 rfl)) (mvT hZ (own_w hw 61 rfl)) (notFace_of_selects (args := #[]) (mvT hZ (own_w hw 63 rfl))) (mvT hZ (own_w hw 63 rfl)) (mvT hZ (own_w hw 62 rfl)) (by decide) (backOf (W := 0) (rm9 l Z a0 hw [] b227 b229 (0 : Int32) 0 (own_upd (own_upd (fun _ => 0) 0 p1) 1 p3) p1 T237.heap n0 Zs F_b227_firsts F_b227_top V_b229 (by decide) (by decide) (by decide) rfl) hZ (own_w hw 64 rfl) (own_w hw 2 rfl) (by decide) (by decide)) q239a q239c (g := (mkF m 91 #[.val (.int p1), .val (.int p2), .val (.int p3), .val (.int p4), .val (.int p5), .val (.int p6), .val (.int vk), .val (.int (0 : Int32)), .val (.ref b227), .unset] [(.ref b227)])) rfl (by rw [hml]; rfl) (Steps.refl _) (argsL := []) (rest := []) (lenOf pd_2 rfl) rfl (by show 2 * 0 + _ ≤ _; exact Nat.le_of_eq rfl) (Jvm.hb hby at_91) (fun _ _ => ⟨rfl, e238, (by decide : 6 + 0 ≤ _), (by decide : 73 + 0 ≤ _)⟩)
  dsimp only [Pt.U, Pt.locs, Pt.cells, Pt.slots] at X239 l239 y239 z239 st239 hQ239
  have y239 : ka239 = 6 := y239
  have z239 : na239 = 73 := z239
  subst y239 z239
  obtain ⟨rfl, N239q, e239⟩ := hQ239
  have N239 : Fr n0 La239 := by rw [l239]; exact Fr.app N238 N239q
  refine own_go (B := T239.setTop (mkF m 94 #[.val (.int p1), .val (.int p2), .val (.int p3), .val (.int p4), .val (.int p5), .val (.int p6), .val (.int vk), .val (.int (0 : Int32)), .val (.ref b227), .unset] [(.int p1)])) (fun t k => own_st st239 k) ?_
  refine own_go (B := T239.setTop (mkF m 95 #[.val (.int p1), .val (.int p2), .val (.int p3), .val (.int p4), .val (.int p5), .val (.int p6), .val (.int vk), .val (.int (0 : Int32)), .val (.ref b227), .unset] [(.int p1), (.int p1)])) (fun t k => XS.iloadN X239.here hx rfl (Jvm.hb hby at_94) rfl k) ?_
  refine own_go (B := T239.setTop (mkF m 98 #[.val (.int p1), .val (.int p2), .val (.int p3), .val (.int p4), .val (.int p5), .val (.int p6), .val (.int vk), .val (.int (0 : Int32)), .val (.ref b227), .unset] [])) (fun t k => XS.icmpNo X239.here hx rfl (Jvm.hb hby at_95) rfl (teq (rfl : p1 = p1)).2 k) ?_
  refine own_go (B := T239.setTop (mkF m 100 #[.val (.int p1), .val (.int p2), .val (.int p3), .val (.int p4), .val (.int p5), .val (.int p6), .val (.int vk), .val (.int (0 : Int32)), .val (.ref b227), .unset] [(.ref b227)])) (fun t k => XS.aload X239.here hx rfl (Jvm.hb hby at_98) rfl rfl k) ?_
  obtain ⟨cq240, kq240, q240a, q240b, q240c⟩ := isOf hZ e239 E_b227
  obtain ⟨_, _, ⟨T240, La240, ka240, na240⟩, -, X240, ⟨Lc240, hQ240, l240, y240, z240⟩, st240⟩ := X239.virtualBack hx (y := (⟨"com/example/term_unifier/termunifier/IntPairStack", "second", "()I"⟩ : MethodName)) (z := (⟨"com/example/term_unifier/termunifier/IntPairStack", "second", "()I"⟩ : MethodName)) hown (mvT hZ (own_w hw 65 rfl)) (mvT hZ (own_w hw 66 rfl)) (notFace_of_selects (args := #[]) (mvT hZ (own_w hw 68 rfl))) (mvT hZ (own_w hw 68 rfl)) (mvT hZ (own_w hw 67 rfl)) (by decide) (backOf (W := 0) (rm10 l Z a0 hw [] b227 b230 (0 : Int32) 0 (own_upd (own_upd (fun _ => 0) 0 p2) 1 p4) p2 T237.heap n0 Zs F_b227_seconds F_b227_top V_b230 (by decide) (by decide) (by decide) rfl) hZ (own_w hw 69 rfl) (own_w hw 2 rfl) (by decide) (by decide)) q240a q240c (g := (mkF m 100 #[.val (.int p1), .val (.int p2), .val (.int p3), .val (.int p4), .val (.int p5), .val (.int p6), .val (.int vk), .val (.int (0 : Int32)), .val (.ref b227), .unset] [(.ref b227)])) rfl (by rw [hml]; rfl) (Steps.refl _) (argsL := []) (rest := []) (lenOf pd_2 rfl) rfl (by show 2 * 0 + _ ≤ _; exact Nat.le_of_eq rfl) (Jvm.hb hby at_100) (fun _ _ => ⟨rfl, e239, (by decide : 6 + 0 ≤ _), (by decide : 73 + 0 ≤ _)⟩)
  dsimp only [Pt.U, Pt.locs, Pt.cells, Pt.slots] at X240 l240 y240 z240 st240 hQ240
  have y240 : ka240 = 6 := y240
  have z240 : na240 = 73 := z240
  subst y240 z240
  obtain ⟨rfl, N240q, e240⟩ := hQ240
  have N240 : Fr n0 La240 := by rw [l240]; exact Fr.app N239 N240q
  refine own_go (B := T240.setTop (mkF m 103 #[.val (.int p1), .val (.int p2), .val (.int p3), .val (.int p4), .val (.int p5), .val (.int p6), .val (.int vk), .val (.int (0 : Int32)), .val (.ref b227), .unset] [(.int p2)])) (fun t k => own_st st240 k) ?_
  refine own_go (B := T240.setTop (mkF m 104 #[.val (.int p1), .val (.int p2), .val (.int p3), .val (.int p4), .val (.int p5), .val (.int p6), .val (.int vk), .val (.int (0 : Int32)), .val (.ref b227), .unset] [(.int p2), (.int p2)])) (fun t k => XS.iloadN X240.here hx rfl (Jvm.hb hby at_103) rfl k) ?_
  refine own_go (B := T240.setTop (mkF m 107 #[.val (.int p1), .val (.int p2), .val (.int p3), .val (.int p4), .val (.int p5), .val (.int p6), .val (.int vk), .val (.int (0 : Int32)), .val (.ref b227), .unset] [])) (fun t k => XS.icmpNo X240.here hx rfl (Jvm.hb hby at_104) rfl (teq (rfl : p2 = p2)).2 k) ?_
  refine own_go (B := T240.setTop (mkF m 108 #[.val (.int p1), .val (.int p2), .val (.int p3), .val (.int p4), .val (.int p5), .val (.int p6), .val (.int vk), .val (.int (0 : Int32)), .val (.ref b227), .unset] [(.int (1 : Int32))])) (fun t k => XS.iconst X240.here hx rfl (Jvm.hb hby at_107) k) ?_
  refine own_go (B := T240.setTop (mkF m 112 #[.val (.int p1), .val (.int p2), .val (.int p3), .val (.int p4), .val (.int p5), .val (.int p6), .val (.int vk), .val (.int (0 : Int32)), .val (.ref b227), .unset] [(.int (1 : Int32))])) (fun t k => XS.goto X240.here hx rfl (pc0 := 108) (pc' := 112) rfl (Jvm.hb hby at_108) (by decide) (by decide) k) ?_
  refine own_go (B := T240.setTop (mkF m 114 #[.val (.int p1), .val (.int p2), .val (.int p3), .val (.int p4), .val (.int p5), .val (.int p6), .val (.int vk), .val (.int (0 : Int32)), .val (.ref b227), .val (.int (1 : Int32))] [])) (fun t k => XS.istore X240.here hx rfl (Jvm.hb hby at_112) rfl (l' := #[.val (.int p1), .val (.int p2), .val (.int p3), .val (.int p4), .val (.int p5), .val (.int p6), .val (.int vk), .val (.int (0 : Int32)), .val (.ref b227), .val (.int (1 : Int32))]) rfl k) ?_
  refine own_go (B := T240.setTop (mkF m 116 #[.val (.int p1), .val (.int p2), .val (.int p3), .val (.int p4), .val (.int p5), .val (.int p6), .val (.int vk), .val (.int (0 : Int32)), .val (.ref b227), .val (.int (1 : Int32))] [(.int (0 : Int32))])) (fun t k => XS.iload X240.here hx rfl (Jvm.hb hby at_114) rfl k) ?_
  refine own_go (B := T240.setTop (mkF m 144 #[.val (.int p1), .val (.int p2), .val (.int p3), .val (.int p4), .val (.int p5), .val (.int p6), .val (.int vk), .val (.int (0 : Int32)), .val (.ref b227), .val (.int (1 : Int32))] [])) (fun t k => XS.ifYes X240.here hx rfl (pc0 := 116) (pc' := 144) rfl (Jvm.hb hby at_116) rfl ((if0 _ _).trans (teq (by decide : (0 : Int32) = (0 : Int32))).1) (by decide) (by decide) k) ?_
  refine own_go (B := T240.setTop (mkF m 146 #[.val (.int p1), .val (.int p2), .val (.int p3), .val (.int p4), .val (.int p5), .val (.int p6), .val (.int vk), .val (.int (0 : Int32)), .val (.ref b227), .val (.int (1 : Int32))] [(.ref b227)])) (fun t k => XS.aload X240.here hx rfl (Jvm.hb hby at_144) rfl rfl k) ?_
  refine own_go (B := T240.setTop (mkF m 148 #[.val (.int p1), .val (.int p2), .val (.int p3), .val (.int p4), .val (.int p5), .val (.int p6), .val (.int vk), .val (.int (0 : Int32)), .val (.ref b227), .val (.int (1 : Int32))] [(.int p5), (.ref b227)])) (fun t k => XS.iload X240.here hx rfl (Jvm.hb hby at_146) rfl k) ?_
  refine own_go (B := T240.setTop (mkF m 150 #[.val (.int p1), .val (.int p2), .val (.int p3), .val (.int p4), .val (.int p5), .val (.int p6), .val (.int vk), .val (.int (0 : Int32)), .val (.ref b227), .val (.int (1 : Int32))] [(.int p5), (.int p5), (.ref b227)])) (fun t k => XS.iload X240.here hx rfl (Jvm.hb hby at_148) rfl k) ?_
  refine own_go (B := T240.setTop (mkF m 151 #[.val (.int p1), .val (.int p2), .val (.int p3), .val (.int p4), .val (.int p5), .val (.int p6), .val (.int vk), .val (.int (0 : Int32)), .val (.ref b227), .val (.int (1 : Int32))] [(.int (-1 : Int32)), (.int p5), (.int p5), (.ref b227)])) (fun t k => XS.iconst X240.here hx rfl (Jvm.hb hby at_150) k) ?_
  refine own_go (B := T240.setTop (mkF m 152 #[.val (.int p1), .val (.int p2), .val (.int p3), .val (.int p4), .val (.int p5), .val (.int p6), .val (.int vk), .val (.int (0 : Int32)), .val (.ref b227), .val (.int (1 : Int32))] [(.int (p5 ^^^ (-1 : Int32))), (.int p5), (.ref b227)])) (fun t k => XS.ixor X240.here hx rfl (Jvm.hb hby at_151) rfl k) ?_
  obtain ⟨cq241, kq241, q241a, q241b, q241c⟩ := isOf hZ e240 E_b227
  obtain ⟨_, _, ⟨T241, La241, ka241, na241⟩, -, X241, ⟨Lc241, hQ241, l241, y241, z241⟩, st241⟩ := X240.virtualBack hx (y := (⟨"com/example/term_unifier/termunifier/IntPairStack", "push", "(II)V"⟩ : MethodName)) (z := (⟨"com/example/term_unifier/termunifier/IntPairStack", "push", "(II)V"⟩ : MethodName)) hown (mvT hZ (own_w hw 29 rfl)) (mvT hZ (own_w hw 30 rfl)) (notFace_of_selects (args := #[]) (mvT hZ (own_w hw 32 rfl))) (mvT hZ (own_w hw 32 rfl)) (mvT hZ (own_w hw 31 rfl)) (by decide) (backOf (W := 0) (rm4 l Z a0 hw [] b227 p5 (p5 ^^^ (-1 : Int32)) b229 b230 b231 b232 (0 : Int32) (2 : Int32) (2 : Int32) (3 : Int32) 2 (own_upd (own_upd (fun _ => 0) 0 p1) 1 p3) (own_upd (own_upd (fun _ => 0) 0 p2) 1 p4) (own_upd (own_upd (fun _ => 0) 0 (-1 : Int32)) 1 (0 : Int32)) T237.heap n0 Zs E_b227 F_b227_firsts F_b227_seconds F_b227_below F_b227_top F_b227_used F_b227_kept F_b227_marks V_b229 V_b230 V_b231 g_b227 g_b229 g_b230 g_b231 ne_b227_b229 ne_b227_b230 ne_b227_b231 ne_b229_b230 ne_b229_b231 ne_b230_b231 (by decide) (by decide) (by decide) (by decide) (by decide)) hZ (own_w hw 33 rfl) (own_w hw 2 rfl) (by decide) (by decide)) q241a q241c (g := (mkF m 152 #[.val (.int p1), .val (.int p2), .val (.int p3), .val (.int p4), .val (.int p5), .val (.int p6), .val (.int vk), .val (.int (0 : Int32)), .val (.ref b227), .val (.int (1 : Int32))] [(.int (p5 ^^^ (-1 : Int32))), (.int p5), (.ref b227)])) rfl (by rw [hml]; rfl) (Steps.refl _) (argsL := [(.int p5), (.int (p5 ^^^ (-1 : Int32)))]) (rest := []) (lenOf pd_3 rfl) rfl (by show 2 * 0 + _ ≤ _; exact Nat.le_of_eq rfl) (Jvm.hb hby at_152) (fun _ _ => ⟨rfl, e240, (by decide : 6 + 0 ≤ _), (by decide : 73 + 0 ≤ _)⟩)
  dsimp only [Pt.U, Pt.locs, Pt.cells, Pt.slots] at X241 l241 y241 z241 st241 hQ241
  have y241 : ka241 = 6 := y241
  have z241 : na241 = 73 := z241
  subst y241 z241
  obtain ⟨rfl, N241q, Kc241, E_b227_q, F_b227_firsts_q, F_b227_seconds_q, F_b227_below_q, F_b227_top_q, F_b227_used_q, F_b227_kept_q, F_b227_marks_q, V_b229_q, V_b230_q, V_b231_q⟩ := hQ241
  have N241 : Fr n0 La241 := by rw [l241]; exact Fr.app N240 N241q
  have E_b232 := E_b232.keep Kc241
  have F_b232_items := F_b232_items.keep Kc241 (ninS (Ne.symm ne_b227_b232) (ninS (Ne.symm ne_b229_b232) (ninS (Ne.symm ne_b230_b232) (ninS (Ne.symm ne_b231_b232) nin0))))
  have F_b232_size := F_b232_size.keep Kc241 (ninS (Ne.symm ne_b227_b232) (ninS (Ne.symm ne_b229_b232) (ninS (Ne.symm ne_b230_b232) (ninS (Ne.symm ne_b231_b232) nin0))))
  have V_b233 := V_b233.keep Kc241 (ninS (Ne.symm ne_b227_b233) (ninS (Ne.symm ne_b229_b233) (ninS (Ne.symm ne_b230_b233) (ninS (Ne.symm ne_b231_b233) nin0))))
  have Zs := Nat.le_trans Zs Kc241.1
  have E_b227 := E_b227_q
  have F_b227_firsts := F_b227_firsts_q
  have F_b227_seconds := F_b227_seconds_q
  have F_b227_below := F_b227_below_q
  have F_b227_top := F_b227_top_q
  have F_b227_used := F_b227_used_q
  have F_b227_kept := F_b227_kept_q
  have F_b227_marks := F_b227_marks_q
  have V_b229 := V_b229_q
  have V_b230 := V_b230_q
  have V_b231 := V_b231_q
  refine own_go (B := T241.setTop (mkF m 155 #[.val (.int p1), .val (.int p2), .val (.int p3), .val (.int p4), .val (.int p5), .val (.int p6), .val (.int vk), .val (.int (0 : Int32)), .val (.ref b227), .val (.int (1 : Int32))] [])) (fun t k => own_st st241 k) ?_
  refine own_go (B := T241.setTop (mkF m 157 #[.val (.int p1), .val (.int p2), .val (.int p3), .val (.int p4), .val (.int p5), .val (.int p6), .val (.int vk), .val (.int (0 : Int32)), .val (.ref b227), .val (.int (1 : Int32))] [(.int (1 : Int32))])) (fun t k => XS.iload X241.here hx rfl (Jvm.hb hby at_155) rfl k) ?_
  refine own_go (B := T241.setTop (mkF m 160 #[.val (.int p1), .val (.int p2), .val (.int p3), .val (.int p4), .val (.int p5), .val (.int p6), .val (.int vk), .val (.int (0 : Int32)), .val (.ref b227), .val (.int (1 : Int32))] [])) (fun t k => XS.ifNo X241.here hx rfl (Jvm.hb hby at_157) rfl ((if0 _ _).trans (feq (by decide : ¬ ((1 : Int32) = (0 : Int32)))).1) k) ?_
  refine own_go (B := T241.setTop (mkF m 162 #[.val (.int p1), .val (.int p2), .val (.int p3), .val (.int p4), .val (.int p5), .val (.int p6), .val (.int vk), .val (.int (0 : Int32)), .val (.ref b227), .val (.int (1 : Int32))] [(.ref b227)])) (fun t k => XS.aload X241.here hx rfl (Jvm.hb hby at_160) rfl rfl k) ?_
  obtain ⟨cq242, kq242, q242a, q242b, q242c⟩ := isOf hZ rfl E_b227
  obtain ⟨_, _, ⟨T242, La242, ka242, na242⟩, -, X242, ⟨Lc242, hQ242, l242, y242, z242⟩, st242⟩ := X241.virtualBack hx (y := (⟨"com/example/term_unifier/termunifier/IntPairStack", "isEmpty", "()Z"⟩ : MethodName)) (z := (⟨"com/example/term_unifier/termunifier/IntPairStack", "isEmpty", "()Z"⟩ : MethodName)) hown (mvT hZ (own_w hw 55 rfl)) (mvT hZ (own_w hw 56 rfl)) (notFace_of_selects (args := #[]) (mvT hZ (own_w hw 58 rfl))) (mvT hZ (own_w hw 58 rfl)) (mvT hZ (own_w hw 57 rfl)) (by decide) (backOf (W := 0) (rm8 l Z a0 hw [] b227 (2 : Int32) (0 : Int32) T241.heap n0 Zs F_b227_top (by decide)) hZ (own_w hw 59 rfl) (own_w hw 2 rfl) (by decide) (by decide)) q242a q242c (g := (mkF m 162 #[.val (.int p1), .val (.int p2), .val (.int p3), .val (.int p4), .val (.int p5), .val (.int p6), .val (.int vk), .val (.int (0 : Int32)), .val (.ref b227), .val (.int (1 : Int32))] [(.ref b227)])) rfl (by rw [hml]; rfl) (Steps.refl _) (argsL := []) (rest := []) (lenOf pd_4 rfl) rfl (by show 2 * 0 + _ ≤ _; exact Nat.le_of_eq rfl) (Jvm.hb hby at_162) (fun _ _ => ⟨rfl, rfl, (by decide : 6 + 0 ≤ _), (by decide : 73 + 0 ≤ _)⟩)
  dsimp only [Pt.U, Pt.locs, Pt.cells, Pt.slots] at X242 l242 y242 z242 st242 hQ242
  have y242 : ka242 = 6 := y242
  have z242 : na242 = 73 := z242
  subst y242 z242
  obtain ⟨rfl, N242q, e242⟩ := hQ242
  have N242 : Fr n0 La242 := by rw [l242]; exact Fr.app N241 N242q
  refine own_go (B := T242.setTop (mkF m 165 #[.val (.int p1), .val (.int p2), .val (.int p3), .val (.int p4), .val (.int p5), .val (.int p6), .val (.int vk), .val (.int (0 : Int32)), .val (.ref b227), .val (.int (1 : Int32))] [(.int (0 : Int32))])) (fun t k => own_st st242 k) ?_
  refine own_go (B := T242.setTop (mkF m 168 #[.val (.int p1), .val (.int p2), .val (.int p3), .val (.int p4), .val (.int p5), .val (.int p6), .val (.int vk), .val (.int (0 : Int32)), .val (.ref b227), .val (.int (1 : Int32))] [])) (fun t k => XS.ifNo X242.here hx rfl (Jvm.hb hby at_165) rfl ((if0 _ _).trans (teq (by decide : (0 : Int32) = (0 : Int32))).2) k) ?_
  refine own_go (B := T242.setTop (mkF m 170 #[.val (.int p1), .val (.int p2), .val (.int p3), .val (.int p4), .val (.int p5), .val (.int p6), .val (.int vk), .val (.int (0 : Int32)), .val (.ref b227), .val (.int (1 : Int32))] [(.ref b227)])) (fun t k => XS.aload X242.here hx rfl (Jvm.hb hby at_168) rfl rfl k) ?_
  obtain ⟨cq243, kq243, q243a, q243b, q243c⟩ := isOf hZ e242 E_b227
  obtain ⟨_, _, ⟨T243, La243, ka243, na243⟩, -, X243, ⟨Lc243, hQ243, l243, y243, z243⟩, st243⟩ := X242.virtualBack hx (y := (⟨"com/example/term_unifier/termunifier/IntPairStack", "first", "()I"⟩ : MethodName)) (z := (⟨"com/example/term_unifier/termunifier/IntPairStack", "first", "()I"⟩ : MethodName)) hown (mvT hZ (own_w hw 60 rfl)) (mvT hZ (own_w hw 61 rfl)) (notFace_of_selects (args := #[]) (mvT hZ (own_w hw 63 rfl))) (mvT hZ (own_w hw 63 rfl)) (mvT hZ (own_w hw 62 rfl)) (by decide) (backOf (W := 0) (rm9 l Z a0 hw [] b227 b229 (2 : Int32) 2 (own_upd (own_upd (own_upd (fun _ => 0) 0 p1) 1 p3) 2 p5) p5 T241.heap n0 Zs F_b227_firsts F_b227_top V_b229 (by decide) (by decide) (by decide) rfl) hZ (own_w hw 64 rfl) (own_w hw 2 rfl) (by decide) (by decide)) q243a q243c (g := (mkF m 170 #[.val (.int p1), .val (.int p2), .val (.int p3), .val (.int p4), .val (.int p5), .val (.int p6), .val (.int vk), .val (.int (0 : Int32)), .val (.ref b227), .val (.int (1 : Int32))] [(.ref b227)])) rfl (by rw [hml]; rfl) (Steps.refl _) (argsL := []) (rest := []) (lenOf pd_2 rfl) rfl (by show 2 * 0 + _ ≤ _; exact Nat.le_of_eq rfl) (Jvm.hb hby at_170) (fun _ _ => ⟨rfl, e242, (by decide : 6 + 0 ≤ _), (by decide : 73 + 0 ≤ _)⟩)
  dsimp only [Pt.U, Pt.locs, Pt.cells, Pt.slots] at X243 l243 y243 z243 st243 hQ243
  have y243 : ka243 = 6 := y243
  have z243 : na243 = 73 := z243
  subst y243 z243
  obtain ⟨rfl, N243q, e243⟩ := hQ243
  have N243 : Fr n0 La243 := by rw [l243]; exact Fr.app N242 N243q
  refine own_go (B := T243.setTop (mkF m 173 #[.val (.int p1), .val (.int p2), .val (.int p3), .val (.int p4), .val (.int p5), .val (.int p6), .val (.int vk), .val (.int (0 : Int32)), .val (.ref b227), .val (.int (1 : Int32))] [(.int p5)])) (fun t k => own_st st243 k) ?_
  refine own_go (B := T243.setTop (mkF m 175 #[.val (.int p1), .val (.int p2), .val (.int p3), .val (.int p4), .val (.int p5), .val (.int p6), .val (.int vk), .val (.int (0 : Int32)), .val (.ref b227), .val (.int (1 : Int32))] [(.int p5), (.int p5)])) (fun t k => XS.iload X243.here hx rfl (Jvm.hb hby at_173) rfl k) ?_
  refine own_go (B := T243.setTop (mkF m 178 #[.val (.int p1), .val (.int p2), .val (.int p3), .val (.int p4), .val (.int p5), .val (.int p6), .val (.int vk), .val (.int (0 : Int32)), .val (.ref b227), .val (.int (1 : Int32))] [])) (fun t k => XS.icmpNo X243.here hx rfl (Jvm.hb hby at_175) rfl (teq (rfl : p5 = p5)).2 k) ?_
  refine own_go (B := T243.setTop (mkF m 180 #[.val (.int p1), .val (.int p2), .val (.int p3), .val (.int p4), .val (.int p5), .val (.int p6), .val (.int vk), .val (.int (0 : Int32)), .val (.ref b227), .val (.int (1 : Int32))] [(.ref b227)])) (fun t k => XS.aload X243.here hx rfl (Jvm.hb hby at_178) rfl rfl k) ?_
  obtain ⟨cq244, kq244, q244a, q244b, q244c⟩ := isOf hZ e243 E_b227
  obtain ⟨_, _, ⟨T244, La244, ka244, na244⟩, -, X244, ⟨Lc244, hQ244, l244, y244, z244⟩, st244⟩ := X243.virtualBack hx (y := (⟨"com/example/term_unifier/termunifier/IntPairStack", "second", "()I"⟩ : MethodName)) (z := (⟨"com/example/term_unifier/termunifier/IntPairStack", "second", "()I"⟩ : MethodName)) hown (mvT hZ (own_w hw 65 rfl)) (mvT hZ (own_w hw 66 rfl)) (notFace_of_selects (args := #[]) (mvT hZ (own_w hw 68 rfl))) (mvT hZ (own_w hw 68 rfl)) (mvT hZ (own_w hw 67 rfl)) (by decide) (backOf (W := 0) (rm10 l Z a0 hw [] b227 b230 (2 : Int32) 2 (own_upd (own_upd (own_upd (fun _ => 0) 0 p2) 1 p4) 2 (p5 ^^^ (-1 : Int32))) (p5 ^^^ (-1 : Int32)) T241.heap n0 Zs F_b227_seconds F_b227_top V_b230 (by decide) (by decide) (by decide) rfl) hZ (own_w hw 69 rfl) (own_w hw 2 rfl) (by decide) (by decide)) q244a q244c (g := (mkF m 180 #[.val (.int p1), .val (.int p2), .val (.int p3), .val (.int p4), .val (.int p5), .val (.int p6), .val (.int vk), .val (.int (0 : Int32)), .val (.ref b227), .val (.int (1 : Int32))] [(.ref b227)])) rfl (by rw [hml]; rfl) (Steps.refl _) (argsL := []) (rest := []) (lenOf pd_2 rfl) rfl (by show 2 * 0 + _ ≤ _; exact Nat.le_of_eq rfl) (Jvm.hb hby at_180) (fun _ _ => ⟨rfl, e243, (by decide : 6 + 0 ≤ _), (by decide : 73 + 0 ≤ _)⟩)
  dsimp only [Pt.U, Pt.locs, Pt.cells, Pt.slots] at X244 l244 y244 z244 st244 hQ244
  have y244 : ka244 = 6 := y244
  have z244 : na244 = 73 := z244
  subst y244 z244
  obtain ⟨rfl, N244q, e244⟩ := hQ244
  have N244 : Fr n0 La244 := by rw [l244]; exact Fr.app N243 N244q
  refine own_go (B := T244.setTop (mkF m 183 #[.val (.int p1), .val (.int p2), .val (.int p3), .val (.int p4), .val (.int p5), .val (.int p6), .val (.int vk), .val (.int (0 : Int32)), .val (.ref b227), .val (.int (1 : Int32))] [(.int (p5 ^^^ (-1 : Int32)))])) (fun t k => own_st st244 k) ?_
  refine own_go (B := T244.setTop (mkF m 185 #[.val (.int p1), .val (.int p2), .val (.int p3), .val (.int p4), .val (.int p5), .val (.int p6), .val (.int vk), .val (.int (0 : Int32)), .val (.ref b227), .val (.int (1 : Int32))] [(.int p5), (.int (p5 ^^^ (-1 : Int32)))])) (fun t k => XS.iload X244.here hx rfl (Jvm.hb hby at_183) rfl k) ?_
  refine own_go (B := T244.setTop (mkF m 186 #[.val (.int p1), .val (.int p2), .val (.int p3), .val (.int p4), .val (.int p5), .val (.int p6), .val (.int vk), .val (.int (0 : Int32)), .val (.ref b227), .val (.int (1 : Int32))] [(.int (-1 : Int32)), (.int p5), (.int (p5 ^^^ (-1 : Int32)))])) (fun t k => XS.iconst X244.here hx rfl (Jvm.hb hby at_185) k) ?_
  refine own_go (B := T244.setTop (mkF m 187 #[.val (.int p1), .val (.int p2), .val (.int p3), .val (.int p4), .val (.int p5), .val (.int p6), .val (.int vk), .val (.int (0 : Int32)), .val (.ref b227), .val (.int (1 : Int32))] [(.int (p5 ^^^ (-1 : Int32))), (.int (p5 ^^^ (-1 : Int32)))])) (fun t k => XS.ixor X244.here hx rfl (Jvm.hb hby at_186) rfl k) ?_
  refine own_go (B := T244.setTop (mkF m 190 #[.val (.int p1), .val (.int p2), .val (.int p3), .val (.int p4), .val (.int p5), .val (.int p6), .val (.int vk), .val (.int (0 : Int32)), .val (.ref b227), .val (.int (1 : Int32))] [])) (fun t k => XS.icmpNo X244.here hx rfl (Jvm.hb hby at_187) rfl (teq (rfl : (p5 ^^^ (-1 : Int32)) = (p5 ^^^ (-1 : Int32)))).2 k) ?_
  refine own_go (B := T244.setTop (mkF m 191 #[.val (.int p1), .val (.int p2), .val (.int p3), .val (.int p4), .val (.int p5), .val (.int p6), .val (.int vk), .val (.int (0 : Int32)), .val (.ref b227), .val (.int (1 : Int32))] [(.int (1 : Int32))])) (fun t k => XS.iconst X244.here hx rfl (Jvm.hb hby at_190) k) ?_
  refine own_go (B := T244.setTop (mkF m 195 #[.val (.int p1), .val (.int p2), .val (.int p3), .val (.int p4), .val (.int p5), .val (.int p6), .val (.int vk), .val (.int (0 : Int32)), .val (.ref b227), .val (.int (1 : Int32))] [(.int (1 : Int32))])) (fun t k => XS.goto X244.here hx rfl (pc0 := 191) (pc' := 195) rfl (Jvm.hb hby at_191) (by decide) (by decide) k) ?_
  refine own_go (B := T244.setTop (mkF m 197 #[.val (.int p1), .val (.int p2), .val (.int p3), .val (.int p4), .val (.int p5), .val (.int p6), .val (.int vk), .val (.int (0 : Int32)), .val (.ref b227), .val (.int (1 : Int32))] [])) (fun t k => XS.istore X244.here hx rfl (Jvm.hb hby at_195) rfl (l' := #[.val (.int p1), .val (.int p2), .val (.int p3), .val (.int p4), .val (.int p5), .val (.int p6), .val (.int vk), .val (.int (0 : Int32)), .val (.ref b227), .val (.int (1 : Int32))]) rfl k) ?_
  refine own_go (B := T244.setTop (mkF m 199 #[.val (.int p1), .val (.int p2), .val (.int p3), .val (.int p4), .val (.int p5), .val (.int p6), .val (.int vk), .val (.int (0 : Int32)), .val (.ref b227), .val (.int (1 : Int32))] [(.ref b227)])) (fun t k => XS.aload X244.here hx rfl (Jvm.hb hby at_197) rfl rfl k) ?_
  obtain ⟨cq245, kq245, q245a, q245b, q245c⟩ := isOf hZ e244 E_b227
  obtain ⟨_, _, ⟨T245, La245, ka245, na245⟩, -, X245, ⟨Lc245, hQ245, l245, y245, z245⟩, st245⟩ := X244.virtualBack hx (y := (⟨"com/example/term_unifier/termunifier/IntPairStack", "pop", "()V"⟩ : MethodName)) (z := (⟨"com/example/term_unifier/termunifier/IntPairStack", "pop", "()V"⟩ : MethodName)) hown (mvT hZ (own_w hw 50 rfl)) (mvT hZ (own_w hw 51 rfl)) (notFace_of_selects (args := #[]) (mvT hZ (own_w hw 53 rfl))) (mvT hZ (own_w hw 53 rfl)) (mvT hZ (own_w hw 52 rfl)) (by decide) (backOf (W := 0) (rm_popd l Z a0 hw [] b227 b229 b230 b231 b232 (2 : Int32) (3 : Int32) (2 : Int32) (0 : Int32) (2 : Int32) 2 (own_upd (own_upd (own_upd (fun _ => 0) 0 (-1 : Int32)) 1 (0 : Int32)) 2 (0 : Int32)) T241.heap n0 Zs E_b227 F_b227_firsts F_b227_seconds F_b227_below F_b227_top F_b227_used F_b227_kept F_b227_marks V_b231 g_b227 ne_b227_b231 (by decide) (by decide) (by decide) rfl (by decide) (by decide) (by decide)) hZ (own_w hw 54 rfl) (own_w hw 2 rfl) (by decide) (by decide)) q245a q245c (g := (mkF m 199 #[.val (.int p1), .val (.int p2), .val (.int p3), .val (.int p4), .val (.int p5), .val (.int p6), .val (.int vk), .val (.int (0 : Int32)), .val (.ref b227), .val (.int (1 : Int32))] [(.ref b227)])) rfl (by rw [hml]; rfl) (Steps.refl _) (argsL := []) (rest := []) (lenOf pd_0 rfl) rfl (by show 2 * 0 + _ ≤ _; exact Nat.le_of_eq rfl) (Jvm.hb hby at_199) (fun _ _ => ⟨rfl, e244, (by decide : 6 + 0 ≤ _), (by decide : 73 + 0 ≤ _)⟩)
  dsimp only [Pt.U, Pt.locs, Pt.cells, Pt.slots] at X245 l245 y245 z245 st245 hQ245
  have y245 : ka245 = 6 := y245
  have z245 : na245 = 73 := z245
  subst y245 z245
  obtain ⟨rfl, N245q, Kc245, E_b227_q, F_b227_firsts_q, F_b227_seconds_q, F_b227_below_q, F_b227_top_q, F_b227_used_q, F_b227_kept_q, F_b227_marks_q⟩ := hQ245
  have N245 : Fr n0 La245 := by rw [l245]; exact Fr.app N244 N245q
  have E_b232 := E_b232.keep Kc245
  have F_b232_items := F_b232_items.keep Kc245 (ninS (Ne.symm ne_b227_b232) nin0)
  have F_b232_size := F_b232_size.keep Kc245 (ninS (Ne.symm ne_b227_b232) nin0)
  have V_b233 := V_b233.keep Kc245 (ninS (Ne.symm ne_b227_b233) nin0)
  have V_b229 := V_b229.keep Kc245 (ninS (Ne.symm ne_b227_b229) nin0)
  have V_b230 := V_b230.keep Kc245 (ninS (Ne.symm ne_b227_b230) nin0)
  have V_b231 := V_b231.keep Kc245 (ninS (Ne.symm ne_b227_b231) nin0)
  have Zs := Nat.le_trans Zs Kc245.1
  have E_b227 := E_b227_q
  have F_b227_firsts := F_b227_firsts_q
  have F_b227_seconds := F_b227_seconds_q
  have F_b227_below := F_b227_below_q
  have F_b227_top := F_b227_top_q
  have F_b227_used := F_b227_used_q
  have F_b227_kept := F_b227_kept_q
  have F_b227_marks := F_b227_marks_q
  refine own_go (B := T245.setTop (mkF m 202 #[.val (.int p1), .val (.int p2), .val (.int p3), .val (.int p4), .val (.int p5), .val (.int p6), .val (.int vk), .val (.int (0 : Int32)), .val (.ref b227), .val (.int (1 : Int32))] [])) (fun t k => own_st st245 k) ?_
  refine own_go (B := T245.setTop (mkF m 204 #[.val (.int p1), .val (.int p2), .val (.int p3), .val (.int p4), .val (.int p5), .val (.int p6), .val (.int vk), .val (.int (0 : Int32)), .val (.ref b227), .val (.int (1 : Int32))] [(.int (0 : Int32))])) (fun t k => XS.iload X245.here hx rfl (Jvm.hb hby at_202) rfl k) ?_
  refine own_go (B := T245.setTop (mkF m 230 #[.val (.int p1), .val (.int p2), .val (.int p3), .val (.int p4), .val (.int p5), .val (.int p6), .val (.int vk), .val (.int (0 : Int32)), .val (.ref b227), .val (.int (1 : Int32))] [])) (fun t k => XS.ifYes X245.here hx rfl (pc0 := 204) (pc' := 230) rfl (Jvm.hb hby at_204) rfl ((if0 _ _).trans (teq (by decide : (0 : Int32) = (0 : Int32))).1) (by decide) (by decide) k) ?_
  refine own_go (B := T245.setTop (mkF m 232 #[.val (.int p1), .val (.int p2), .val (.int p3), .val (.int p4), .val (.int p5), .val (.int p6), .val (.int vk), .val (.int (0 : Int32)), .val (.ref b227), .val (.int (1 : Int32))] [(.int (1 : Int32))])) (fun t k => XS.iload X245.here hx rfl (Jvm.hb hby at_230) rfl k) ?_
  refine own_go (B := T245.setTop (mkF m 235 #[.val (.int p1), .val (.int p2), .val (.int p3), .val (.int p4), .val (.int p5), .val (.int p6), .val (.int vk), .val (.int (0 : Int32)), .val (.ref b227), .val (.int (1 : Int32))] [])) (fun t k => XS.ifNo X245.here hx rfl (Jvm.hb hby at_232) rfl ((if0 _ _).trans (feq (by decide : ¬ ((1 : Int32) = (0 : Int32)))).1) k) ?_
  refine own_go (B := T245.setTop (mkF m 237 #[.val (.int p1), .val (.int p2), .val (.int p3), .val (.int p4), .val (.int p5), .val (.int p6), .val (.int vk), .val (.int (0 : Int32)), .val (.ref b227), .val (.int (1 : Int32))] [(.ref b227)])) (fun t k => XS.aload X245.here hx rfl (Jvm.hb hby at_235) rfl rfl k) ?_
  obtain ⟨cq246, kq246, q246a, q246b, q246c⟩ := isOf hZ rfl E_b227
  obtain ⟨_, _, ⟨T246, La246, ka246, na246⟩, -, X246, ⟨Lc246, hQ246, l246, y246, z246⟩, st246⟩ := X245.virtualBack hx (y := (⟨"com/example/term_unifier/termunifier/IntPairStack", "isEmpty", "()Z"⟩ : MethodName)) (z := (⟨"com/example/term_unifier/termunifier/IntPairStack", "isEmpty", "()Z"⟩ : MethodName)) hown (mvT hZ (own_w hw 55 rfl)) (mvT hZ (own_w hw 56 rfl)) (notFace_of_selects (args := #[]) (mvT hZ (own_w hw 58 rfl))) (mvT hZ (own_w hw 58 rfl)) (mvT hZ (own_w hw 57 rfl)) (by decide) (backOf (W := 0) (rm8 l Z a0 hw [] b227 (0 : Int32) (0 : Int32) T245.heap n0 Zs F_b227_top (by decide)) hZ (own_w hw 59 rfl) (own_w hw 2 rfl) (by decide) (by decide)) q246a q246c (g := (mkF m 237 #[.val (.int p1), .val (.int p2), .val (.int p3), .val (.int p4), .val (.int p5), .val (.int p6), .val (.int vk), .val (.int (0 : Int32)), .val (.ref b227), .val (.int (1 : Int32))] [(.ref b227)])) rfl (by rw [hml]; rfl) (Steps.refl _) (argsL := []) (rest := []) (lenOf pd_4 rfl) rfl (by show 2 * 0 + _ ≤ _; exact Nat.le_of_eq rfl) (Jvm.hb hby at_237) (fun _ _ => ⟨rfl, rfl, (by decide : 6 + 0 ≤ _), (by decide : 73 + 0 ≤ _)⟩)
  dsimp only [Pt.U, Pt.locs, Pt.cells, Pt.slots] at X246 l246 y246 z246 st246 hQ246
  have y246 : ka246 = 6 := y246
  have z246 : na246 = 73 := z246
  subst y246 z246
  obtain ⟨rfl, N246q, e246⟩ := hQ246
  have N246 : Fr n0 La246 := by rw [l246]; exact Fr.app N245 N246q
  refine own_go (B := T246.setTop (mkF m 240 #[.val (.int p1), .val (.int p2), .val (.int p3), .val (.int p4), .val (.int p5), .val (.int p6), .val (.int vk), .val (.int (0 : Int32)), .val (.ref b227), .val (.int (1 : Int32))] [(.int (0 : Int32))])) (fun t k => own_st st246 k) ?_
  refine own_go (B := T246.setTop (mkF m 243 #[.val (.int p1), .val (.int p2), .val (.int p3), .val (.int p4), .val (.int p5), .val (.int p6), .val (.int vk), .val (.int (0 : Int32)), .val (.ref b227), .val (.int (1 : Int32))] [])) (fun t k => XS.ifNo X246.here hx rfl (Jvm.hb hby at_240) rfl ((if0 _ _).trans (teq (by decide : (0 : Int32) = (0 : Int32))).2) k) ?_
  refine own_go (B := T246.setTop (mkF m 245 #[.val (.int p1), .val (.int p2), .val (.int p3), .val (.int p4), .val (.int p5), .val (.int p6), .val (.int vk), .val (.int (0 : Int32)), .val (.ref b227), .val (.int (1 : Int32))] [(.ref b227)])) (fun t k => XS.aload X246.here hx rfl (Jvm.hb hby at_243) rfl rfl k) ?_
  obtain ⟨cq247, kq247, q247a, q247b, q247c⟩ := isOf hZ e246 E_b227
  obtain ⟨_, _, ⟨T247, La247, ka247, na247⟩, -, X247, ⟨Lc247, hQ247, l247, y247, z247⟩, st247⟩ := X246.virtualBack hx (y := (⟨"com/example/term_unifier/termunifier/IntPairStack", "first", "()I"⟩ : MethodName)) (z := (⟨"com/example/term_unifier/termunifier/IntPairStack", "first", "()I"⟩ : MethodName)) hown (mvT hZ (own_w hw 60 rfl)) (mvT hZ (own_w hw 61 rfl)) (notFace_of_selects (args := #[]) (mvT hZ (own_w hw 63 rfl))) (mvT hZ (own_w hw 63 rfl)) (mvT hZ (own_w hw 62 rfl)) (by decide) (backOf (W := 0) (rm9 l Z a0 hw [] b227 b229 (0 : Int32) 0 (own_upd (own_upd (own_upd (fun _ => 0) 0 p1) 1 p3) 2 p5) p1 T245.heap n0 Zs F_b227_firsts F_b227_top V_b229 (by decide) (by decide) (by decide) rfl) hZ (own_w hw 64 rfl) (own_w hw 2 rfl) (by decide) (by decide)) q247a q247c (g := (mkF m 245 #[.val (.int p1), .val (.int p2), .val (.int p3), .val (.int p4), .val (.int p5), .val (.int p6), .val (.int vk), .val (.int (0 : Int32)), .val (.ref b227), .val (.int (1 : Int32))] [(.ref b227)])) rfl (by rw [hml]; rfl) (Steps.refl _) (argsL := []) (rest := []) (lenOf pd_2 rfl) rfl (by show 2 * 0 + _ ≤ _; exact Nat.le_of_eq rfl) (Jvm.hb hby at_245) (fun _ _ => ⟨rfl, e246, (by decide : 6 + 0 ≤ _), (by decide : 73 + 0 ≤ _)⟩)
  dsimp only [Pt.U, Pt.locs, Pt.cells, Pt.slots] at X247 l247 y247 z247 st247 hQ247
  have y247 : ka247 = 6 := y247
  have z247 : na247 = 73 := z247
  subst y247 z247
  obtain ⟨rfl, N247q, e247⟩ := hQ247
  have N247 : Fr n0 La247 := by rw [l247]; exact Fr.app N246 N247q
  refine own_go (B := T247.setTop (mkF m 248 #[.val (.int p1), .val (.int p2), .val (.int p3), .val (.int p4), .val (.int p5), .val (.int p6), .val (.int vk), .val (.int (0 : Int32)), .val (.ref b227), .val (.int (1 : Int32))] [(.int p1)])) (fun t k => own_st st247 k) ?_
  refine own_go (B := T247.setTop (mkF m 249 #[.val (.int p1), .val (.int p2), .val (.int p3), .val (.int p4), .val (.int p5), .val (.int p6), .val (.int vk), .val (.int (0 : Int32)), .val (.ref b227), .val (.int (1 : Int32))] [(.int p1), (.int p1)])) (fun t k => XS.iloadN X247.here hx rfl (Jvm.hb hby at_248) rfl k) ?_
  refine own_go (B := T247.setTop (mkF m 252 #[.val (.int p1), .val (.int p2), .val (.int p3), .val (.int p4), .val (.int p5), .val (.int p6), .val (.int vk), .val (.int (0 : Int32)), .val (.ref b227), .val (.int (1 : Int32))] [])) (fun t k => XS.icmpNo X247.here hx rfl (Jvm.hb hby at_249) rfl (teq (rfl : p1 = p1)).2 k) ?_
  refine own_go (B := T247.setTop (mkF m 254 #[.val (.int p1), .val (.int p2), .val (.int p3), .val (.int p4), .val (.int p5), .val (.int p6), .val (.int vk), .val (.int (0 : Int32)), .val (.ref b227), .val (.int (1 : Int32))] [(.ref b227)])) (fun t k => XS.aload X247.here hx rfl (Jvm.hb hby at_252) rfl rfl k) ?_
  obtain ⟨cq248, kq248, q248a, q248b, q248c⟩ := isOf hZ e247 E_b227
  obtain ⟨_, _, ⟨T248, La248, ka248, na248⟩, -, X248, ⟨Lc248, hQ248, l248, y248, z248⟩, st248⟩ := X247.virtualBack hx (y := (⟨"com/example/term_unifier/termunifier/IntPairStack", "second", "()I"⟩ : MethodName)) (z := (⟨"com/example/term_unifier/termunifier/IntPairStack", "second", "()I"⟩ : MethodName)) hown (mvT hZ (own_w hw 65 rfl)) (mvT hZ (own_w hw 66 rfl)) (notFace_of_selects (args := #[]) (mvT hZ (own_w hw 68 rfl))) (mvT hZ (own_w hw 68 rfl)) (mvT hZ (own_w hw 67 rfl)) (by decide) (backOf (W := 0) (rm10 l Z a0 hw [] b227 b230 (0 : Int32) 0 (own_upd (own_upd (own_upd (fun _ => 0) 0 p2) 1 p4) 2 (p5 ^^^ (-1 : Int32))) p2 T245.heap n0 Zs F_b227_seconds F_b227_top V_b230 (by decide) (by decide) (by decide) rfl) hZ (own_w hw 69 rfl) (own_w hw 2 rfl) (by decide) (by decide)) q248a q248c (g := (mkF m 254 #[.val (.int p1), .val (.int p2), .val (.int p3), .val (.int p4), .val (.int p5), .val (.int p6), .val (.int vk), .val (.int (0 : Int32)), .val (.ref b227), .val (.int (1 : Int32))] [(.ref b227)])) rfl (by rw [hml]; rfl) (Steps.refl _) (argsL := []) (rest := []) (lenOf pd_2 rfl) rfl (by show 2 * 0 + _ ≤ _; exact Nat.le_of_eq rfl) (Jvm.hb hby at_254) (fun _ _ => ⟨rfl, e247, (by decide : 6 + 0 ≤ _), (by decide : 73 + 0 ≤ _)⟩)
  dsimp only [Pt.U, Pt.locs, Pt.cells, Pt.slots] at X248 l248 y248 z248 st248 hQ248
  have y248 : ka248 = 6 := y248
  have z248 : na248 = 73 := z248
  subst y248 z248
  obtain ⟨rfl, N248q, e248⟩ := hQ248
  have N248 : Fr n0 La248 := by rw [l248]; exact Fr.app N247 N248q
  refine own_go (B := T248.setTop (mkF m 257 #[.val (.int p1), .val (.int p2), .val (.int p3), .val (.int p4), .val (.int p5), .val (.int p6), .val (.int vk), .val (.int (0 : Int32)), .val (.ref b227), .val (.int (1 : Int32))] [(.int p2)])) (fun t k => own_st st248 k) ?_
  refine own_go (B := T248.setTop (mkF m 258 #[.val (.int p1), .val (.int p2), .val (.int p3), .val (.int p4), .val (.int p5), .val (.int p6), .val (.int vk), .val (.int (0 : Int32)), .val (.ref b227), .val (.int (1 : Int32))] [(.int p2), (.int p2)])) (fun t k => XS.iloadN X248.here hx rfl (Jvm.hb hby at_257) rfl k) ?_
  refine own_go (B := T248.setTop (mkF m 261 #[.val (.int p1), .val (.int p2), .val (.int p3), .val (.int p4), .val (.int p5), .val (.int p6), .val (.int vk), .val (.int (0 : Int32)), .val (.ref b227), .val (.int (1 : Int32))] [])) (fun t k => XS.icmpNo X248.here hx rfl (Jvm.hb hby at_258) rfl (teq (rfl : p2 = p2)).2 k) ?_
  refine own_go (B := T248.setTop (mkF m 262 #[.val (.int p1), .val (.int p2), .val (.int p3), .val (.int p4), .val (.int p5), .val (.int p6), .val (.int vk), .val (.int (0 : Int32)), .val (.ref b227), .val (.int (1 : Int32))] [(.int (1 : Int32))])) (fun t k => XS.iconst X248.here hx rfl (Jvm.hb hby at_261) k) ?_
  refine own_go (B := T248.setTop (mkF m 266 #[.val (.int p1), .val (.int p2), .val (.int p3), .val (.int p4), .val (.int p5), .val (.int p6), .val (.int vk), .val (.int (0 : Int32)), .val (.ref b227), .val (.int (1 : Int32))] [(.int (1 : Int32))])) (fun t k => XS.goto X248.here hx rfl (pc0 := 262) (pc' := 266) rfl (Jvm.hb hby at_262) (by decide) (by decide) k) ?_
  refine own_go (B := T248.setTop (mkF m 268 #[.val (.int p1), .val (.int p2), .val (.int p3), .val (.int p4), .val (.int p5), .val (.int p6), .val (.int vk), .val (.int (0 : Int32)), .val (.ref b227), .val (.int (1 : Int32))] [])) (fun t k => XS.istore X248.here hx rfl (Jvm.hb hby at_266) rfl (l' := #[.val (.int p1), .val (.int p2), .val (.int p3), .val (.int p4), .val (.int p5), .val (.int p6), .val (.int vk), .val (.int (0 : Int32)), .val (.ref b227), .val (.int (1 : Int32))]) rfl k) ?_
  refine own_go (B := T248.setTop (mkF m 270 #[.val (.int p1), .val (.int p2), .val (.int p3), .val (.int p4), .val (.int p5), .val (.int p6), .val (.int vk), .val (.int (0 : Int32)), .val (.ref b227), .val (.int (1 : Int32))] [(.int vk)])) (fun t k => XS.iload X248.here hx rfl (Jvm.hb hby at_268) rfl k) ?_
  refine own_go (B := T248.setTop (mkF m 273 #[.val (.int p1), .val (.int p2), .val (.int p3), .val (.int p4), .val (.int p5), .val (.int p6), .val (.int vk), .val (.int (0 : Int32)), .val (.ref b227), .val (.int (1 : Int32))] [])) (fun t k => XS.ifNo X248.here hx rfl (Jvm.hb hby at_270) rfl ((if0 _ _).trans (feq (by rw [hvk, hk]; decide)).1) k) ?_
  refine own_go (B := T248.setTop (mkF m 275 #[.val (.int p1), .val (.int p2), .val (.int p3), .val (.int p4), .val (.int p5), .val (.int p6), .val (.int vk), .val (.int (0 : Int32)), .val (.ref b227), .val (.int (1 : Int32))] [(.ref b227)])) (fun t k => XS.aload X248.here hx rfl (Jvm.hb hby at_273) rfl rfl k) ?_
  obtain ⟨cq249, kq249, q249a, q249b, q249c⟩ := isOf hZ e248 E_b227
  obtain ⟨_, _, ⟨T249, La249, ka249, na249⟩, -, X249, ⟨Lc249, hQ249, l249, y249, z249⟩, st249⟩ := X248.virtualBack hx (y := (⟨"com/example/term_unifier/termunifier/IntPairStack", "returnToMark", "()V"⟩ : MethodName)) (z := (⟨"com/example/term_unifier/termunifier/IntPairStack", "returnToMark", "()V"⟩ : MethodName)) hown (mvT hZ (own_w hw 70 rfl)) (mvT hZ (own_w hw 71 rfl)) (notFace_of_selects (args := #[]) (mvT hZ (own_w hw 73 rfl))) (mvT hZ (own_w hw 73 rfl)) (mvT hZ (own_w hw 72 rfl)) (by decide) (backOf (W := 0) (rm11 l Z a0 hw [] b227 b229 b230 b231 b232 b233 (0 : Int32) (2 : Int32) (2 : Int32) (0 : Int32) (2 : Int32) (1 : Int32) (own_upd (own_upd (own_upd (fun _ => 0) 0 (1 : Int32)) 1 (2 : Int32)) 2 (0 : Int32)) T245.heap n0 Zs E_b227 F_b227_firsts F_b227_seconds F_b227_below F_b227_top F_b227_used F_b227_kept F_b227_marks E_b232 F_b232_items F_b232_size V_b233 g_b227 g_b232 ne_b227_b232 ne_b227_b233 ne_b232_b233 rfl rfl rfl) hZ (own_w hw 74 rfl) (own_w hw 2 rfl) (by decide) (by decide)) q249a q249c (g := (mkF m 275 #[.val (.int p1), .val (.int p2), .val (.int p3), .val (.int p4), .val (.int p5), .val (.int p6), .val (.int vk), .val (.int (0 : Int32)), .val (.ref b227), .val (.int (1 : Int32))] [(.ref b227)])) rfl (by rw [hml]; rfl) (Steps.refl _) (argsL := []) (rest := []) (lenOf pd_0 rfl) rfl (by show 2 * 0 + _ ≤ _; exact Nat.le_of_eq rfl) (Jvm.hb hby at_275) (fun _ _ => ⟨rfl, e248, (by decide : 6 + 0 ≤ _), (by decide : 73 + 0 ≤ _)⟩)
  dsimp only [Pt.U, Pt.locs, Pt.cells, Pt.slots] at X249 l249 y249 z249 st249 hQ249
  have y249 : ka249 = 6 := y249
  have z249 : na249 = 73 := z249
  subst y249 z249
  obtain ⟨rfl, N249q, Kc249, E_b227_q, F_b227_firsts_q, F_b227_seconds_q, F_b227_below_q, F_b227_top_q, F_b227_used_q, F_b227_kept_q, F_b227_marks_q, E_b232_q, F_b232_items_q, F_b232_size_q, V_b233_q⟩ := hQ249
  have N249 : Fr n0 La249 := by rw [l249]; exact Fr.app N248 N249q
  have V_b229 := V_b229.keep Kc249 (ninS (Ne.symm ne_b227_b229) (ninS ne_b229_b232 nin0))
  have V_b230 := V_b230.keep Kc249 (ninS (Ne.symm ne_b227_b230) (ninS ne_b230_b232 nin0))
  have V_b231 := V_b231.keep Kc249 (ninS (Ne.symm ne_b227_b231) (ninS ne_b231_b232 nin0))
  have Zs := Nat.le_trans Zs Kc249.1
  have E_b227 := E_b227_q
  have F_b227_firsts := F_b227_firsts_q
  have F_b227_seconds := F_b227_seconds_q
  have F_b227_below := F_b227_below_q
  have F_b227_top := F_b227_top_q
  have F_b227_used := F_b227_used_q
  have F_b227_kept := F_b227_kept_q
  have F_b227_marks := F_b227_marks_q
  have E_b232 := E_b232_q
  have F_b232_items := F_b232_items_q
  have F_b232_size := F_b232_size_q
  have V_b233 := V_b233_q
  refine own_go (B := T249.setTop (mkF m 278 #[.val (.int p1), .val (.int p2), .val (.int p3), .val (.int p4), .val (.int p5), .val (.int p6), .val (.int vk), .val (.int (0 : Int32)), .val (.ref b227), .val (.int (1 : Int32))] [])) (fun t k => own_st st249 k) ?_
  refine own_go (B := T249.setTop (mkF m 280 #[.val (.int p1), .val (.int p2), .val (.int p3), .val (.int p4), .val (.int p5), .val (.int p6), .val (.int vk), .val (.int (0 : Int32)), .val (.ref b227), .val (.int (1 : Int32))] [(.int vk)])) (fun t k => XS.iload X249.here hx rfl (Jvm.hb hby at_278) rfl k) ?_
  refine own_go (B := T249.setTop (mkF m 281 #[.val (.int p1), .val (.int p2), .val (.int p3), .val (.int p4), .val (.int p5), .val (.int p6), .val (.int vk), .val (.int (0 : Int32)), .val (.ref b227), .val (.int (1 : Int32))] [(.int (1 : Int32)), (.int vk)])) (fun t k => XS.iconst X249.here hx rfl (Jvm.hb hby at_280) k) ?_
  refine own_go (B := T249.setTop (mkF m 307 #[.val (.int p1), .val (.int p2), .val (.int p3), .val (.int p4), .val (.int p5), .val (.int p6), .val (.int vk), .val (.int (0 : Int32)), .val (.ref b227), .val (.int (1 : Int32))] [])) (fun t k => XS.icmpYes X249.here hx rfl (pc0 := 281) (pc' := 307) rfl (Jvm.hb hby at_281) rfl (feq (by rw [hvk, hk]; decide)).2 (by decide) (by decide) k) ?_
  refine own_go (B := T249.setTop (mkF m 309 #[.val (.int p1), .val (.int p2), .val (.int p3), .val (.int p4), .val (.int p5), .val (.int p6), .val (.int vk), .val (.int (0 : Int32)), .val (.ref b227), .val (.int (1 : Int32))] [(.int vk)])) (fun t k => XS.iload X249.here hx rfl (Jvm.hb hby at_307) rfl k) ?_
  refine own_go (B := T249.setTop (mkF m 310 #[.val (.int p1), .val (.int p2), .val (.int p3), .val (.int p4), .val (.int p5), .val (.int p6), .val (.int vk), .val (.int (0 : Int32)), .val (.ref b227), .val (.int (1 : Int32))] [(.int (2 : Int32)), (.int vk)])) (fun t k => XS.iconst X249.here hx rfl (Jvm.hb hby at_309) k) ?_
  refine own_go (B := T249.setTop (mkF m 354 #[.val (.int p1), .val (.int p2), .val (.int p3), .val (.int p4), .val (.int p5), .val (.int p6), .val (.int vk), .val (.int (0 : Int32)), .val (.ref b227), .val (.int (1 : Int32))] [])) (fun t k => XS.icmpYes X249.here hx rfl (pc0 := 310) (pc' := 354) rfl (Jvm.hb hby at_310) rfl (feq (by rw [hvk, hk]; decide)).2 (by decide) (by decide) k) ?_
  refine own_go (B := T249.setTop (mkF m 356 #[.val (.int p1), .val (.int p2), .val (.int p3), .val (.int p4), .val (.int p5), .val (.int p6), .val (.int vk), .val (.int (0 : Int32)), .val (.ref b227), .val (.int (1 : Int32))] [(.int (1 : Int32))])) (fun t k => XS.iload X249.here hx rfl (Jvm.hb hby at_354) rfl k) ?_
  refine own_go (B := T249.setTop (mkF m 359 #[.val (.int p1), .val (.int p2), .val (.int p3), .val (.int p4), .val (.int p5), .val (.int p6), .val (.int vk), .val (.int (0 : Int32)), .val (.ref b227), .val (.int (1 : Int32))] [])) (fun t k => XS.ifNo X249.here hx rfl (Jvm.hb hby at_356) rfl ((if0 _ _).trans (feq (by decide : ¬ ((1 : Int32) = (0 : Int32)))).1) k) ?_
  refine own_go (B := T249.setTop (mkF m 361 #[.val (.int p1), .val (.int p2), .val (.int p3), .val (.int p4), .val (.int p5), .val (.int p6), .val (.int vk), .val (.int (0 : Int32)), .val (.ref b227), .val (.int (1 : Int32))] [(.ref b227)])) (fun t k => XS.aload X249.here hx rfl (Jvm.hb hby at_359) rfl rfl k) ?_
  obtain ⟨cq250, kq250, q250a, q250b, q250c⟩ := isOf hZ rfl E_b227
  obtain ⟨_, _, ⟨T250, La250, ka250, na250⟩, -, X250, ⟨Lc250, hQ250, l250, y250, z250⟩, st250⟩ := X249.virtualBack hx (y := (⟨"com/example/term_unifier/termunifier/IntPairStack", "isEmpty", "()Z"⟩ : MethodName)) (z := (⟨"com/example/term_unifier/termunifier/IntPairStack", "isEmpty", "()Z"⟩ : MethodName)) hown (mvT hZ (own_w hw 55 rfl)) (mvT hZ (own_w hw 56 rfl)) (notFace_of_selects (args := #[]) (mvT hZ (own_w hw 58 rfl))) (mvT hZ (own_w hw 58 rfl)) (mvT hZ (own_w hw 57 rfl)) (by decide) (backOf (W := 0) (rm8 l Z a0 hw [] b227 (1 : Int32) (0 : Int32) T249.heap n0 Zs F_b227_top (by decide)) hZ (own_w hw 59 rfl) (own_w hw 2 rfl) (by decide) (by decide)) q250a q250c (g := (mkF m 361 #[.val (.int p1), .val (.int p2), .val (.int p3), .val (.int p4), .val (.int p5), .val (.int p6), .val (.int vk), .val (.int (0 : Int32)), .val (.ref b227), .val (.int (1 : Int32))] [(.ref b227)])) rfl (by rw [hml]; rfl) (Steps.refl _) (argsL := []) (rest := []) (lenOf pd_4 rfl) rfl (by show 2 * 0 + _ ≤ _; exact Nat.le_of_eq rfl) (Jvm.hb hby at_361) (fun _ _ => ⟨rfl, rfl, (by decide : 6 + 0 ≤ _), (by decide : 73 + 0 ≤ _)⟩)
  dsimp only [Pt.U, Pt.locs, Pt.cells, Pt.slots] at X250 l250 y250 z250 st250 hQ250
  have y250 : ka250 = 6 := y250
  have z250 : na250 = 73 := z250
  subst y250 z250
  obtain ⟨rfl, N250q, e250⟩ := hQ250
  have N250 : Fr n0 La250 := by rw [l250]; exact Fr.app N249 N250q
  refine own_go (B := T250.setTop (mkF m 364 #[.val (.int p1), .val (.int p2), .val (.int p3), .val (.int p4), .val (.int p5), .val (.int p6), .val (.int vk), .val (.int (0 : Int32)), .val (.ref b227), .val (.int (1 : Int32))] [(.int (0 : Int32))])) (fun t k => own_st st250 k) ?_
  refine own_go (B := T250.setTop (mkF m 367 #[.val (.int p1), .val (.int p2), .val (.int p3), .val (.int p4), .val (.int p5), .val (.int p6), .val (.int vk), .val (.int (0 : Int32)), .val (.ref b227), .val (.int (1 : Int32))] [])) (fun t k => XS.ifNo X250.here hx rfl (Jvm.hb hby at_364) rfl ((if0 _ _).trans (teq (by decide : (0 : Int32) = (0 : Int32))).2) k) ?_
  refine own_go (B := T250.setTop (mkF m 369 #[.val (.int p1), .val (.int p2), .val (.int p3), .val (.int p4), .val (.int p5), .val (.int p6), .val (.int vk), .val (.int (0 : Int32)), .val (.ref b227), .val (.int (1 : Int32))] [(.ref b227)])) (fun t k => XS.aload X250.here hx rfl (Jvm.hb hby at_367) rfl rfl k) ?_
  obtain ⟨cq251, kq251, q251a, q251b, q251c⟩ := isOf hZ e250 E_b227
  obtain ⟨_, _, ⟨T251, La251, ka251, na251⟩, -, X251, ⟨Lc251, hQ251, l251, y251, z251⟩, st251⟩ := X250.virtualBack hx (y := (⟨"com/example/term_unifier/termunifier/IntPairStack", "first", "()I"⟩ : MethodName)) (z := (⟨"com/example/term_unifier/termunifier/IntPairStack", "first", "()I"⟩ : MethodName)) hown (mvT hZ (own_w hw 60 rfl)) (mvT hZ (own_w hw 61 rfl)) (notFace_of_selects (args := #[]) (mvT hZ (own_w hw 63 rfl))) (mvT hZ (own_w hw 63 rfl)) (mvT hZ (own_w hw 62 rfl)) (by decide) (backOf (W := 0) (rm9 l Z a0 hw [] b227 b229 (1 : Int32) 1 (own_upd (own_upd (own_upd (fun _ => 0) 0 p1) 1 p3) 2 p5) p3 T249.heap n0 Zs F_b227_firsts F_b227_top V_b229 (by decide) (by decide) (by decide) rfl) hZ (own_w hw 64 rfl) (own_w hw 2 rfl) (by decide) (by decide)) q251a q251c (g := (mkF m 369 #[.val (.int p1), .val (.int p2), .val (.int p3), .val (.int p4), .val (.int p5), .val (.int p6), .val (.int vk), .val (.int (0 : Int32)), .val (.ref b227), .val (.int (1 : Int32))] [(.ref b227)])) rfl (by rw [hml]; rfl) (Steps.refl _) (argsL := []) (rest := []) (lenOf pd_2 rfl) rfl (by show 2 * 0 + _ ≤ _; exact Nat.le_of_eq rfl) (Jvm.hb hby at_369) (fun _ _ => ⟨rfl, e250, (by decide : 6 + 0 ≤ _), (by decide : 73 + 0 ≤ _)⟩)
  dsimp only [Pt.U, Pt.locs, Pt.cells, Pt.slots] at X251 l251 y251 z251 st251 hQ251
  have y251 : ka251 = 6 := y251
  have z251 : na251 = 73 := z251
  subst y251 z251
  obtain ⟨rfl, N251q, e251⟩ := hQ251
  have N251 : Fr n0 La251 := by rw [l251]; exact Fr.app N250 N251q
  refine own_go (B := T251.setTop (mkF m 372 #[.val (.int p1), .val (.int p2), .val (.int p3), .val (.int p4), .val (.int p5), .val (.int p6), .val (.int vk), .val (.int (0 : Int32)), .val (.ref b227), .val (.int (1 : Int32))] [(.int p3)])) (fun t k => own_st st251 k) ?_
  refine own_go (B := T251.setTop (mkF m 373 #[.val (.int p1), .val (.int p2), .val (.int p3), .val (.int p4), .val (.int p5), .val (.int p6), .val (.int vk), .val (.int (0 : Int32)), .val (.ref b227), .val (.int (1 : Int32))] [(.int p3), (.int p3)])) (fun t k => XS.iloadN X251.here hx rfl (Jvm.hb hby at_372) rfl k) ?_
  refine own_go (B := T251.setTop (mkF m 376 #[.val (.int p1), .val (.int p2), .val (.int p3), .val (.int p4), .val (.int p5), .val (.int p6), .val (.int vk), .val (.int (0 : Int32)), .val (.ref b227), .val (.int (1 : Int32))] [])) (fun t k => XS.icmpNo X251.here hx rfl (Jvm.hb hby at_373) rfl (teq (rfl : p3 = p3)).2 k) ?_
  refine own_go (B := T251.setTop (mkF m 378 #[.val (.int p1), .val (.int p2), .val (.int p3), .val (.int p4), .val (.int p5), .val (.int p6), .val (.int vk), .val (.int (0 : Int32)), .val (.ref b227), .val (.int (1 : Int32))] [(.ref b227)])) (fun t k => XS.aload X251.here hx rfl (Jvm.hb hby at_376) rfl rfl k) ?_
  obtain ⟨cq252, kq252, q252a, q252b, q252c⟩ := isOf hZ e251 E_b227
  obtain ⟨_, _, ⟨T252, La252, ka252, na252⟩, -, X252, ⟨Lc252, hQ252, l252, y252, z252⟩, st252⟩ := X251.virtualBack hx (y := (⟨"com/example/term_unifier/termunifier/IntPairStack", "second", "()I"⟩ : MethodName)) (z := (⟨"com/example/term_unifier/termunifier/IntPairStack", "second", "()I"⟩ : MethodName)) hown (mvT hZ (own_w hw 65 rfl)) (mvT hZ (own_w hw 66 rfl)) (notFace_of_selects (args := #[]) (mvT hZ (own_w hw 68 rfl))) (mvT hZ (own_w hw 68 rfl)) (mvT hZ (own_w hw 67 rfl)) (by decide) (backOf (W := 0) (rm10 l Z a0 hw [] b227 b230 (1 : Int32) 1 (own_upd (own_upd (own_upd (fun _ => 0) 0 p2) 1 p4) 2 (p5 ^^^ (-1 : Int32))) p4 T249.heap n0 Zs F_b227_seconds F_b227_top V_b230 (by decide) (by decide) (by decide) rfl) hZ (own_w hw 69 rfl) (own_w hw 2 rfl) (by decide) (by decide)) q252a q252c (g := (mkF m 378 #[.val (.int p1), .val (.int p2), .val (.int p3), .val (.int p4), .val (.int p5), .val (.int p6), .val (.int vk), .val (.int (0 : Int32)), .val (.ref b227), .val (.int (1 : Int32))] [(.ref b227)])) rfl (by rw [hml]; rfl) (Steps.refl _) (argsL := []) (rest := []) (lenOf pd_2 rfl) rfl (by show 2 * 0 + _ ≤ _; exact Nat.le_of_eq rfl) (Jvm.hb hby at_378) (fun _ _ => ⟨rfl, e251, (by decide : 6 + 0 ≤ _), (by decide : 73 + 0 ≤ _)⟩)
  dsimp only [Pt.U, Pt.locs, Pt.cells, Pt.slots] at X252 l252 y252 z252 st252 hQ252
  have y252 : ka252 = 6 := y252
  have z252 : na252 = 73 := z252
  subst y252 z252
  obtain ⟨rfl, N252q, e252⟩ := hQ252
  have N252 : Fr n0 La252 := by rw [l252]; exact Fr.app N251 N252q
  refine own_go (B := T252.setTop (mkF m 381 #[.val (.int p1), .val (.int p2), .val (.int p3), .val (.int p4), .val (.int p5), .val (.int p6), .val (.int vk), .val (.int (0 : Int32)), .val (.ref b227), .val (.int (1 : Int32))] [(.int p4)])) (fun t k => own_st st252 k) ?_
  refine own_go (B := T252.setTop (mkF m 382 #[.val (.int p1), .val (.int p2), .val (.int p3), .val (.int p4), .val (.int p5), .val (.int p6), .val (.int vk), .val (.int (0 : Int32)), .val (.ref b227), .val (.int (1 : Int32))] [(.int p4), (.int p4)])) (fun t k => XS.iloadN X252.here hx rfl (Jvm.hb hby at_381) rfl k) ?_
  refine own_go (B := T252.setTop (mkF m 385 #[.val (.int p1), .val (.int p2), .val (.int p3), .val (.int p4), .val (.int p5), .val (.int p6), .val (.int vk), .val (.int (0 : Int32)), .val (.ref b227), .val (.int (1 : Int32))] [])) (fun t k => XS.icmpNo X252.here hx rfl (Jvm.hb hby at_382) rfl (teq (rfl : p4 = p4)).2 k) ?_
  refine own_go (B := T252.setTop (mkF m 386 #[.val (.int p1), .val (.int p2), .val (.int p3), .val (.int p4), .val (.int p5), .val (.int p6), .val (.int vk), .val (.int (0 : Int32)), .val (.ref b227), .val (.int (1 : Int32))] [(.int (1 : Int32))])) (fun t k => XS.iconst X252.here hx rfl (Jvm.hb hby at_385) k) ?_
  refine own_go (B := T252.setTop (mkF m 390 #[.val (.int p1), .val (.int p2), .val (.int p3), .val (.int p4), .val (.int p5), .val (.int p6), .val (.int vk), .val (.int (0 : Int32)), .val (.ref b227), .val (.int (1 : Int32))] [(.int (1 : Int32))])) (fun t k => XS.goto X252.here hx rfl (pc0 := 386) (pc' := 390) rfl (Jvm.hb hby at_386) (by decide) (by decide) k) ?_
  refine own_go (B := T252.setTop (mkF m 392 #[.val (.int p1), .val (.int p2), .val (.int p3), .val (.int p4), .val (.int p5), .val (.int p6), .val (.int vk), .val (.int (0 : Int32)), .val (.ref b227), .val (.int (1 : Int32))] [])) (fun t k => XS.istore X252.here hx rfl (Jvm.hb hby at_390) rfl (l' := #[.val (.int p1), .val (.int p2), .val (.int p3), .val (.int p4), .val (.int p5), .val (.int p6), .val (.int vk), .val (.int (0 : Int32)), .val (.ref b227), .val (.int (1 : Int32))]) rfl k) ?_
  refine own_go (B := T252.setTop (mkF m 394 #[.val (.int p1), .val (.int p2), .val (.int p3), .val (.int p4), .val (.int p5), .val (.int p6), .val (.int vk), .val (.int (0 : Int32)), .val (.ref b227), .val (.int (1 : Int32))] [(.ref b227)])) (fun t k => XS.aload X252.here hx rfl (Jvm.hb hby at_392) rfl rfl k) ?_
  obtain ⟨cq253, kq253, q253a, q253b, q253c⟩ := isOf hZ e252 E_b227
  obtain ⟨_, _, ⟨T253, La253, ka253, na253⟩, -, X253, ⟨Lc253, hQ253, l253, y253, z253⟩, st253⟩ := X252.virtualBack hx (y := (⟨"com/example/term_unifier/termunifier/IntPairStack", "pop", "()V"⟩ : MethodName)) (z := (⟨"com/example/term_unifier/termunifier/IntPairStack", "pop", "()V"⟩ : MethodName)) hown (mvT hZ (own_w hw 50 rfl)) (mvT hZ (own_w hw 51 rfl)) (notFace_of_selects (args := #[]) (mvT hZ (own_w hw 53 rfl))) (mvT hZ (own_w hw 53 rfl)) (mvT hZ (own_w hw 52 rfl)) (by decide) (backOf (W := 0) (rm_popd l Z a0 hw [] b227 b229 b230 b231 b232 (1 : Int32) (2 : Int32) (0 : Int32) (0 : Int32) (1 : Int32) 1 (own_upd (own_upd (own_upd (fun _ => 0) 0 (-1 : Int32)) 1 (0 : Int32)) 2 (0 : Int32)) T249.heap n0 Zs E_b227 F_b227_firsts F_b227_seconds F_b227_below F_b227_top F_b227_used F_b227_kept F_b227_marks V_b231 g_b227 ne_b227_b231 (by decide) (by decide) (by decide) rfl (by decide) (by decide) (by decide)) hZ (own_w hw 54 rfl) (own_w hw 2 rfl) (by decide) (by decide)) q253a q253c (g := (mkF m 394 #[.val (.int p1), .val (.int p2), .val (.int p3), .val (.int p4), .val (.int p5), .val (.int p6), .val (.int vk), .val (.int (0 : Int32)), .val (.ref b227), .val (.int (1 : Int32))] [(.ref b227)])) rfl (by rw [hml]; rfl) (Steps.refl _) (argsL := []) (rest := []) (lenOf pd_0 rfl) rfl (by show 2 * 0 + _ ≤ _; exact Nat.le_of_eq rfl) (Jvm.hb hby at_394) (fun _ _ => ⟨rfl, e252, (by decide : 6 + 0 ≤ _), (by decide : 73 + 0 ≤ _)⟩)
  dsimp only [Pt.U, Pt.locs, Pt.cells, Pt.slots] at X253 l253 y253 z253 st253 hQ253
  have y253 : ka253 = 6 := y253
  have z253 : na253 = 73 := z253
  subst y253 z253
  obtain ⟨rfl, N253q, Kc253, E_b227_q, F_b227_firsts_q, F_b227_seconds_q, F_b227_below_q, F_b227_top_q, F_b227_used_q, F_b227_kept_q, F_b227_marks_q⟩ := hQ253
  have N253 : Fr n0 La253 := by rw [l253]; exact Fr.app N252 N253q
  have V_b229 := V_b229.keep Kc253 (ninS (Ne.symm ne_b227_b229) nin0)
  have V_b230 := V_b230.keep Kc253 (ninS (Ne.symm ne_b227_b230) nin0)
  have V_b231 := V_b231.keep Kc253 (ninS (Ne.symm ne_b227_b231) nin0)
  have E_b232 := E_b232.keep Kc253
  have F_b232_items := F_b232_items.keep Kc253 (ninS (Ne.symm ne_b227_b232) nin0)
  have F_b232_size := F_b232_size.keep Kc253 (ninS (Ne.symm ne_b227_b232) nin0)
  have V_b233 := V_b233.keep Kc253 (ninS (Ne.symm ne_b227_b233) nin0)
  have Zs := Nat.le_trans Zs Kc253.1
  have E_b227 := E_b227_q
  have F_b227_firsts := F_b227_firsts_q
  have F_b227_seconds := F_b227_seconds_q
  have F_b227_below := F_b227_below_q
  have F_b227_top := F_b227_top_q
  have F_b227_used := F_b227_used_q
  have F_b227_kept := F_b227_kept_q
  have F_b227_marks := F_b227_marks_q
  refine own_go (B := T253.setTop (mkF m 397 #[.val (.int p1), .val (.int p2), .val (.int p3), .val (.int p4), .val (.int p5), .val (.int p6), .val (.int vk), .val (.int (0 : Int32)), .val (.ref b227), .val (.int (1 : Int32))] [])) (fun t k => own_st st253 k) ?_
  refine own_go (B := T253.setTop (mkF m 399 #[.val (.int p1), .val (.int p2), .val (.int p3), .val (.int p4), .val (.int p5), .val (.int p6), .val (.int vk), .val (.int (0 : Int32)), .val (.ref b227), .val (.int (1 : Int32))] [(.int (1 : Int32))])) (fun t k => XS.iload X253.here hx rfl (Jvm.hb hby at_397) rfl k) ?_
  refine own_go (B := T253.setTop (mkF m 402 #[.val (.int p1), .val (.int p2), .val (.int p3), .val (.int p4), .val (.int p5), .val (.int p6), .val (.int vk), .val (.int (0 : Int32)), .val (.ref b227), .val (.int (1 : Int32))] [])) (fun t k => XS.ifNo X253.here hx rfl (Jvm.hb hby at_399) rfl ((if0 _ _).trans (feq (by decide : ¬ ((1 : Int32) = (0 : Int32)))).1) k) ?_
  refine own_go (B := T253.setTop (mkF m 404 #[.val (.int p1), .val (.int p2), .val (.int p3), .val (.int p4), .val (.int p5), .val (.int p6), .val (.int vk), .val (.int (0 : Int32)), .val (.ref b227), .val (.int (1 : Int32))] [(.ref b227)])) (fun t k => XS.aload X253.here hx rfl (Jvm.hb hby at_402) rfl rfl k) ?_
  obtain ⟨cq254, kq254, q254a, q254b, q254c⟩ := isOf hZ rfl E_b227
  obtain ⟨_, _, ⟨T254, La254, ka254, na254⟩, -, X254, ⟨Lc254, hQ254, l254, y254, z254⟩, st254⟩ := X253.virtualBack hx (y := (⟨"com/example/term_unifier/termunifier/IntPairStack", "isEmpty", "()Z"⟩ : MethodName)) (z := (⟨"com/example/term_unifier/termunifier/IntPairStack", "isEmpty", "()Z"⟩ : MethodName)) hown (mvT hZ (own_w hw 55 rfl)) (mvT hZ (own_w hw 56 rfl)) (notFace_of_selects (args := #[]) (mvT hZ (own_w hw 58 rfl))) (mvT hZ (own_w hw 58 rfl)) (mvT hZ (own_w hw 57 rfl)) (by decide) (backOf (W := 0) (rm8 l Z a0 hw [] b227 (0 : Int32) (0 : Int32) T253.heap n0 Zs F_b227_top (by decide)) hZ (own_w hw 59 rfl) (own_w hw 2 rfl) (by decide) (by decide)) q254a q254c (g := (mkF m 404 #[.val (.int p1), .val (.int p2), .val (.int p3), .val (.int p4), .val (.int p5), .val (.int p6), .val (.int vk), .val (.int (0 : Int32)), .val (.ref b227), .val (.int (1 : Int32))] [(.ref b227)])) rfl (by rw [hml]; rfl) (Steps.refl _) (argsL := []) (rest := []) (lenOf pd_4 rfl) rfl (by show 2 * 0 + _ ≤ _; exact Nat.le_of_eq rfl) (Jvm.hb hby at_404) (fun _ _ => ⟨rfl, rfl, (by decide : 6 + 0 ≤ _), (by decide : 73 + 0 ≤ _)⟩)
  dsimp only [Pt.U, Pt.locs, Pt.cells, Pt.slots] at X254 l254 y254 z254 st254 hQ254
  have y254 : ka254 = 6 := y254
  have z254 : na254 = 73 := z254
  subst y254 z254
  obtain ⟨rfl, N254q, e254⟩ := hQ254
  have N254 : Fr n0 La254 := by rw [l254]; exact Fr.app N253 N254q
  refine own_go (B := T254.setTop (mkF m 407 #[.val (.int p1), .val (.int p2), .val (.int p3), .val (.int p4), .val (.int p5), .val (.int p6), .val (.int vk), .val (.int (0 : Int32)), .val (.ref b227), .val (.int (1 : Int32))] [(.int (0 : Int32))])) (fun t k => own_st st254 k) ?_
  refine own_go (B := T254.setTop (mkF m 410 #[.val (.int p1), .val (.int p2), .val (.int p3), .val (.int p4), .val (.int p5), .val (.int p6), .val (.int vk), .val (.int (0 : Int32)), .val (.ref b227), .val (.int (1 : Int32))] [])) (fun t k => XS.ifNo X254.here hx rfl (Jvm.hb hby at_407) rfl ((if0 _ _).trans (teq (by decide : (0 : Int32) = (0 : Int32))).2) k) ?_
  refine own_go (B := T254.setTop (mkF m 412 #[.val (.int p1), .val (.int p2), .val (.int p3), .val (.int p4), .val (.int p5), .val (.int p6), .val (.int vk), .val (.int (0 : Int32)), .val (.ref b227), .val (.int (1 : Int32))] [(.ref b227)])) (fun t k => XS.aload X254.here hx rfl (Jvm.hb hby at_410) rfl rfl k) ?_
  obtain ⟨cq255, kq255, q255a, q255b, q255c⟩ := isOf hZ e254 E_b227
  obtain ⟨_, _, ⟨T255, La255, ka255, na255⟩, -, X255, ⟨Lc255, hQ255, l255, y255, z255⟩, st255⟩ := X254.virtualBack hx (y := (⟨"com/example/term_unifier/termunifier/IntPairStack", "first", "()I"⟩ : MethodName)) (z := (⟨"com/example/term_unifier/termunifier/IntPairStack", "first", "()I"⟩ : MethodName)) hown (mvT hZ (own_w hw 60 rfl)) (mvT hZ (own_w hw 61 rfl)) (notFace_of_selects (args := #[]) (mvT hZ (own_w hw 63 rfl))) (mvT hZ (own_w hw 63 rfl)) (mvT hZ (own_w hw 62 rfl)) (by decide) (backOf (W := 0) (rm9 l Z a0 hw [] b227 b229 (0 : Int32) 0 (own_upd (own_upd (own_upd (fun _ => 0) 0 p1) 1 p3) 2 p5) p1 T253.heap n0 Zs F_b227_firsts F_b227_top V_b229 (by decide) (by decide) (by decide) rfl) hZ (own_w hw 64 rfl) (own_w hw 2 rfl) (by decide) (by decide)) q255a q255c (g := (mkF m 412 #[.val (.int p1), .val (.int p2), .val (.int p3), .val (.int p4), .val (.int p5), .val (.int p6), .val (.int vk), .val (.int (0 : Int32)), .val (.ref b227), .val (.int (1 : Int32))] [(.ref b227)])) rfl (by rw [hml]; rfl) (Steps.refl _) (argsL := []) (rest := []) (lenOf pd_2 rfl) rfl (by show 2 * 0 + _ ≤ _; exact Nat.le_of_eq rfl) (Jvm.hb hby at_412) (fun _ _ => ⟨rfl, e254, (by decide : 6 + 0 ≤ _), (by decide : 73 + 0 ≤ _)⟩)
  dsimp only [Pt.U, Pt.locs, Pt.cells, Pt.slots] at X255 l255 y255 z255 st255 hQ255
  have y255 : ka255 = 6 := y255
  have z255 : na255 = 73 := z255
  subst y255 z255
  obtain ⟨rfl, N255q, e255⟩ := hQ255
  have N255 : Fr n0 La255 := by rw [l255]; exact Fr.app N254 N255q
  refine own_go (B := T255.setTop (mkF m 415 #[.val (.int p1), .val (.int p2), .val (.int p3), .val (.int p4), .val (.int p5), .val (.int p6), .val (.int vk), .val (.int (0 : Int32)), .val (.ref b227), .val (.int (1 : Int32))] [(.int p1)])) (fun t k => own_st st255 k) ?_
  refine own_go (B := T255.setTop (mkF m 416 #[.val (.int p1), .val (.int p2), .val (.int p3), .val (.int p4), .val (.int p5), .val (.int p6), .val (.int vk), .val (.int (0 : Int32)), .val (.ref b227), .val (.int (1 : Int32))] [(.int p1), (.int p1)])) (fun t k => XS.iloadN X255.here hx rfl (Jvm.hb hby at_415) rfl k) ?_
  refine own_go (B := T255.setTop (mkF m 419 #[.val (.int p1), .val (.int p2), .val (.int p3), .val (.int p4), .val (.int p5), .val (.int p6), .val (.int vk), .val (.int (0 : Int32)), .val (.ref b227), .val (.int (1 : Int32))] [])) (fun t k => XS.icmpNo X255.here hx rfl (Jvm.hb hby at_416) rfl (teq (rfl : p1 = p1)).2 k) ?_
  refine own_go (B := T255.setTop (mkF m 421 #[.val (.int p1), .val (.int p2), .val (.int p3), .val (.int p4), .val (.int p5), .val (.int p6), .val (.int vk), .val (.int (0 : Int32)), .val (.ref b227), .val (.int (1 : Int32))] [(.ref b227)])) (fun t k => XS.aload X255.here hx rfl (Jvm.hb hby at_419) rfl rfl k) ?_
  obtain ⟨cq256, kq256, q256a, q256b, q256c⟩ := isOf hZ e255 E_b227
  obtain ⟨_, _, ⟨T256, La256, ka256, na256⟩, -, X256, ⟨Lc256, hQ256, l256, y256, z256⟩, st256⟩ := X255.virtualBack hx (y := (⟨"com/example/term_unifier/termunifier/IntPairStack", "second", "()I"⟩ : MethodName)) (z := (⟨"com/example/term_unifier/termunifier/IntPairStack", "second", "()I"⟩ : MethodName)) hown (mvT hZ (own_w hw 65 rfl)) (mvT hZ (own_w hw 66 rfl)) (notFace_of_selects (args := #[]) (mvT hZ (own_w hw 68 rfl))) (mvT hZ (own_w hw 68 rfl)) (mvT hZ (own_w hw 67 rfl)) (by decide) (backOf (W := 0) (rm10 l Z a0 hw [] b227 b230 (0 : Int32) 0 (own_upd (own_upd (own_upd (fun _ => 0) 0 p2) 1 p4) 2 (p5 ^^^ (-1 : Int32))) p2 T253.heap n0 Zs F_b227_seconds F_b227_top V_b230 (by decide) (by decide) (by decide) rfl) hZ (own_w hw 69 rfl) (own_w hw 2 rfl) (by decide) (by decide)) q256a q256c (g := (mkF m 421 #[.val (.int p1), .val (.int p2), .val (.int p3), .val (.int p4), .val (.int p5), .val (.int p6), .val (.int vk), .val (.int (0 : Int32)), .val (.ref b227), .val (.int (1 : Int32))] [(.ref b227)])) rfl (by rw [hml]; rfl) (Steps.refl _) (argsL := []) (rest := []) (lenOf pd_2 rfl) rfl (by show 2 * 0 + _ ≤ _; exact Nat.le_of_eq rfl) (Jvm.hb hby at_421) (fun _ _ => ⟨rfl, e255, (by decide : 6 + 0 ≤ _), (by decide : 73 + 0 ≤ _)⟩)
  dsimp only [Pt.U, Pt.locs, Pt.cells, Pt.slots] at X256 l256 y256 z256 st256 hQ256
  have y256 : ka256 = 6 := y256
  have z256 : na256 = 73 := z256
  subst y256 z256
  obtain ⟨rfl, N256q, e256⟩ := hQ256
  have N256 : Fr n0 La256 := by rw [l256]; exact Fr.app N255 N256q
  refine own_go (B := T256.setTop (mkF m 424 #[.val (.int p1), .val (.int p2), .val (.int p3), .val (.int p4), .val (.int p5), .val (.int p6), .val (.int vk), .val (.int (0 : Int32)), .val (.ref b227), .val (.int (1 : Int32))] [(.int p2)])) (fun t k => own_st st256 k) ?_
  refine own_go (B := T256.setTop (mkF m 425 #[.val (.int p1), .val (.int p2), .val (.int p3), .val (.int p4), .val (.int p5), .val (.int p6), .val (.int vk), .val (.int (0 : Int32)), .val (.ref b227), .val (.int (1 : Int32))] [(.int p2), (.int p2)])) (fun t k => XS.iloadN X256.here hx rfl (Jvm.hb hby at_424) rfl k) ?_
  refine own_go (B := T256.setTop (mkF m 428 #[.val (.int p1), .val (.int p2), .val (.int p3), .val (.int p4), .val (.int p5), .val (.int p6), .val (.int vk), .val (.int (0 : Int32)), .val (.ref b227), .val (.int (1 : Int32))] [])) (fun t k => XS.icmpNo X256.here hx rfl (Jvm.hb hby at_425) rfl (teq (rfl : p2 = p2)).2 k) ?_
  refine own_go (B := T256.setTop (mkF m 429 #[.val (.int p1), .val (.int p2), .val (.int p3), .val (.int p4), .val (.int p5), .val (.int p6), .val (.int vk), .val (.int (0 : Int32)), .val (.ref b227), .val (.int (1 : Int32))] [(.int (1 : Int32))])) (fun t k => XS.iconst X256.here hx rfl (Jvm.hb hby at_428) k) ?_
  refine own_go (B := T256.setTop (mkF m 433 #[.val (.int p1), .val (.int p2), .val (.int p3), .val (.int p4), .val (.int p5), .val (.int p6), .val (.int vk), .val (.int (0 : Int32)), .val (.ref b227), .val (.int (1 : Int32))] [(.int (1 : Int32))])) (fun t k => XS.goto X256.here hx rfl (pc0 := 429) (pc' := 433) rfl (Jvm.hb hby at_429) (by decide) (by decide) k) ?_
  refine own_go (B := T256.setTop (mkF m 435 #[.val (.int p1), .val (.int p2), .val (.int p3), .val (.int p4), .val (.int p5), .val (.int p6), .val (.int vk), .val (.int (0 : Int32)), .val (.ref b227), .val (.int (1 : Int32))] [])) (fun t k => XS.istore X256.here hx rfl (Jvm.hb hby at_433) rfl (l' := #[.val (.int p1), .val (.int p2), .val (.int p3), .val (.int p4), .val (.int p5), .val (.int p6), .val (.int vk), .val (.int (0 : Int32)), .val (.ref b227), .val (.int (1 : Int32))]) rfl k) ?_
  refine own_go (B := T256.setTop (mkF m 437 #[.val (.int p1), .val (.int p2), .val (.int p3), .val (.int p4), .val (.int p5), .val (.int p6), .val (.int vk), .val (.int (0 : Int32)), .val (.ref b227), .val (.int (1 : Int32))] [(.int (1 : Int32))])) (fun t k => XS.iload X256.here hx rfl (Jvm.hb hby at_435) rfl k) ?_
  refine own_out X256 (v := (some (.int (1 : Int32)))) (fun h => by rw [Bd.returns] at h; cases h) Bd.notSynchronized (fun fs hr => retOut X256 hx (t := .boolean) Bd.returns rfl (by first | exact Or.inl ⟨rfl, by simp, _, rfl⟩) (Jvm.hb hby at_437) hr) ?_ (by decide) (by decide)
  show own_Q0 Z p1 p2 p3 p4 p5 p6 h0 n0 (some (.int (1 : Int32))) T256.heap _
  rw [e256]
  exact ⟨rfl, N256⟩
theorem ef_0_30 (m : MethodId) (x0 : Int32) (x1 : Int32) (x2 : Int32) (x3 : Int32) (x4 : Int32) (x5 : Int32) : entryFrame m #[(.int x0), (.int x1), (.int x2), (.int x3), (.int x4), (.int x5)] maxLocals = mkF m 0 #[.val (.int x0), .val (.int x1), .val (.int x2), .val (.int x3), .val (.int x4), .val (.int x5), .unset, .unset, .unset, .unset] [] := by first | (simp [entryFrame, mkF, argsToLocals, Value.category, maxLocals]; done) | rfl
set_option maxRecDepth 65536 in
set_option maxHeartbeats 40000000 in
theorem rm0_30 (l : Launch) (Z : State) (a0 : Array Value) (hw : ∀ d ∈ tables_1, d.before a0 Z = true) (ws : List Jvm.Cond) (p1 : Int32) (p2 : Int32) (p3 : Int32) (p4 : Int32) (p5 : Int32) (p6 : Int32) (h0 : Heap) (n0 : Nat) (Z0 : n0 ≤ h0.size) (hk : (p6 &&& (3 : Int32)) = (3 : Int32)) (ht : ¬ ((p6 &&& (4 : Int32)) = (0 : Int32))) :
    MetFree l x (head1 (Jvm.Cond.code x code maxLocals ret :: ws) room_1) (fun a U => a = #[(.int p1), (.int p2), (.int p3), (.int p4), (.int p5), (.int p6)] ∧ Z.Warmed39 U.vm ∧ U.heap = h0) (fun _ _ _ _ _ => True) (fun _ U o U' => ∃ v L, o = .returned v ∧ own_Q0 Z p1 p2 p3 p4 p5 p6 h0 n0 v U'.heap L ∧ FrameEnd U o U' L room_1.cells room_1.slots) := by
  refine MetFree.of_bodySF (plainFor_of_name pn_com_example_term_unifier_termunifier_IntPairStackPopPinLaw) hisR ?_
  intro p e s m args below meth c s₁ Bd hml0 hP hK
  obtain ⟨rfl, hZ, hh⟩ := hP
  have hx := Bd.exec
  have hby := Bd.bytes
  have hml : c.maxLocals = 10 := hml0
  have hown : s.vm.findClass "com/example/term_unifier/termunifier/IntPairStackPopPinLaw" = some m.cls := findClass_of_methodNamed Bd.named
  have hnm := (name_of_methodNamed Bd.named Bd.method).1
  have X0 : Stand p l e room_1 s m #[(.int p1), (.int p2), (.int p3), (.int p4), (.int p5), (.int p6)] below meth c s₁ [] 0 0 := Stand.of_body Bd
  have e0 : s₁.heap = h0 := by rw [← hh, Bd.state]; rfl
  have N0 := Fr.nil n0
  have Zs := Z0
  show own_Goes p e below s (own_Q0 Z p1 p2 p3 p4 p5 p6 h0 n0) room_1.cells room_1.slots _
  refine own_go (B := s₁.setTop (mkF m 0 #[.val (.int p1), .val (.int p2), .val (.int p3), .val (.int p4), .val (.int p5), .val (.int p6), .unset, .unset, .unset, .unset] [])) (fun t k => castTop (ef_0_30 m p1 p2 p3 p4 p5 p6) k) ?_
  refine own_go (B := s₁.setTop (mkF m 2 #[.val (.int p1), .val (.int p2), .val (.int p3), .val (.int p4), .val (.int p5), .val (.int p6), .unset, .unset, .unset, .unset] [(.int p6)])) (fun t k => XS.iload X0.here hx rfl (Jvm.hb hby at_0) rfl k) ?_
  refine own_go (B := s₁.setTop (mkF m 3 #[.val (.int p1), .val (.int p2), .val (.int p3), .val (.int p4), .val (.int p5), .val (.int p6), .unset, .unset, .unset, .unset] [(.int (3 : Int32)), (.int p6)])) (fun t k => XS.iconst X0.here hx rfl (Jvm.hb hby at_2) k) ?_
  refine own_go (B := s₁.setTop (mkF m 4 #[.val (.int p1), .val (.int p2), .val (.int p3), .val (.int p4), .val (.int p5), .val (.int p6), .unset, .unset, .unset, .unset] [(.int (p6 &&& (3 : Int32)))])) (fun t k => XS.iand X0.here hx rfl (Jvm.hb hby at_3) rfl k) ?_
  obtain ⟨vk, hvk⟩ : ∃ z : Int32, z = (p6 &&& (3 : Int32)) := ⟨_, rfl⟩
  rw [← hvk]
  refine own_go (B := s₁.setTop (mkF m 6 #[.val (.int p1), .val (.int p2), .val (.int p3), .val (.int p4), .val (.int p5), .val (.int p6), .val (.int vk), .unset, .unset, .unset] [])) (fun t k => XS.istore X0.here hx rfl (Jvm.hb hby at_4) rfl (l' := #[.val (.int p1), .val (.int p2), .val (.int p3), .val (.int p4), .val (.int p5), .val (.int p6), .val (.int vk), .unset, .unset, .unset]) rfl k) ?_
  refine own_go (B := s₁.setTop (mkF m 8 #[.val (.int p1), .val (.int p2), .val (.int p3), .val (.int p4), .val (.int p5), .val (.int p6), .val (.int vk), .unset, .unset, .unset] [(.int p6)])) (fun t k => XS.iload X0.here hx rfl (Jvm.hb hby at_6) rfl k) ?_
  refine own_go (B := s₁.setTop (mkF m 9 #[.val (.int p1), .val (.int p2), .val (.int p3), .val (.int p4), .val (.int p5), .val (.int p6), .val (.int vk), .unset, .unset, .unset] [(.int (4 : Int32)), (.int p6)])) (fun t k => XS.iconst X0.here hx rfl (Jvm.hb hby at_8) k) ?_
  refine own_go (B := s₁.setTop (mkF m 10 #[.val (.int p1), .val (.int p2), .val (.int p3), .val (.int p4), .val (.int p5), .val (.int p6), .val (.int vk), .unset, .unset, .unset] [(.int (p6 &&& (4 : Int32)))])) (fun t k => XS.iand X0.here hx rfl (Jvm.hb hby at_9) rfl k) ?_
  refine own_go (B := s₁.setTop (mkF m 13 #[.val (.int p1), .val (.int p2), .val (.int p3), .val (.int p4), .val (.int p5), .val (.int p6), .val (.int vk), .unset, .unset, .unset] [])) (fun t k => XS.ifNo X0.here hx rfl (Jvm.hb hby at_10) rfl ((if0 _ _).trans (feq ht).1) k) ?_
  refine own_go (B := s₁.setTop (mkF m 14 #[.val (.int p1), .val (.int p2), .val (.int p3), .val (.int p4), .val (.int p5), .val (.int p6), .val (.int vk), .unset, .unset, .unset] [(.int (1 : Int32))])) (fun t k => XS.iconst X0.here hx rfl (Jvm.hb hby at_13) k) ?_
  refine own_go (B := s₁.setTop (mkF m 18 #[.val (.int p1), .val (.int p2), .val (.int p3), .val (.int p4), .val (.int p5), .val (.int p6), .val (.int vk), .unset, .unset, .unset] [(.int (1 : Int32))])) (fun t k => XS.goto X0.here hx rfl (pc0 := 14) (pc' := 18) rfl (Jvm.hb hby at_14) (by decide) (by decide) k) ?_
  refine own_go (B := s₁.setTop (mkF m 20 #[.val (.int p1), .val (.int p2), .val (.int p3), .val (.int p4), .val (.int p5), .val (.int p6), .val (.int vk), .val (.int (1 : Int32)), .unset, .unset] [])) (fun t k => XS.istore X0.here hx rfl (Jvm.hb hby at_18) rfl (l' := #[.val (.int p1), .val (.int p2), .val (.int p3), .val (.int p4), .val (.int p5), .val (.int p6), .val (.int vk), .val (.int (1 : Int32)), .unset, .unset]) rfl k) ?_
  obtain ⟨T257, h257, X257, e257, E257, A257, D257, -, st257⟩ := newO X0 hx hZ hown (own_w hw 0 rfl) (own_w hw 1 rfl) (own_w hw 2 rfl) e0 (g := (mkF m 20 #[.val (.int p1), .val (.int p2), .val (.int p3), .val (.int p4), .val (.int p5), .val (.int p6), .val (.int vk), .val (.int (1 : Int32)), .unset, .unset] [])) rfl (Jvm.hb hby at_20) (by decide) (by decide)
  obtain ⟨b257, g257⟩ : ∃ z, z = h0.size := ⟨_, rfl⟩
  rw [← g257] at A257 D257 st257
  have g_b257 : n0 ≤ b257 := Nat.le_trans Zs (Nat.le_of_eq g257.symm)
  have Zs := Nat.le_trans Zs E257.1
  have E_b257 := A257
  have F_b257_firsts : Fld Z h257 b257 "com/example/term_unifier/termunifier/IntPairStack" "firsts" "[I" .null := D257 (Or.inl (own_w hw 11 rfl)) (ty := (.array .int)) (by decide)
  have F_b257_seconds : Fld Z h257 b257 "com/example/term_unifier/termunifier/IntPairStack" "seconds" "[I" .null := D257 (Or.inl (own_w hw 13 rfl)) (ty := (.array .int)) (by decide)
  have F_b257_below : Fld Z h257 b257 "com/example/term_unifier/termunifier/IntPairStack" "below" "[I" .null := D257 (Or.inl (own_w hw 15 rfl)) (ty := (.array .int)) (by decide)
  have F_b257_top : Fld Z h257 b257 "com/example/term_unifier/termunifier/IntPairStack" "top" "I" (.int (0 : Int32)) := D257 (Or.inl (own_w hw 17 rfl)) (ty := .int) (by decide)
  have F_b257_marks : Fld Z h257 b257 "com/example/term_unifier/termunifier/IntPairStack" "marks" "Lcom/example/term_unifier/termunifier/IntStack;" .null := D257 (Or.inr (own_w hw 28 rfl)) (ty := (.object "com/example/term_unifier/termunifier/IntStack")) (by decide)
  have F_b257_used : Fld Z h257 b257 "com/example/term_unifier/termunifier/IntPairStack" "used" "I" (.int (0 : Int32)) := D257 (Or.inl (own_w hw 35 rfl)) (ty := .int) (by decide)
  have F_b257_kept : Fld Z h257 b257 "com/example/term_unifier/termunifier/IntPairStack" "kept" "I" (.int (0 : Int32)) := D257 (Or.inl (own_w hw 49 rfl)) (ty := .int) (by decide)
  refine own_go (B := T257.setTop (mkF m 23 #[.val (.int p1), .val (.int p2), .val (.int p3), .val (.int p4), .val (.int p5), .val (.int p6), .val (.int vk), .val (.int (1 : Int32)), .unset, .unset] [(.ref b257)])) (fun t k => st257 _ k) ?_
  refine own_go (B := T257.setTop (mkF m 24 #[.val (.int p1), .val (.int p2), .val (.int p3), .val (.int p4), .val (.int p5), .val (.int p6), .val (.int vk), .val (.int (1 : Int32)), .unset, .unset] [(.ref b257), (.ref b257)])) (fun t k => XS.dup X257.here hx rfl (Jvm.hb hby at_23) rfl rfl k) ?_
  obtain ⟨_, _, ⟨T258, La258, ka258, na258⟩, -, X258, ⟨Lc258, hQ258, l258, y258, z258⟩, st258⟩ := X257.specialBack hx (y := (⟨"com/example/term_unifier/termunifier/IntPairStack", "<init>", "()V"⟩ : MethodName)) rfl hown (mvT hZ (own_w hw 3 rfl)) (mvT hZ (own_w hw 4 rfl)) (mvT hZ (own_w hw 5 rfl)) (by decide) (backOf (W := 1) (rm1 l Z a0 hw [] b257 h257 n0 Zs E_b257 F_b257_firsts F_b257_seconds F_b257_below F_b257_top F_b257_used F_b257_kept F_b257_marks g_b257) hZ (own_w hw 5 rfl) (own_w hw 2 rfl) (by decide) (by decide)) (g := (mkF m 24 #[.val (.int p1), .val (.int p2), .val (.int p3), .val (.int p4), .val (.int p5), .val (.int p6), .val (.int vk), .val (.int (1 : Int32)), .unset, .unset] [(.ref b257), (.ref b257)])) rfl (by rw [hml]; rfl) (Steps.refl _) (a := b257) (argsL := []) (rest := [(.ref b257)]) (lenOf pd_0 rfl) rfl (by show 2 * 0 + _ ≤ _; exact Nat.le_of_eq rfl) (Jvm.hb hby at_24) (fun _ _ => ⟨rfl, e257, (by decide : 1 + 5 ≤ _), (by decide : 7 + 66 ≤ _)⟩)
  dsimp only [Pt.U, Pt.locs, Pt.cells, Pt.slots] at X258 l258 y258 z258 st258 hQ258
  have y258 : ka258 = 6 := y258
  have z258 : na258 = 73 := z258
  subst y258 z258
  obtain ⟨rfl, N258q, b259, sq_b259, b260, sq_b260, b261, sq_b261, b262, sq_b262, b263, sq_b263, ne_b259_b260, ne_b259_b261, ne_b259_b262, ne_b259_b263, ne_b260_b261, ne_b260_b262, ne_b260_b263, ne_b261_b262, ne_b261_b263, ne_b262_b263, Kc258, E_b257_q, F_b257_firsts_q, F_b257_seconds_q, F_b257_below_q, F_b257_top_q, F_b257_used_q, F_b257_kept_q, F_b257_marks_q, V_b259_q, V_b260_q, V_b261_q, E_b262_q, F_b262_items_q, F_b262_size_q, V_b263_q⟩ := hQ258
  have g_b259 : n0 ≤ b259 := Nat.le_trans Zs sq_b259
  have ne_b257_b259 : b257 ≠ b259 := Nat.ne_of_lt (Nat.lt_of_lt_of_le E_b257.lt sq_b259)
  have g_b260 : n0 ≤ b260 := Nat.le_trans Zs sq_b260
  have ne_b257_b260 : b257 ≠ b260 := Nat.ne_of_lt (Nat.lt_of_lt_of_le E_b257.lt sq_b260)
  have g_b261 : n0 ≤ b261 := Nat.le_trans Zs sq_b261
  have ne_b257_b261 : b257 ≠ b261 := Nat.ne_of_lt (Nat.lt_of_lt_of_le E_b257.lt sq_b261)
  have g_b262 : n0 ≤ b262 := Nat.le_trans Zs sq_b262
  have ne_b257_b262 : b257 ≠ b262 := Nat.ne_of_lt (Nat.lt_of_lt_of_le E_b257.lt sq_b262)
  have g_b263 : n0 ≤ b263 := Nat.le_trans Zs sq_b263
  have ne_b257_b263 : b257 ≠ b263 := Nat.ne_of_lt (Nat.lt_of_lt_of_le E_b257.lt sq_b263)
  have N258 : Fr n0 La258 := by rw [l258]; exact Fr.app N0 N258q
  have Zs := Nat.le_trans Zs Kc258.1
  have E_b257 := E_b257_q
  have F_b257_firsts := F_b257_firsts_q
  have F_b257_seconds := F_b257_seconds_q
  have F_b257_below := F_b257_below_q
  have F_b257_top := F_b257_top_q
  have F_b257_used := F_b257_used_q
  have F_b257_kept := F_b257_kept_q
  have F_b257_marks := F_b257_marks_q
  have V_b259 := V_b259_q
  have V_b260 := V_b260_q
  have V_b261 := V_b261_q
  have E_b262 := E_b262_q
  have F_b262_items := F_b262_items_q
  have F_b262_size := F_b262_size_q
  have V_b263 := V_b263_q
  refine own_go (B := T258.setTop (mkF m 27 #[.val (.int p1), .val (.int p2), .val (.int p3), .val (.int p4), .val (.int p5), .val (.int p6), .val (.int vk), .val (.int (1 : Int32)), .unset, .unset] [(.ref b257)])) (fun t k => own_st st258 k) ?_
  refine own_go (B := T258.setTop (mkF m 29 #[.val (.int p1), .val (.int p2), .val (.int p3), .val (.int p4), .val (.int p5), .val (.int p6), .val (.int vk), .val (.int (1 : Int32)), .val (.ref b257), .unset] [])) (fun t k => XS.astore X258.here hx rfl (Jvm.hb hby at_27) rfl rfl (l' := #[.val (.int p1), .val (.int p2), .val (.int p3), .val (.int p4), .val (.int p5), .val (.int p6), .val (.int vk), .val (.int (1 : Int32)), .val (.ref b257), .unset]) rfl k) ?_
  refine own_go (B := T258.setTop (mkF m 31 #[.val (.int p1), .val (.int p2), .val (.int p3), .val (.int p4), .val (.int p5), .val (.int p6), .val (.int vk), .val (.int (1 : Int32)), .val (.ref b257), .unset] [(.int vk)])) (fun t k => XS.iload X258.here hx rfl (Jvm.hb hby at_29) rfl k) ?_
  refine own_go (B := T258.setTop (mkF m 32 #[.val (.int p1), .val (.int p2), .val (.int p3), .val (.int p4), .val (.int p5), .val (.int p6), .val (.int vk), .val (.int (1 : Int32)), .val (.ref b257), .unset] [(.int (1 : Int32)), (.int vk)])) (fun t k => XS.iconst X258.here hx rfl (Jvm.hb hby at_31) k) ?_
  refine own_go (B := T258.setTop (mkF m 40 #[.val (.int p1), .val (.int p2), .val (.int p3), .val (.int p4), .val (.int p5), .val (.int p6), .val (.int vk), .val (.int (1 : Int32)), .val (.ref b257), .unset] [])) (fun t k => XS.icmpYes X258.here hx rfl (pc0 := 32) (pc' := 40) rfl (Jvm.hb hby at_32) rfl (feq (by rw [hvk, hk]; decide)).2 (by decide) (by decide) k) ?_
  refine own_go (B := T258.setTop (mkF m 42 #[.val (.int p1), .val (.int p2), .val (.int p3), .val (.int p4), .val (.int p5), .val (.int p6), .val (.int vk), .val (.int (1 : Int32)), .val (.ref b257), .unset] [(.ref b257)])) (fun t k => XS.aload X258.here hx rfl (Jvm.hb hby at_40) rfl rfl k) ?_
  refine own_go (B := T258.setTop (mkF m 43 #[.val (.int p1), .val (.int p2), .val (.int p3), .val (.int p4), .val (.int p5), .val (.int p6), .val (.int vk), .val (.int (1 : Int32)), .val (.ref b257), .unset] [(.int p1), (.ref b257)])) (fun t k => XS.iloadN X258.here hx rfl (Jvm.hb hby at_42) rfl k) ?_
  refine own_go (B := T258.setTop (mkF m 44 #[.val (.int p1), .val (.int p2), .val (.int p3), .val (.int p4), .val (.int p5), .val (.int p6), .val (.int vk), .val (.int (1 : Int32)), .val (.ref b257), .unset] [(.int p2), (.int p1), (.ref b257)])) (fun t k => XS.iloadN X258.here hx rfl (Jvm.hb hby at_43) rfl k) ?_
  obtain ⟨cq264, kq264, q264a, q264b, q264c⟩ := isOf hZ rfl E_b257
  obtain ⟨_, _, ⟨T264, La264, ka264, na264⟩, -, X264, ⟨Lc264, hQ264, l264, y264, z264⟩, st264⟩ := X258.virtualBack hx (y := (⟨"com/example/term_unifier/termunifier/IntPairStack", "push", "(II)V"⟩ : MethodName)) (z := (⟨"com/example/term_unifier/termunifier/IntPairStack", "push", "(II)V"⟩ : MethodName)) hown (mvT hZ (own_w hw 29 rfl)) (mvT hZ (own_w hw 30 rfl)) (notFace_of_selects (args := #[]) (mvT hZ (own_w hw 32 rfl))) (mvT hZ (own_w hw 32 rfl)) (mvT hZ (own_w hw 31 rfl)) (by decide) (backOf (W := 0) (rm4 l Z a0 hw [] b257 p1 p2 b259 b260 b261 b262 (-1 : Int32) (0 : Int32) (0 : Int32) (1 : Int32) 0 (fun _ => 0) (fun _ => 0) (fun _ => 0) T258.heap n0 Zs E_b257 F_b257_firsts F_b257_seconds F_b257_below F_b257_top F_b257_used F_b257_kept F_b257_marks V_b259 V_b260 V_b261 g_b257 g_b259 g_b260 g_b261 ne_b257_b259 ne_b257_b260 ne_b257_b261 ne_b259_b260 ne_b259_b261 ne_b260_b261 (by decide) (by decide) (by decide) (by decide) (by decide)) hZ (own_w hw 33 rfl) (own_w hw 2 rfl) (by decide) (by decide)) q264a q264c (g := (mkF m 44 #[.val (.int p1), .val (.int p2), .val (.int p3), .val (.int p4), .val (.int p5), .val (.int p6), .val (.int vk), .val (.int (1 : Int32)), .val (.ref b257), .unset] [(.int p2), (.int p1), (.ref b257)])) rfl (by rw [hml]; rfl) (Steps.refl _) (argsL := [(.int p1), (.int p2)]) (rest := []) (lenOf pd_3 rfl) rfl (by show 2 * 0 + _ ≤ _; exact Nat.le_of_eq rfl) (Jvm.hb hby at_44) (fun _ _ => ⟨rfl, rfl, (by decide : 6 + 0 ≤ _), (by decide : 73 + 0 ≤ _)⟩)
  dsimp only [Pt.U, Pt.locs, Pt.cells, Pt.slots] at X264 l264 y264 z264 st264 hQ264
  have y264 : ka264 = 6 := y264
  have z264 : na264 = 73 := z264
  subst y264 z264
  obtain ⟨rfl, N264q, Kc264, E_b257_q, F_b257_firsts_q, F_b257_seconds_q, F_b257_below_q, F_b257_top_q, F_b257_used_q, F_b257_kept_q, F_b257_marks_q, V_b259_q, V_b260_q, V_b261_q⟩ := hQ264
  have N264 : Fr n0 La264 := by rw [l264]; exact Fr.app N258 N264q
  have E_b262 := E_b262.keep Kc264
  have F_b262_items := F_b262_items.keep Kc264 (ninS (Ne.symm ne_b257_b262) (ninS (Ne.symm ne_b259_b262) (ninS (Ne.symm ne_b260_b262) (ninS (Ne.symm ne_b261_b262) nin0))))
  have F_b262_size := F_b262_size.keep Kc264 (ninS (Ne.symm ne_b257_b262) (ninS (Ne.symm ne_b259_b262) (ninS (Ne.symm ne_b260_b262) (ninS (Ne.symm ne_b261_b262) nin0))))
  have V_b263 := V_b263.keep Kc264 (ninS (Ne.symm ne_b257_b263) (ninS (Ne.symm ne_b259_b263) (ninS (Ne.symm ne_b260_b263) (ninS (Ne.symm ne_b261_b263) nin0))))
  have Zs := Nat.le_trans Zs Kc264.1
  have E_b257 := E_b257_q
  have F_b257_firsts := F_b257_firsts_q
  have F_b257_seconds := F_b257_seconds_q
  have F_b257_below := F_b257_below_q
  have F_b257_top := F_b257_top_q
  have F_b257_used := F_b257_used_q
  have F_b257_kept := F_b257_kept_q
  have F_b257_marks := F_b257_marks_q
  have V_b259 := V_b259_q
  have V_b260 := V_b260_q
  have V_b261 := V_b261_q
  refine own_go (B := T264.setTop (mkF m 47 #[.val (.int p1), .val (.int p2), .val (.int p3), .val (.int p4), .val (.int p5), .val (.int p6), .val (.int vk), .val (.int (1 : Int32)), .val (.ref b257), .unset] [])) (fun t k => own_st st264 k) ?_
  refine own_go (B := T264.setTop (mkF m 49 #[.val (.int p1), .val (.int p2), .val (.int p3), .val (.int p4), .val (.int p5), .val (.int p6), .val (.int vk), .val (.int (1 : Int32)), .val (.ref b257), .unset] [(.int vk)])) (fun t k => XS.iload X264.here hx rfl (Jvm.hb hby at_47) rfl k) ?_
  refine own_go (B := T264.setTop (mkF m 50 #[.val (.int p1), .val (.int p2), .val (.int p3), .val (.int p4), .val (.int p5), .val (.int p6), .val (.int vk), .val (.int (1 : Int32)), .val (.ref b257), .unset] [(.int (2 : Int32)), (.int vk)])) (fun t k => XS.iconst X264.here hx rfl (Jvm.hb hby at_49) k) ?_
  refine own_go (B := T264.setTop (mkF m 58 #[.val (.int p1), .val (.int p2), .val (.int p3), .val (.int p4), .val (.int p5), .val (.int p6), .val (.int vk), .val (.int (1 : Int32)), .val (.ref b257), .unset] [])) (fun t k => XS.icmpYes X264.here hx rfl (pc0 := 50) (pc' := 58) rfl (Jvm.hb hby at_50) rfl (feq (by rw [hvk, hk]; decide)).2 (by decide) (by decide) k) ?_
  refine own_go (B := T264.setTop (mkF m 60 #[.val (.int p1), .val (.int p2), .val (.int p3), .val (.int p4), .val (.int p5), .val (.int p6), .val (.int vk), .val (.int (1 : Int32)), .val (.ref b257), .unset] [(.ref b257)])) (fun t k => XS.aload X264.here hx rfl (Jvm.hb hby at_58) rfl rfl k) ?_
  refine own_go (B := T264.setTop (mkF m 61 #[.val (.int p1), .val (.int p2), .val (.int p3), .val (.int p4), .val (.int p5), .val (.int p6), .val (.int vk), .val (.int (1 : Int32)), .val (.ref b257), .unset] [(.int p3), (.ref b257)])) (fun t k => XS.iloadN X264.here hx rfl (Jvm.hb hby at_60) rfl k) ?_
  refine own_go (B := T264.setTop (mkF m 62 #[.val (.int p1), .val (.int p2), .val (.int p3), .val (.int p4), .val (.int p5), .val (.int p6), .val (.int vk), .val (.int (1 : Int32)), .val (.ref b257), .unset] [(.int p4), (.int p3), (.ref b257)])) (fun t k => XS.iloadN X264.here hx rfl (Jvm.hb hby at_61) rfl k) ?_
  obtain ⟨cq265, kq265, q265a, q265b, q265c⟩ := isOf hZ rfl E_b257
  obtain ⟨_, _, ⟨T265, La265, ka265, na265⟩, -, X265, ⟨Lc265, hQ265, l265, y265, z265⟩, st265⟩ := X264.virtualBack hx (y := (⟨"com/example/term_unifier/termunifier/IntPairStack", "push", "(II)V"⟩ : MethodName)) (z := (⟨"com/example/term_unifier/termunifier/IntPairStack", "push", "(II)V"⟩ : MethodName)) hown (mvT hZ (own_w hw 29 rfl)) (mvT hZ (own_w hw 30 rfl)) (notFace_of_selects (args := #[]) (mvT hZ (own_w hw 32 rfl))) (mvT hZ (own_w hw 32 rfl)) (mvT hZ (own_w hw 31 rfl)) (by decide) (backOf (W := 0) (rm4 l Z a0 hw [] b257 p3 p4 b259 b260 b261 b262 (0 : Int32) (1 : Int32) (0 : Int32) (2 : Int32) 1 (own_upd (fun _ => 0) 0 p1) (own_upd (fun _ => 0) 0 p2) (own_upd (fun _ => 0) 0 (-1 : Int32)) T264.heap n0 Zs E_b257 F_b257_firsts F_b257_seconds F_b257_below F_b257_top F_b257_used F_b257_kept F_b257_marks V_b259 V_b260 V_b261 g_b257 g_b259 g_b260 g_b261 ne_b257_b259 ne_b257_b260 ne_b257_b261 ne_b259_b260 ne_b259_b261 ne_b260_b261 (by decide) (by decide) (by decide) (by decide) (by decide)) hZ (own_w hw 33 rfl) (own_w hw 2 rfl) (by decide) (by decide)) q265a q265c (g := (mkF m 62 #[.val (.int p1), .val (.int p2), .val (.int p3), .val (.int p4), .val (.int p5), .val (.int p6), .val (.int vk), .val (.int (1 : Int32)), .val (.ref b257), .unset] [(.int p4), (.int p3), (.ref b257)])) rfl (by rw [hml]; rfl) (Steps.refl _) (argsL := [(.int p3), (.int p4)]) (rest := []) (lenOf pd_3 rfl) rfl (by show 2 * 0 + _ ≤ _; exact Nat.le_of_eq rfl) (Jvm.hb hby at_62) (fun _ _ => ⟨rfl, rfl, (by decide : 6 + 0 ≤ _), (by decide : 73 + 0 ≤ _)⟩)
  dsimp only [Pt.U, Pt.locs, Pt.cells, Pt.slots] at X265 l265 y265 z265 st265 hQ265
  have y265 : ka265 = 6 := y265
  have z265 : na265 = 73 := z265
  subst y265 z265
  obtain ⟨rfl, N265q, Kc265, E_b257_q, F_b257_firsts_q, F_b257_seconds_q, F_b257_below_q, F_b257_top_q, F_b257_used_q, F_b257_kept_q, F_b257_marks_q, V_b259_q, V_b260_q, V_b261_q⟩ := hQ265
  have N265 : Fr n0 La265 := by rw [l265]; exact Fr.app N264 N265q
  have E_b262 := E_b262.keep Kc265
  have F_b262_items := F_b262_items.keep Kc265 (ninS (Ne.symm ne_b257_b262) (ninS (Ne.symm ne_b259_b262) (ninS (Ne.symm ne_b260_b262) (ninS (Ne.symm ne_b261_b262) nin0))))
  have F_b262_size := F_b262_size.keep Kc265 (ninS (Ne.symm ne_b257_b262) (ninS (Ne.symm ne_b259_b262) (ninS (Ne.symm ne_b260_b262) (ninS (Ne.symm ne_b261_b262) nin0))))
  have V_b263 := V_b263.keep Kc265 (ninS (Ne.symm ne_b257_b263) (ninS (Ne.symm ne_b259_b263) (ninS (Ne.symm ne_b260_b263) (ninS (Ne.symm ne_b261_b263) nin0))))
  have Zs := Nat.le_trans Zs Kc265.1
  have E_b257 := E_b257_q
  have F_b257_firsts := F_b257_firsts_q
  have F_b257_seconds := F_b257_seconds_q
  have F_b257_below := F_b257_below_q
  have F_b257_top := F_b257_top_q
  have F_b257_used := F_b257_used_q
  have F_b257_kept := F_b257_kept_q
  have F_b257_marks := F_b257_marks_q
  have V_b259 := V_b259_q
  have V_b260 := V_b260_q
  have V_b261 := V_b261_q
  refine own_go (B := T265.setTop (mkF m 65 #[.val (.int p1), .val (.int p2), .val (.int p3), .val (.int p4), .val (.int p5), .val (.int p6), .val (.int vk), .val (.int (1 : Int32)), .val (.ref b257), .unset] [])) (fun t k => own_st st265 k) ?_
  refine own_go (B := T265.setTop (mkF m 67 #[.val (.int p1), .val (.int p2), .val (.int p3), .val (.int p4), .val (.int p5), .val (.int p6), .val (.int vk), .val (.int (1 : Int32)), .val (.ref b257), .unset] [(.int vk)])) (fun t k => XS.iload X265.here hx rfl (Jvm.hb hby at_65) rfl k) ?_
  refine own_go (B := T265.setTop (mkF m 68 #[.val (.int p1), .val (.int p2), .val (.int p3), .val (.int p4), .val (.int p5), .val (.int p6), .val (.int vk), .val (.int (1 : Int32)), .val (.ref b257), .unset] [(.int (3 : Int32)), (.int vk)])) (fun t k => XS.iconst X265.here hx rfl (Jvm.hb hby at_67) k) ?_
  refine own_go (B := T265.setTop (mkF m 71 #[.val (.int p1), .val (.int p2), .val (.int p3), .val (.int p4), .val (.int p5), .val (.int p6), .val (.int vk), .val (.int (1 : Int32)), .val (.ref b257), .unset] [])) (fun t k => XS.icmpNo X265.here hx rfl (Jvm.hb hby at_68) rfl (teq (hvk.trans hk)).2 k) ?_
  refine own_go (B := T265.setTop (mkF m 73 #[.val (.int p1), .val (.int p2), .val (.int p3), .val (.int p4), .val (.int p5), .val (.int p6), .val (.int vk), .val (.int (1 : Int32)), .val (.ref b257), .unset] [(.ref b257)])) (fun t k => XS.aload X265.here hx rfl (Jvm.hb hby at_71) rfl rfl k) ?_
  obtain ⟨cq266, kq266, q266a, q266b, q266c⟩ := isOf hZ rfl E_b257
  obtain ⟨_, _, ⟨T266, La266, ka266, na266⟩, -, X266, ⟨Lc266, hQ266, l266, y266, z266⟩, st266⟩ := X265.virtualBack hx (y := (⟨"com/example/term_unifier/termunifier/IntPairStack", "mark", "()V"⟩ : MethodName)) (z := (⟨"com/example/term_unifier/termunifier/IntPairStack", "mark", "()V"⟩ : MethodName)) hown (mvT hZ (own_w hw 36 rfl)) (mvT hZ (own_w hw 37 rfl)) (notFace_of_selects (args := #[]) (mvT hZ (own_w hw 39 rfl))) (mvT hZ (own_w hw 39 rfl)) (mvT hZ (own_w hw 38 rfl)) (by decide) (backOf (W := 0) (rm5 l Z a0 hw [] b257 b259 b260 b261 b262 b263 (1 : Int32) (2 : Int32) (0 : Int32) (fun _ => 0) T265.heap n0 Zs E_b257 F_b257_firsts F_b257_seconds F_b257_below F_b257_top F_b257_used F_b257_kept F_b257_marks E_b262 F_b262_items F_b262_size V_b263 g_b257 g_b262 g_b263 ne_b257_b262 ne_b257_b263 ne_b262_b263) hZ (own_w hw 40 rfl) (own_w hw 2 rfl) (by decide) (by decide)) q266a q266c (g := (mkF m 73 #[.val (.int p1), .val (.int p2), .val (.int p3), .val (.int p4), .val (.int p5), .val (.int p6), .val (.int vk), .val (.int (1 : Int32)), .val (.ref b257), .unset] [(.ref b257)])) rfl (by rw [hml]; rfl) (Steps.refl _) (argsL := []) (rest := []) (lenOf pd_0 rfl) rfl (by show 2 * 0 + _ ≤ _; exact Nat.le_of_eq rfl) (Jvm.hb hby at_73) (fun _ _ => ⟨rfl, rfl, (by decide : 6 + 0 ≤ _), (by decide : 73 + 0 ≤ _)⟩)
  dsimp only [Pt.U, Pt.locs, Pt.cells, Pt.slots] at X266 l266 y266 z266 st266 hQ266
  have y266 : ka266 = 6 := y266
  have z266 : na266 = 73 := z266
  subst y266 z266
  obtain ⟨rfl, N266q, Kc266, E_b257_q, F_b257_firsts_q, F_b257_seconds_q, F_b257_below_q, F_b257_top_q, F_b257_used_q, F_b257_kept_q, F_b257_marks_q, E_b262_q, F_b262_items_q, F_b262_size_q, V_b263_q⟩ := hQ266
  have N266 : Fr n0 La266 := by rw [l266]; exact Fr.app N265 N266q
  have V_b259 := V_b259.keep Kc266 (ninS (Ne.symm ne_b257_b259) (ninS ne_b259_b262 (ninS ne_b259_b263 nin0)))
  have V_b260 := V_b260.keep Kc266 (ninS (Ne.symm ne_b257_b260) (ninS ne_b260_b262 (ninS ne_b260_b263 nin0)))
  have V_b261 := V_b261.keep Kc266 (ninS (Ne.symm ne_b257_b261) (ninS ne_b261_b262 (ninS ne_b261_b263 nin0)))
  have Zs := Nat.le_trans Zs Kc266.1
  have E_b257 := E_b257_q
  have F_b257_firsts := F_b257_firsts_q
  have F_b257_seconds := F_b257_seconds_q
  have F_b257_below := F_b257_below_q
  have F_b257_top := F_b257_top_q
  have F_b257_used := F_b257_used_q
  have F_b257_kept := F_b257_kept_q
  have F_b257_marks := F_b257_marks_q
  have E_b262 := E_b262_q
  have F_b262_items := F_b262_items_q
  have F_b262_size := F_b262_size_q
  have V_b263 := V_b263_q
  refine own_go (B := T266.setTop (mkF m 76 #[.val (.int p1), .val (.int p2), .val (.int p3), .val (.int p4), .val (.int p5), .val (.int p6), .val (.int vk), .val (.int (1 : Int32)), .val (.ref b257), .unset] [])) (fun t k => own_st st266 k) ?_
  refine own_go (B := T266.setTop (mkF m 78 #[.val (.int p1), .val (.int p2), .val (.int p3), .val (.int p4), .val (.int p5), .val (.int p6), .val (.int vk), .val (.int (1 : Int32)), .val (.ref b257), .unset] [(.ref b257)])) (fun t k => XS.aload X266.here hx rfl (Jvm.hb hby at_76) rfl rfl k) ?_
  obtain ⟨cq267, kq267, q267a, q267b, q267c⟩ := isOf hZ rfl E_b257
  obtain ⟨_, _, ⟨T267, La267, ka267, na267⟩, -, X267, ⟨Lc267, hQ267, l267, y267, z267⟩, st267⟩ := X266.virtualBack hx (y := (⟨"com/example/term_unifier/termunifier/IntPairStack", "pop", "()V"⟩ : MethodName)) (z := (⟨"com/example/term_unifier/termunifier/IntPairStack", "pop", "()V"⟩ : MethodName)) hown (mvT hZ (own_w hw 50 rfl)) (mvT hZ (own_w hw 51 rfl)) (notFace_of_selects (args := #[]) (mvT hZ (own_w hw 53 rfl))) (mvT hZ (own_w hw 53 rfl)) (mvT hZ (own_w hw 52 rfl)) (by decide) (backOf (W := 0) (rm_popk l Z a0 hw [] b257 b259 b260 b261 b262 (1 : Int32) (2 : Int32) (2 : Int32) (0 : Int32) (1 : Int32) 1 (own_upd (own_upd (fun _ => 0) 0 (-1 : Int32)) 1 (0 : Int32)) T266.heap n0 Zs E_b257 F_b257_firsts F_b257_seconds F_b257_below F_b257_top F_b257_used F_b257_kept F_b257_marks V_b261 g_b257 ne_b257_b261 (by decide) (by decide) (by decide) rfl (by decide) (by decide) (by decide)) hZ (own_w hw 54 rfl) (own_w hw 2 rfl) (by decide) (by decide)) q267a q267c (g := (mkF m 78 #[.val (.int p1), .val (.int p2), .val (.int p3), .val (.int p4), .val (.int p5), .val (.int p6), .val (.int vk), .val (.int (1 : Int32)), .val (.ref b257), .unset] [(.ref b257)])) rfl (by rw [hml]; rfl) (Steps.refl _) (argsL := []) (rest := []) (lenOf pd_0 rfl) rfl (by show 2 * 0 + _ ≤ _; exact Nat.le_of_eq rfl) (Jvm.hb hby at_78) (fun _ _ => ⟨rfl, rfl, (by decide : 6 + 0 ≤ _), (by decide : 73 + 0 ≤ _)⟩)
  dsimp only [Pt.U, Pt.locs, Pt.cells, Pt.slots] at X267 l267 y267 z267 st267 hQ267
  have y267 : ka267 = 6 := y267
  have z267 : na267 = 73 := z267
  subst y267 z267
  obtain ⟨rfl, N267q, Kc267, E_b257_q, F_b257_firsts_q, F_b257_seconds_q, F_b257_below_q, F_b257_top_q, F_b257_used_q, F_b257_kept_q, F_b257_marks_q⟩ := hQ267
  have N267 : Fr n0 La267 := by rw [l267]; exact Fr.app N266 N267q
  have V_b259 := V_b259.keep Kc267 (ninS (Ne.symm ne_b257_b259) nin0)
  have V_b260 := V_b260.keep Kc267 (ninS (Ne.symm ne_b257_b260) nin0)
  have V_b261 := V_b261.keep Kc267 (ninS (Ne.symm ne_b257_b261) nin0)
  have E_b262 := E_b262.keep Kc267
  have F_b262_items := F_b262_items.keep Kc267 (ninS (Ne.symm ne_b257_b262) nin0)
  have F_b262_size := F_b262_size.keep Kc267 (ninS (Ne.symm ne_b257_b262) nin0)
  have V_b263 := V_b263.keep Kc267 (ninS (Ne.symm ne_b257_b263) nin0)
  have Zs := Nat.le_trans Zs Kc267.1
  have E_b257 := E_b257_q
  have F_b257_firsts := F_b257_firsts_q
  have F_b257_seconds := F_b257_seconds_q
  have F_b257_below := F_b257_below_q
  have F_b257_top := F_b257_top_q
  have F_b257_used := F_b257_used_q
  have F_b257_kept := F_b257_kept_q
  have F_b257_marks := F_b257_marks_q
  refine own_go (B := T267.setTop (mkF m 81 #[.val (.int p1), .val (.int p2), .val (.int p3), .val (.int p4), .val (.int p5), .val (.int p6), .val (.int vk), .val (.int (1 : Int32)), .val (.ref b257), .unset] [])) (fun t k => own_st st267 k) ?_
  refine own_go (B := T267.setTop (mkF m 83 #[.val (.int p1), .val (.int p2), .val (.int p3), .val (.int p4), .val (.int p5), .val (.int p6), .val (.int vk), .val (.int (1 : Int32)), .val (.ref b257), .unset] [(.ref b257)])) (fun t k => XS.aload X267.here hx rfl (Jvm.hb hby at_81) rfl rfl k) ?_
  obtain ⟨cq268, kq268, q268a, q268b, q268c⟩ := isOf hZ rfl E_b257
  obtain ⟨_, _, ⟨T268, La268, ka268, na268⟩, -, X268, ⟨Lc268, hQ268, l268, y268, z268⟩, st268⟩ := X267.virtualBack hx (y := (⟨"com/example/term_unifier/termunifier/IntPairStack", "isEmpty", "()Z"⟩ : MethodName)) (z := (⟨"com/example/term_unifier/termunifier/IntPairStack", "isEmpty", "()Z"⟩ : MethodName)) hown (mvT hZ (own_w hw 55 rfl)) (mvT hZ (own_w hw 56 rfl)) (notFace_of_selects (args := #[]) (mvT hZ (own_w hw 58 rfl))) (mvT hZ (own_w hw 58 rfl)) (mvT hZ (own_w hw 57 rfl)) (by decide) (backOf (W := 0) (rm8 l Z a0 hw [] b257 (0 : Int32) (0 : Int32) T267.heap n0 Zs F_b257_top (by decide)) hZ (own_w hw 59 rfl) (own_w hw 2 rfl) (by decide) (by decide)) q268a q268c (g := (mkF m 83 #[.val (.int p1), .val (.int p2), .val (.int p3), .val (.int p4), .val (.int p5), .val (.int p6), .val (.int vk), .val (.int (1 : Int32)), .val (.ref b257), .unset] [(.ref b257)])) rfl (by rw [hml]; rfl) (Steps.refl _) (argsL := []) (rest := []) (lenOf pd_4 rfl) rfl (by show 2 * 0 + _ ≤ _; exact Nat.le_of_eq rfl) (Jvm.hb hby at_83) (fun _ _ => ⟨rfl, rfl, (by decide : 6 + 0 ≤ _), (by decide : 73 + 0 ≤ _)⟩)
  dsimp only [Pt.U, Pt.locs, Pt.cells, Pt.slots] at X268 l268 y268 z268 st268 hQ268
  have y268 : ka268 = 6 := y268
  have z268 : na268 = 73 := z268
  subst y268 z268
  obtain ⟨rfl, N268q, e268⟩ := hQ268
  have N268 : Fr n0 La268 := by rw [l268]; exact Fr.app N267 N268q
  refine own_go (B := T268.setTop (mkF m 86 #[.val (.int p1), .val (.int p2), .val (.int p3), .val (.int p4), .val (.int p5), .val (.int p6), .val (.int vk), .val (.int (1 : Int32)), .val (.ref b257), .unset] [(.int (0 : Int32))])) (fun t k => own_st st268 k) ?_
  refine own_go (B := T268.setTop (mkF m 89 #[.val (.int p1), .val (.int p2), .val (.int p3), .val (.int p4), .val (.int p5), .val (.int p6), .val (.int vk), .val (.int (1 : Int32)), .val (.ref b257), .unset] [])) (fun t k => XS.ifNo X268.here hx rfl (Jvm.hb hby at_86) rfl ((if0 _ _).trans (teq (by decide : (0 : Int32) = (0 : Int32))).2) k) ?_
  refine own_go (B := T268.setTop (mkF m 91 #[.val (.int p1), .val (.int p2), .val (.int p3), .val (.int p4), .val (.int p5), .val (.int p6), .val (.int vk), .val (.int (1 : Int32)), .val (.ref b257), .unset] [(.ref b257)])) (fun t k => XS.aload X268.here hx rfl (Jvm.hb hby at_89) rfl rfl k) ?_
  obtain ⟨cq269, kq269, q269a, q269b, q269c⟩ := isOf hZ e268 E_b257
  obtain ⟨_, _, ⟨T269, La269, ka269, na269⟩, -, X269, ⟨Lc269, hQ269, l269, y269, z269⟩, st269⟩ := X268.virtualBack hx (y := (⟨"com/example/term_unifier/termunifier/IntPairStack", "first", "()I"⟩ : MethodName)) (z := (⟨"com/example/term_unifier/termunifier/IntPairStack", "first", "()I"⟩ : MethodName)) hown (mvT hZ (own_w hw 60 rfl)) (mvT hZ (own_w hw 61 rfl)) (notFace_of_selects (args := #[]) (mvT hZ (own_w hw 63 rfl))) (mvT hZ (own_w hw 63 rfl)) (mvT hZ (own_w hw 62 rfl)) (by decide) (backOf (W := 0) (rm9 l Z a0 hw [] b257 b259 (0 : Int32) 0 (own_upd (own_upd (fun _ => 0) 0 p1) 1 p3) p1 T267.heap n0 Zs F_b257_firsts F_b257_top V_b259 (by decide) (by decide) (by decide) rfl) hZ (own_w hw 64 rfl) (own_w hw 2 rfl) (by decide) (by decide)) q269a q269c (g := (mkF m 91 #[.val (.int p1), .val (.int p2), .val (.int p3), .val (.int p4), .val (.int p5), .val (.int p6), .val (.int vk), .val (.int (1 : Int32)), .val (.ref b257), .unset] [(.ref b257)])) rfl (by rw [hml]; rfl) (Steps.refl _) (argsL := []) (rest := []) (lenOf pd_2 rfl) rfl (by show 2 * 0 + _ ≤ _; exact Nat.le_of_eq rfl) (Jvm.hb hby at_91) (fun _ _ => ⟨rfl, e268, (by decide : 6 + 0 ≤ _), (by decide : 73 + 0 ≤ _)⟩)
  dsimp only [Pt.U, Pt.locs, Pt.cells, Pt.slots] at X269 l269 y269 z269 st269 hQ269
  have y269 : ka269 = 6 := y269
  have z269 : na269 = 73 := z269
  subst y269 z269
  obtain ⟨rfl, N269q, e269⟩ := hQ269
  have N269 : Fr n0 La269 := by rw [l269]; exact Fr.app N268 N269q
  refine own_go (B := T269.setTop (mkF m 94 #[.val (.int p1), .val (.int p2), .val (.int p3), .val (.int p4), .val (.int p5), .val (.int p6), .val (.int vk), .val (.int (1 : Int32)), .val (.ref b257), .unset] [(.int p1)])) (fun t k => own_st st269 k) ?_
  refine own_go (B := T269.setTop (mkF m 95 #[.val (.int p1), .val (.int p2), .val (.int p3), .val (.int p4), .val (.int p5), .val (.int p6), .val (.int vk), .val (.int (1 : Int32)), .val (.ref b257), .unset] [(.int p1), (.int p1)])) (fun t k => XS.iloadN X269.here hx rfl (Jvm.hb hby at_94) rfl k) ?_
  refine own_go (B := T269.setTop (mkF m 98 #[.val (.int p1), .val (.int p2), .val (.int p3), .val (.int p4), .val (.int p5), .val (.int p6), .val (.int vk), .val (.int (1 : Int32)), .val (.ref b257), .unset] [])) (fun t k => XS.icmpNo X269.here hx rfl (Jvm.hb hby at_95) rfl (teq (rfl : p1 = p1)).2 k) ?_
  refine own_go (B := T269.setTop (mkF m 100 #[.val (.int p1), .val (.int p2), .val (.int p3), .val (.int p4), .val (.int p5), .val (.int p6), .val (.int vk), .val (.int (1 : Int32)), .val (.ref b257), .unset] [(.ref b257)])) (fun t k => XS.aload X269.here hx rfl (Jvm.hb hby at_98) rfl rfl k) ?_
  obtain ⟨cq270, kq270, q270a, q270b, q270c⟩ := isOf hZ e269 E_b257
  obtain ⟨_, _, ⟨T270, La270, ka270, na270⟩, -, X270, ⟨Lc270, hQ270, l270, y270, z270⟩, st270⟩ := X269.virtualBack hx (y := (⟨"com/example/term_unifier/termunifier/IntPairStack", "second", "()I"⟩ : MethodName)) (z := (⟨"com/example/term_unifier/termunifier/IntPairStack", "second", "()I"⟩ : MethodName)) hown (mvT hZ (own_w hw 65 rfl)) (mvT hZ (own_w hw 66 rfl)) (notFace_of_selects (args := #[]) (mvT hZ (own_w hw 68 rfl))) (mvT hZ (own_w hw 68 rfl)) (mvT hZ (own_w hw 67 rfl)) (by decide) (backOf (W := 0) (rm10 l Z a0 hw [] b257 b260 (0 : Int32) 0 (own_upd (own_upd (fun _ => 0) 0 p2) 1 p4) p2 T267.heap n0 Zs F_b257_seconds F_b257_top V_b260 (by decide) (by decide) (by decide) rfl) hZ (own_w hw 69 rfl) (own_w hw 2 rfl) (by decide) (by decide)) q270a q270c (g := (mkF m 100 #[.val (.int p1), .val (.int p2), .val (.int p3), .val (.int p4), .val (.int p5), .val (.int p6), .val (.int vk), .val (.int (1 : Int32)), .val (.ref b257), .unset] [(.ref b257)])) rfl (by rw [hml]; rfl) (Steps.refl _) (argsL := []) (rest := []) (lenOf pd_2 rfl) rfl (by show 2 * 0 + _ ≤ _; exact Nat.le_of_eq rfl) (Jvm.hb hby at_100) (fun _ _ => ⟨rfl, e269, (by decide : 6 + 0 ≤ _), (by decide : 73 + 0 ≤ _)⟩)
  dsimp only [Pt.U, Pt.locs, Pt.cells, Pt.slots] at X270 l270 y270 z270 st270 hQ270
  have y270 : ka270 = 6 := y270
  have z270 : na270 = 73 := z270
  subst y270 z270
  obtain ⟨rfl, N270q, e270⟩ := hQ270
  have N270 : Fr n0 La270 := by rw [l270]; exact Fr.app N269 N270q
  refine own_go (B := T270.setTop (mkF m 103 #[.val (.int p1), .val (.int p2), .val (.int p3), .val (.int p4), .val (.int p5), .val (.int p6), .val (.int vk), .val (.int (1 : Int32)), .val (.ref b257), .unset] [(.int p2)])) (fun t k => own_st st270 k) ?_
  refine own_go (B := T270.setTop (mkF m 104 #[.val (.int p1), .val (.int p2), .val (.int p3), .val (.int p4), .val (.int p5), .val (.int p6), .val (.int vk), .val (.int (1 : Int32)), .val (.ref b257), .unset] [(.int p2), (.int p2)])) (fun t k => XS.iloadN X270.here hx rfl (Jvm.hb hby at_103) rfl k) ?_
  refine own_go (B := T270.setTop (mkF m 107 #[.val (.int p1), .val (.int p2), .val (.int p3), .val (.int p4), .val (.int p5), .val (.int p6), .val (.int vk), .val (.int (1 : Int32)), .val (.ref b257), .unset] [])) (fun t k => XS.icmpNo X270.here hx rfl (Jvm.hb hby at_104) rfl (teq (rfl : p2 = p2)).2 k) ?_
  refine own_go (B := T270.setTop (mkF m 108 #[.val (.int p1), .val (.int p2), .val (.int p3), .val (.int p4), .val (.int p5), .val (.int p6), .val (.int vk), .val (.int (1 : Int32)), .val (.ref b257), .unset] [(.int (1 : Int32))])) (fun t k => XS.iconst X270.here hx rfl (Jvm.hb hby at_107) k) ?_
  refine own_go (B := T270.setTop (mkF m 112 #[.val (.int p1), .val (.int p2), .val (.int p3), .val (.int p4), .val (.int p5), .val (.int p6), .val (.int vk), .val (.int (1 : Int32)), .val (.ref b257), .unset] [(.int (1 : Int32))])) (fun t k => XS.goto X270.here hx rfl (pc0 := 108) (pc' := 112) rfl (Jvm.hb hby at_108) (by decide) (by decide) k) ?_
  refine own_go (B := T270.setTop (mkF m 114 #[.val (.int p1), .val (.int p2), .val (.int p3), .val (.int p4), .val (.int p5), .val (.int p6), .val (.int vk), .val (.int (1 : Int32)), .val (.ref b257), .val (.int (1 : Int32))] [])) (fun t k => XS.istore X270.here hx rfl (Jvm.hb hby at_112) rfl (l' := #[.val (.int p1), .val (.int p2), .val (.int p3), .val (.int p4), .val (.int p5), .val (.int p6), .val (.int vk), .val (.int (1 : Int32)), .val (.ref b257), .val (.int (1 : Int32))]) rfl k) ?_
  refine own_go (B := T270.setTop (mkF m 116 #[.val (.int p1), .val (.int p2), .val (.int p3), .val (.int p4), .val (.int p5), .val (.int p6), .val (.int vk), .val (.int (1 : Int32)), .val (.ref b257), .val (.int (1 : Int32))] [(.int (1 : Int32))])) (fun t k => XS.iload X270.here hx rfl (Jvm.hb hby at_114) rfl k) ?_
  refine own_go (B := T270.setTop (mkF m 119 #[.val (.int p1), .val (.int p2), .val (.int p3), .val (.int p4), .val (.int p5), .val (.int p6), .val (.int vk), .val (.int (1 : Int32)), .val (.ref b257), .val (.int (1 : Int32))] [])) (fun t k => XS.ifNo X270.here hx rfl (Jvm.hb hby at_116) rfl ((if0 _ _).trans (feq (by decide : ¬ ((1 : Int32) = (0 : Int32)))).1) k) ?_
  refine own_go (B := T270.setTop (mkF m 121 #[.val (.int p1), .val (.int p2), .val (.int p3), .val (.int p4), .val (.int p5), .val (.int p6), .val (.int vk), .val (.int (1 : Int32)), .val (.ref b257), .val (.int (1 : Int32))] [(.ref b257)])) (fun t k => XS.aload X270.here hx rfl (Jvm.hb hby at_119) rfl rfl k) ?_
  obtain ⟨cq271, kq271, q271a, q271b, q271c⟩ := isOf hZ e270 E_b257
  obtain ⟨_, _, ⟨T271, La271, ka271, na271⟩, -, X271, ⟨Lc271, hQ271, l271, y271, z271⟩, st271⟩ := X270.virtualBack hx (y := (⟨"com/example/term_unifier/termunifier/IntPairStack", "pop", "()V"⟩ : MethodName)) (z := (⟨"com/example/term_unifier/termunifier/IntPairStack", "pop", "()V"⟩ : MethodName)) hown (mvT hZ (own_w hw 50 rfl)) (mvT hZ (own_w hw 51 rfl)) (notFace_of_selects (args := #[]) (mvT hZ (own_w hw 53 rfl))) (mvT hZ (own_w hw 53 rfl)) (mvT hZ (own_w hw 52 rfl)) (by decide) (backOf (W := 0) (rm_popn l Z a0 hw [] b257 b259 b260 b261 b262 (0 : Int32) (2 : Int32) (2 : Int32) (-1 : Int32) (1 : Int32) 0 (own_upd (own_upd (fun _ => 0) 0 (-1 : Int32)) 1 (0 : Int32)) T267.heap n0 Zs E_b257 F_b257_firsts F_b257_seconds F_b257_below F_b257_top F_b257_used F_b257_kept F_b257_marks V_b261 g_b257 ne_b257_b261 (by decide) (by decide) (by decide) rfl (by decide) (by decide)) hZ (own_w hw 54 rfl) (own_w hw 2 rfl) (by decide) (by decide)) q271a q271c (g := (mkF m 121 #[.val (.int p1), .val (.int p2), .val (.int p3), .val (.int p4), .val (.int p5), .val (.int p6), .val (.int vk), .val (.int (1 : Int32)), .val (.ref b257), .val (.int (1 : Int32))] [(.ref b257)])) rfl (by rw [hml]; rfl) (Steps.refl _) (argsL := []) (rest := []) (lenOf pd_0 rfl) rfl (by show 2 * 0 + _ ≤ _; exact Nat.le_of_eq rfl) (Jvm.hb hby at_121) (fun _ _ => ⟨rfl, e270, (by decide : 6 + 0 ≤ _), (by decide : 73 + 0 ≤ _)⟩)
  dsimp only [Pt.U, Pt.locs, Pt.cells, Pt.slots] at X271 l271 y271 z271 st271 hQ271
  have y271 : ka271 = 6 := y271
  have z271 : na271 = 73 := z271
  subst y271 z271
  obtain ⟨rfl, N271q, Kc271, E_b257_q, F_b257_firsts_q, F_b257_seconds_q, F_b257_below_q, F_b257_top_q, F_b257_used_q, F_b257_kept_q, F_b257_marks_q⟩ := hQ271
  have N271 : Fr n0 La271 := by rw [l271]; exact Fr.app N270 N271q
  have V_b259 := V_b259.keep Kc271 (ninS (Ne.symm ne_b257_b259) nin0)
  have V_b260 := V_b260.keep Kc271 (ninS (Ne.symm ne_b257_b260) nin0)
  have V_b261 := V_b261.keep Kc271 (ninS (Ne.symm ne_b257_b261) nin0)
  have E_b262 := E_b262.keep Kc271
  have F_b262_items := F_b262_items.keep Kc271 (ninS (Ne.symm ne_b257_b262) nin0)
  have F_b262_size := F_b262_size.keep Kc271 (ninS (Ne.symm ne_b257_b262) nin0)
  have V_b263 := V_b263.keep Kc271 (ninS (Ne.symm ne_b257_b263) nin0)
  have Zs := Nat.le_trans Zs Kc271.1
  have E_b257 := E_b257_q
  have F_b257_firsts := F_b257_firsts_q
  have F_b257_seconds := F_b257_seconds_q
  have F_b257_below := F_b257_below_q
  have F_b257_top := F_b257_top_q
  have F_b257_used := F_b257_used_q
  have F_b257_kept := F_b257_kept_q
  have F_b257_marks := F_b257_marks_q
  refine own_go (B := T271.setTop (mkF m 124 #[.val (.int p1), .val (.int p2), .val (.int p3), .val (.int p4), .val (.int p5), .val (.int p6), .val (.int vk), .val (.int (1 : Int32)), .val (.ref b257), .val (.int (1 : Int32))] [])) (fun t k => own_st st271 k) ?_
  refine own_go (B := T271.setTop (mkF m 126 #[.val (.int p1), .val (.int p2), .val (.int p3), .val (.int p4), .val (.int p5), .val (.int p6), .val (.int vk), .val (.int (1 : Int32)), .val (.ref b257), .val (.int (1 : Int32))] [(.int (1 : Int32))])) (fun t k => XS.iload X271.here hx rfl (Jvm.hb hby at_124) rfl k) ?_
  refine own_go (B := T271.setTop (mkF m 129 #[.val (.int p1), .val (.int p2), .val (.int p3), .val (.int p4), .val (.int p5), .val (.int p6), .val (.int vk), .val (.int (1 : Int32)), .val (.ref b257), .val (.int (1 : Int32))] [])) (fun t k => XS.ifNo X271.here hx rfl (Jvm.hb hby at_126) rfl ((if0 _ _).trans (feq (by decide : ¬ ((1 : Int32) = (0 : Int32)))).1) k) ?_
  refine own_go (B := T271.setTop (mkF m 131 #[.val (.int p1), .val (.int p2), .val (.int p3), .val (.int p4), .val (.int p5), .val (.int p6), .val (.int vk), .val (.int (1 : Int32)), .val (.ref b257), .val (.int (1 : Int32))] [(.ref b257)])) (fun t k => XS.aload X271.here hx rfl (Jvm.hb hby at_129) rfl rfl k) ?_
  obtain ⟨cq272, kq272, q272a, q272b, q272c⟩ := isOf hZ rfl E_b257
  obtain ⟨_, _, ⟨T272, La272, ka272, na272⟩, -, X272, ⟨Lc272, hQ272, l272, y272, z272⟩, st272⟩ := X271.virtualBack hx (y := (⟨"com/example/term_unifier/termunifier/IntPairStack", "isEmpty", "()Z"⟩ : MethodName)) (z := (⟨"com/example/term_unifier/termunifier/IntPairStack", "isEmpty", "()Z"⟩ : MethodName)) hown (mvT hZ (own_w hw 55 rfl)) (mvT hZ (own_w hw 56 rfl)) (notFace_of_selects (args := #[]) (mvT hZ (own_w hw 58 rfl))) (mvT hZ (own_w hw 58 rfl)) (mvT hZ (own_w hw 57 rfl)) (by decide) (backOf (W := 0) (rm8 l Z a0 hw [] b257 (-1 : Int32) (1 : Int32) T271.heap n0 Zs F_b257_top (by decide)) hZ (own_w hw 59 rfl) (own_w hw 2 rfl) (by decide) (by decide)) q272a q272c (g := (mkF m 131 #[.val (.int p1), .val (.int p2), .val (.int p3), .val (.int p4), .val (.int p5), .val (.int p6), .val (.int vk), .val (.int (1 : Int32)), .val (.ref b257), .val (.int (1 : Int32))] [(.ref b257)])) rfl (by rw [hml]; rfl) (Steps.refl _) (argsL := []) (rest := []) (lenOf pd_4 rfl) rfl (by show 2 * 0 + _ ≤ _; exact Nat.le_of_eq rfl) (Jvm.hb hby at_131) (fun _ _ => ⟨rfl, rfl, (by decide : 6 + 0 ≤ _), (by decide : 73 + 0 ≤ _)⟩)
  dsimp only [Pt.U, Pt.locs, Pt.cells, Pt.slots] at X272 l272 y272 z272 st272 hQ272
  have y272 : ka272 = 6 := y272
  have z272 : na272 = 73 := z272
  subst y272 z272
  obtain ⟨rfl, N272q, e272⟩ := hQ272
  have N272 : Fr n0 La272 := by rw [l272]; exact Fr.app N271 N272q
  refine own_go (B := T272.setTop (mkF m 134 #[.val (.int p1), .val (.int p2), .val (.int p3), .val (.int p4), .val (.int p5), .val (.int p6), .val (.int vk), .val (.int (1 : Int32)), .val (.ref b257), .val (.int (1 : Int32))] [(.int (1 : Int32))])) (fun t k => own_st st272 k) ?_
  refine own_go (B := T272.setTop (mkF m 137 #[.val (.int p1), .val (.int p2), .val (.int p3), .val (.int p4), .val (.int p5), .val (.int p6), .val (.int vk), .val (.int (1 : Int32)), .val (.ref b257), .val (.int (1 : Int32))] [])) (fun t k => XS.ifNo X272.here hx rfl (Jvm.hb hby at_134) rfl ((if0 _ _).trans (feq (by decide : ¬ ((1 : Int32) = (0 : Int32)))).1) k) ?_
  refine own_go (B := T272.setTop (mkF m 138 #[.val (.int p1), .val (.int p2), .val (.int p3), .val (.int p4), .val (.int p5), .val (.int p6), .val (.int vk), .val (.int (1 : Int32)), .val (.ref b257), .val (.int (1 : Int32))] [(.int (1 : Int32))])) (fun t k => XS.iconst X272.here hx rfl (Jvm.hb hby at_137) k) ?_
  refine own_go (B := T272.setTop (mkF m 142 #[.val (.int p1), .val (.int p2), .val (.int p3), .val (.int p4), .val (.int p5), .val (.int p6), .val (.int vk), .val (.int (1 : Int32)), .val (.ref b257), .val (.int (1 : Int32))] [(.int (1 : Int32))])) (fun t k => XS.goto X272.here hx rfl (pc0 := 138) (pc' := 142) rfl (Jvm.hb hby at_138) (by decide) (by decide) k) ?_
  refine own_go (B := T272.setTop (mkF m 144 #[.val (.int p1), .val (.int p2), .val (.int p3), .val (.int p4), .val (.int p5), .val (.int p6), .val (.int vk), .val (.int (1 : Int32)), .val (.ref b257), .val (.int (1 : Int32))] [])) (fun t k => XS.istore X272.here hx rfl (Jvm.hb hby at_142) rfl (l' := #[.val (.int p1), .val (.int p2), .val (.int p3), .val (.int p4), .val (.int p5), .val (.int p6), .val (.int vk), .val (.int (1 : Int32)), .val (.ref b257), .val (.int (1 : Int32))]) rfl k) ?_
  refine own_go (B := T272.setTop (mkF m 146 #[.val (.int p1), .val (.int p2), .val (.int p3), .val (.int p4), .val (.int p5), .val (.int p6), .val (.int vk), .val (.int (1 : Int32)), .val (.ref b257), .val (.int (1 : Int32))] [(.ref b257)])) (fun t k => XS.aload X272.here hx rfl (Jvm.hb hby at_144) rfl rfl k) ?_
  refine own_go (B := T272.setTop (mkF m 148 #[.val (.int p1), .val (.int p2), .val (.int p3), .val (.int p4), .val (.int p5), .val (.int p6), .val (.int vk), .val (.int (1 : Int32)), .val (.ref b257), .val (.int (1 : Int32))] [(.int p5), (.ref b257)])) (fun t k => XS.iload X272.here hx rfl (Jvm.hb hby at_146) rfl k) ?_
  refine own_go (B := T272.setTop (mkF m 150 #[.val (.int p1), .val (.int p2), .val (.int p3), .val (.int p4), .val (.int p5), .val (.int p6), .val (.int vk), .val (.int (1 : Int32)), .val (.ref b257), .val (.int (1 : Int32))] [(.int p5), (.int p5), (.ref b257)])) (fun t k => XS.iload X272.here hx rfl (Jvm.hb hby at_148) rfl k) ?_
  refine own_go (B := T272.setTop (mkF m 151 #[.val (.int p1), .val (.int p2), .val (.int p3), .val (.int p4), .val (.int p5), .val (.int p6), .val (.int vk), .val (.int (1 : Int32)), .val (.ref b257), .val (.int (1 : Int32))] [(.int (-1 : Int32)), (.int p5), (.int p5), (.ref b257)])) (fun t k => XS.iconst X272.here hx rfl (Jvm.hb hby at_150) k) ?_
  refine own_go (B := T272.setTop (mkF m 152 #[.val (.int p1), .val (.int p2), .val (.int p3), .val (.int p4), .val (.int p5), .val (.int p6), .val (.int vk), .val (.int (1 : Int32)), .val (.ref b257), .val (.int (1 : Int32))] [(.int (p5 ^^^ (-1 : Int32))), (.int p5), (.ref b257)])) (fun t k => XS.ixor X272.here hx rfl (Jvm.hb hby at_151) rfl k) ?_
  obtain ⟨cq273, kq273, q273a, q273b, q273c⟩ := isOf hZ e272 E_b257
  obtain ⟨_, _, ⟨T273, La273, ka273, na273⟩, -, X273, ⟨Lc273, hQ273, l273, y273, z273⟩, st273⟩ := X272.virtualBack hx (y := (⟨"com/example/term_unifier/termunifier/IntPairStack", "push", "(II)V"⟩ : MethodName)) (z := (⟨"com/example/term_unifier/termunifier/IntPairStack", "push", "(II)V"⟩ : MethodName)) hown (mvT hZ (own_w hw 29 rfl)) (mvT hZ (own_w hw 30 rfl)) (notFace_of_selects (args := #[]) (mvT hZ (own_w hw 32 rfl))) (mvT hZ (own_w hw 32 rfl)) (mvT hZ (own_w hw 31 rfl)) (by decide) (backOf (W := 0) (rm4 l Z a0 hw [] b257 p5 (p5 ^^^ (-1 : Int32)) b259 b260 b261 b262 (-1 : Int32) (2 : Int32) (2 : Int32) (3 : Int32) 2 (own_upd (own_upd (fun _ => 0) 0 p1) 1 p3) (own_upd (own_upd (fun _ => 0) 0 p2) 1 p4) (own_upd (own_upd (fun _ => 0) 0 (-1 : Int32)) 1 (0 : Int32)) T271.heap n0 Zs E_b257 F_b257_firsts F_b257_seconds F_b257_below F_b257_top F_b257_used F_b257_kept F_b257_marks V_b259 V_b260 V_b261 g_b257 g_b259 g_b260 g_b261 ne_b257_b259 ne_b257_b260 ne_b257_b261 ne_b259_b260 ne_b259_b261 ne_b260_b261 (by decide) (by decide) (by decide) (by decide) (by decide)) hZ (own_w hw 33 rfl) (own_w hw 2 rfl) (by decide) (by decide)) q273a q273c (g := (mkF m 152 #[.val (.int p1), .val (.int p2), .val (.int p3), .val (.int p4), .val (.int p5), .val (.int p6), .val (.int vk), .val (.int (1 : Int32)), .val (.ref b257), .val (.int (1 : Int32))] [(.int (p5 ^^^ (-1 : Int32))), (.int p5), (.ref b257)])) rfl (by rw [hml]; rfl) (Steps.refl _) (argsL := [(.int p5), (.int (p5 ^^^ (-1 : Int32)))]) (rest := []) (lenOf pd_3 rfl) rfl (by show 2 * 0 + _ ≤ _; exact Nat.le_of_eq rfl) (Jvm.hb hby at_152) (fun _ _ => ⟨rfl, e272, (by decide : 6 + 0 ≤ _), (by decide : 73 + 0 ≤ _)⟩)
  dsimp only [Pt.U, Pt.locs, Pt.cells, Pt.slots] at X273 l273 y273 z273 st273 hQ273
  have y273 : ka273 = 6 := y273
  have z273 : na273 = 73 := z273
  subst y273 z273
  obtain ⟨rfl, N273q, Kc273, E_b257_q, F_b257_firsts_q, F_b257_seconds_q, F_b257_below_q, F_b257_top_q, F_b257_used_q, F_b257_kept_q, F_b257_marks_q, V_b259_q, V_b260_q, V_b261_q⟩ := hQ273
  have N273 : Fr n0 La273 := by rw [l273]; exact Fr.app N272 N273q
  have E_b262 := E_b262.keep Kc273
  have F_b262_items := F_b262_items.keep Kc273 (ninS (Ne.symm ne_b257_b262) (ninS (Ne.symm ne_b259_b262) (ninS (Ne.symm ne_b260_b262) (ninS (Ne.symm ne_b261_b262) nin0))))
  have F_b262_size := F_b262_size.keep Kc273 (ninS (Ne.symm ne_b257_b262) (ninS (Ne.symm ne_b259_b262) (ninS (Ne.symm ne_b260_b262) (ninS (Ne.symm ne_b261_b262) nin0))))
  have V_b263 := V_b263.keep Kc273 (ninS (Ne.symm ne_b257_b263) (ninS (Ne.symm ne_b259_b263) (ninS (Ne.symm ne_b260_b263) (ninS (Ne.symm ne_b261_b263) nin0))))
  have Zs := Nat.le_trans Zs Kc273.1
  have E_b257 := E_b257_q
  have F_b257_firsts := F_b257_firsts_q
  have F_b257_seconds := F_b257_seconds_q
  have F_b257_below := F_b257_below_q
  have F_b257_top := F_b257_top_q
  have F_b257_used := F_b257_used_q
  have F_b257_kept := F_b257_kept_q
  have F_b257_marks := F_b257_marks_q
  have V_b259 := V_b259_q
  have V_b260 := V_b260_q
  have V_b261 := V_b261_q
  refine own_go (B := T273.setTop (mkF m 155 #[.val (.int p1), .val (.int p2), .val (.int p3), .val (.int p4), .val (.int p5), .val (.int p6), .val (.int vk), .val (.int (1 : Int32)), .val (.ref b257), .val (.int (1 : Int32))] [])) (fun t k => own_st st273 k) ?_
  refine own_go (B := T273.setTop (mkF m 157 #[.val (.int p1), .val (.int p2), .val (.int p3), .val (.int p4), .val (.int p5), .val (.int p6), .val (.int vk), .val (.int (1 : Int32)), .val (.ref b257), .val (.int (1 : Int32))] [(.int (1 : Int32))])) (fun t k => XS.iload X273.here hx rfl (Jvm.hb hby at_155) rfl k) ?_
  refine own_go (B := T273.setTop (mkF m 160 #[.val (.int p1), .val (.int p2), .val (.int p3), .val (.int p4), .val (.int p5), .val (.int p6), .val (.int vk), .val (.int (1 : Int32)), .val (.ref b257), .val (.int (1 : Int32))] [])) (fun t k => XS.ifNo X273.here hx rfl (Jvm.hb hby at_157) rfl ((if0 _ _).trans (feq (by decide : ¬ ((1 : Int32) = (0 : Int32)))).1) k) ?_
  refine own_go (B := T273.setTop (mkF m 162 #[.val (.int p1), .val (.int p2), .val (.int p3), .val (.int p4), .val (.int p5), .val (.int p6), .val (.int vk), .val (.int (1 : Int32)), .val (.ref b257), .val (.int (1 : Int32))] [(.ref b257)])) (fun t k => XS.aload X273.here hx rfl (Jvm.hb hby at_160) rfl rfl k) ?_
  obtain ⟨cq274, kq274, q274a, q274b, q274c⟩ := isOf hZ rfl E_b257
  obtain ⟨_, _, ⟨T274, La274, ka274, na274⟩, -, X274, ⟨Lc274, hQ274, l274, y274, z274⟩, st274⟩ := X273.virtualBack hx (y := (⟨"com/example/term_unifier/termunifier/IntPairStack", "isEmpty", "()Z"⟩ : MethodName)) (z := (⟨"com/example/term_unifier/termunifier/IntPairStack", "isEmpty", "()Z"⟩ : MethodName)) hown (mvT hZ (own_w hw 55 rfl)) (mvT hZ (own_w hw 56 rfl)) (notFace_of_selects (args := #[]) (mvT hZ (own_w hw 58 rfl))) (mvT hZ (own_w hw 58 rfl)) (mvT hZ (own_w hw 57 rfl)) (by decide) (backOf (W := 0) (rm8 l Z a0 hw [] b257 (2 : Int32) (0 : Int32) T273.heap n0 Zs F_b257_top (by decide)) hZ (own_w hw 59 rfl) (own_w hw 2 rfl) (by decide) (by decide)) q274a q274c (g := (mkF m 162 #[.val (.int p1), .val (.int p2), .val (.int p3), .val (.int p4), .val (.int p5), .val (.int p6), .val (.int vk), .val (.int (1 : Int32)), .val (.ref b257), .val (.int (1 : Int32))] [(.ref b257)])) rfl (by rw [hml]; rfl) (Steps.refl _) (argsL := []) (rest := []) (lenOf pd_4 rfl) rfl (by show 2 * 0 + _ ≤ _; exact Nat.le_of_eq rfl) (Jvm.hb hby at_162) (fun _ _ => ⟨rfl, rfl, (by decide : 6 + 0 ≤ _), (by decide : 73 + 0 ≤ _)⟩)
  dsimp only [Pt.U, Pt.locs, Pt.cells, Pt.slots] at X274 l274 y274 z274 st274 hQ274
  have y274 : ka274 = 6 := y274
  have z274 : na274 = 73 := z274
  subst y274 z274
  obtain ⟨rfl, N274q, e274⟩ := hQ274
  have N274 : Fr n0 La274 := by rw [l274]; exact Fr.app N273 N274q
  refine own_go (B := T274.setTop (mkF m 165 #[.val (.int p1), .val (.int p2), .val (.int p3), .val (.int p4), .val (.int p5), .val (.int p6), .val (.int vk), .val (.int (1 : Int32)), .val (.ref b257), .val (.int (1 : Int32))] [(.int (0 : Int32))])) (fun t k => own_st st274 k) ?_
  refine own_go (B := T274.setTop (mkF m 168 #[.val (.int p1), .val (.int p2), .val (.int p3), .val (.int p4), .val (.int p5), .val (.int p6), .val (.int vk), .val (.int (1 : Int32)), .val (.ref b257), .val (.int (1 : Int32))] [])) (fun t k => XS.ifNo X274.here hx rfl (Jvm.hb hby at_165) rfl ((if0 _ _).trans (teq (by decide : (0 : Int32) = (0 : Int32))).2) k) ?_
  refine own_go (B := T274.setTop (mkF m 170 #[.val (.int p1), .val (.int p2), .val (.int p3), .val (.int p4), .val (.int p5), .val (.int p6), .val (.int vk), .val (.int (1 : Int32)), .val (.ref b257), .val (.int (1 : Int32))] [(.ref b257)])) (fun t k => XS.aload X274.here hx rfl (Jvm.hb hby at_168) rfl rfl k) ?_
  obtain ⟨cq275, kq275, q275a, q275b, q275c⟩ := isOf hZ e274 E_b257
  obtain ⟨_, _, ⟨T275, La275, ka275, na275⟩, -, X275, ⟨Lc275, hQ275, l275, y275, z275⟩, st275⟩ := X274.virtualBack hx (y := (⟨"com/example/term_unifier/termunifier/IntPairStack", "first", "()I"⟩ : MethodName)) (z := (⟨"com/example/term_unifier/termunifier/IntPairStack", "first", "()I"⟩ : MethodName)) hown (mvT hZ (own_w hw 60 rfl)) (mvT hZ (own_w hw 61 rfl)) (notFace_of_selects (args := #[]) (mvT hZ (own_w hw 63 rfl))) (mvT hZ (own_w hw 63 rfl)) (mvT hZ (own_w hw 62 rfl)) (by decide) (backOf (W := 0) (rm9 l Z a0 hw [] b257 b259 (2 : Int32) 2 (own_upd (own_upd (own_upd (fun _ => 0) 0 p1) 1 p3) 2 p5) p5 T273.heap n0 Zs F_b257_firsts F_b257_top V_b259 (by decide) (by decide) (by decide) rfl) hZ (own_w hw 64 rfl) (own_w hw 2 rfl) (by decide) (by decide)) q275a q275c (g := (mkF m 170 #[.val (.int p1), .val (.int p2), .val (.int p3), .val (.int p4), .val (.int p5), .val (.int p6), .val (.int vk), .val (.int (1 : Int32)), .val (.ref b257), .val (.int (1 : Int32))] [(.ref b257)])) rfl (by rw [hml]; rfl) (Steps.refl _) (argsL := []) (rest := []) (lenOf pd_2 rfl) rfl (by show 2 * 0 + _ ≤ _; exact Nat.le_of_eq rfl) (Jvm.hb hby at_170) (fun _ _ => ⟨rfl, e274, (by decide : 6 + 0 ≤ _), (by decide : 73 + 0 ≤ _)⟩)
  dsimp only [Pt.U, Pt.locs, Pt.cells, Pt.slots] at X275 l275 y275 z275 st275 hQ275
  have y275 : ka275 = 6 := y275
  have z275 : na275 = 73 := z275
  subst y275 z275
  obtain ⟨rfl, N275q, e275⟩ := hQ275
  have N275 : Fr n0 La275 := by rw [l275]; exact Fr.app N274 N275q
  refine own_go (B := T275.setTop (mkF m 173 #[.val (.int p1), .val (.int p2), .val (.int p3), .val (.int p4), .val (.int p5), .val (.int p6), .val (.int vk), .val (.int (1 : Int32)), .val (.ref b257), .val (.int (1 : Int32))] [(.int p5)])) (fun t k => own_st st275 k) ?_
  refine own_go (B := T275.setTop (mkF m 175 #[.val (.int p1), .val (.int p2), .val (.int p3), .val (.int p4), .val (.int p5), .val (.int p6), .val (.int vk), .val (.int (1 : Int32)), .val (.ref b257), .val (.int (1 : Int32))] [(.int p5), (.int p5)])) (fun t k => XS.iload X275.here hx rfl (Jvm.hb hby at_173) rfl k) ?_
  refine own_go (B := T275.setTop (mkF m 178 #[.val (.int p1), .val (.int p2), .val (.int p3), .val (.int p4), .val (.int p5), .val (.int p6), .val (.int vk), .val (.int (1 : Int32)), .val (.ref b257), .val (.int (1 : Int32))] [])) (fun t k => XS.icmpNo X275.here hx rfl (Jvm.hb hby at_175) rfl (teq (rfl : p5 = p5)).2 k) ?_
  refine own_go (B := T275.setTop (mkF m 180 #[.val (.int p1), .val (.int p2), .val (.int p3), .val (.int p4), .val (.int p5), .val (.int p6), .val (.int vk), .val (.int (1 : Int32)), .val (.ref b257), .val (.int (1 : Int32))] [(.ref b257)])) (fun t k => XS.aload X275.here hx rfl (Jvm.hb hby at_178) rfl rfl k) ?_
  obtain ⟨cq276, kq276, q276a, q276b, q276c⟩ := isOf hZ e275 E_b257
  obtain ⟨_, _, ⟨T276, La276, ka276, na276⟩, -, X276, ⟨Lc276, hQ276, l276, y276, z276⟩, st276⟩ := X275.virtualBack hx (y := (⟨"com/example/term_unifier/termunifier/IntPairStack", "second", "()I"⟩ : MethodName)) (z := (⟨"com/example/term_unifier/termunifier/IntPairStack", "second", "()I"⟩ : MethodName)) hown (mvT hZ (own_w hw 65 rfl)) (mvT hZ (own_w hw 66 rfl)) (notFace_of_selects (args := #[]) (mvT hZ (own_w hw 68 rfl))) (mvT hZ (own_w hw 68 rfl)) (mvT hZ (own_w hw 67 rfl)) (by decide) (backOf (W := 0) (rm10 l Z a0 hw [] b257 b260 (2 : Int32) 2 (own_upd (own_upd (own_upd (fun _ => 0) 0 p2) 1 p4) 2 (p5 ^^^ (-1 : Int32))) (p5 ^^^ (-1 : Int32)) T273.heap n0 Zs F_b257_seconds F_b257_top V_b260 (by decide) (by decide) (by decide) rfl) hZ (own_w hw 69 rfl) (own_w hw 2 rfl) (by decide) (by decide)) q276a q276c (g := (mkF m 180 #[.val (.int p1), .val (.int p2), .val (.int p3), .val (.int p4), .val (.int p5), .val (.int p6), .val (.int vk), .val (.int (1 : Int32)), .val (.ref b257), .val (.int (1 : Int32))] [(.ref b257)])) rfl (by rw [hml]; rfl) (Steps.refl _) (argsL := []) (rest := []) (lenOf pd_2 rfl) rfl (by show 2 * 0 + _ ≤ _; exact Nat.le_of_eq rfl) (Jvm.hb hby at_180) (fun _ _ => ⟨rfl, e275, (by decide : 6 + 0 ≤ _), (by decide : 73 + 0 ≤ _)⟩)
  dsimp only [Pt.U, Pt.locs, Pt.cells, Pt.slots] at X276 l276 y276 z276 st276 hQ276
  have y276 : ka276 = 6 := y276
  have z276 : na276 = 73 := z276
  subst y276 z276
  obtain ⟨rfl, N276q, e276⟩ := hQ276
  have N276 : Fr n0 La276 := by rw [l276]; exact Fr.app N275 N276q
  refine own_go (B := T276.setTop (mkF m 183 #[.val (.int p1), .val (.int p2), .val (.int p3), .val (.int p4), .val (.int p5), .val (.int p6), .val (.int vk), .val (.int (1 : Int32)), .val (.ref b257), .val (.int (1 : Int32))] [(.int (p5 ^^^ (-1 : Int32)))])) (fun t k => own_st st276 k) ?_
  refine own_go (B := T276.setTop (mkF m 185 #[.val (.int p1), .val (.int p2), .val (.int p3), .val (.int p4), .val (.int p5), .val (.int p6), .val (.int vk), .val (.int (1 : Int32)), .val (.ref b257), .val (.int (1 : Int32))] [(.int p5), (.int (p5 ^^^ (-1 : Int32)))])) (fun t k => XS.iload X276.here hx rfl (Jvm.hb hby at_183) rfl k) ?_
  refine own_go (B := T276.setTop (mkF m 186 #[.val (.int p1), .val (.int p2), .val (.int p3), .val (.int p4), .val (.int p5), .val (.int p6), .val (.int vk), .val (.int (1 : Int32)), .val (.ref b257), .val (.int (1 : Int32))] [(.int (-1 : Int32)), (.int p5), (.int (p5 ^^^ (-1 : Int32)))])) (fun t k => XS.iconst X276.here hx rfl (Jvm.hb hby at_185) k) ?_
  refine own_go (B := T276.setTop (mkF m 187 #[.val (.int p1), .val (.int p2), .val (.int p3), .val (.int p4), .val (.int p5), .val (.int p6), .val (.int vk), .val (.int (1 : Int32)), .val (.ref b257), .val (.int (1 : Int32))] [(.int (p5 ^^^ (-1 : Int32))), (.int (p5 ^^^ (-1 : Int32)))])) (fun t k => XS.ixor X276.here hx rfl (Jvm.hb hby at_186) rfl k) ?_
  refine own_go (B := T276.setTop (mkF m 190 #[.val (.int p1), .val (.int p2), .val (.int p3), .val (.int p4), .val (.int p5), .val (.int p6), .val (.int vk), .val (.int (1 : Int32)), .val (.ref b257), .val (.int (1 : Int32))] [])) (fun t k => XS.icmpNo X276.here hx rfl (Jvm.hb hby at_187) rfl (teq (rfl : (p5 ^^^ (-1 : Int32)) = (p5 ^^^ (-1 : Int32)))).2 k) ?_
  refine own_go (B := T276.setTop (mkF m 191 #[.val (.int p1), .val (.int p2), .val (.int p3), .val (.int p4), .val (.int p5), .val (.int p6), .val (.int vk), .val (.int (1 : Int32)), .val (.ref b257), .val (.int (1 : Int32))] [(.int (1 : Int32))])) (fun t k => XS.iconst X276.here hx rfl (Jvm.hb hby at_190) k) ?_
  refine own_go (B := T276.setTop (mkF m 195 #[.val (.int p1), .val (.int p2), .val (.int p3), .val (.int p4), .val (.int p5), .val (.int p6), .val (.int vk), .val (.int (1 : Int32)), .val (.ref b257), .val (.int (1 : Int32))] [(.int (1 : Int32))])) (fun t k => XS.goto X276.here hx rfl (pc0 := 191) (pc' := 195) rfl (Jvm.hb hby at_191) (by decide) (by decide) k) ?_
  refine own_go (B := T276.setTop (mkF m 197 #[.val (.int p1), .val (.int p2), .val (.int p3), .val (.int p4), .val (.int p5), .val (.int p6), .val (.int vk), .val (.int (1 : Int32)), .val (.ref b257), .val (.int (1 : Int32))] [])) (fun t k => XS.istore X276.here hx rfl (Jvm.hb hby at_195) rfl (l' := #[.val (.int p1), .val (.int p2), .val (.int p3), .val (.int p4), .val (.int p5), .val (.int p6), .val (.int vk), .val (.int (1 : Int32)), .val (.ref b257), .val (.int (1 : Int32))]) rfl k) ?_
  refine own_go (B := T276.setTop (mkF m 199 #[.val (.int p1), .val (.int p2), .val (.int p3), .val (.int p4), .val (.int p5), .val (.int p6), .val (.int vk), .val (.int (1 : Int32)), .val (.ref b257), .val (.int (1 : Int32))] [(.ref b257)])) (fun t k => XS.aload X276.here hx rfl (Jvm.hb hby at_197) rfl rfl k) ?_
  obtain ⟨cq277, kq277, q277a, q277b, q277c⟩ := isOf hZ e276 E_b257
  obtain ⟨_, _, ⟨T277, La277, ka277, na277⟩, -, X277, ⟨Lc277, hQ277, l277, y277, z277⟩, st277⟩ := X276.virtualBack hx (y := (⟨"com/example/term_unifier/termunifier/IntPairStack", "pop", "()V"⟩ : MethodName)) (z := (⟨"com/example/term_unifier/termunifier/IntPairStack", "pop", "()V"⟩ : MethodName)) hown (mvT hZ (own_w hw 50 rfl)) (mvT hZ (own_w hw 51 rfl)) (notFace_of_selects (args := #[]) (mvT hZ (own_w hw 53 rfl))) (mvT hZ (own_w hw 53 rfl)) (mvT hZ (own_w hw 52 rfl)) (by decide) (backOf (W := 0) (rm_popd l Z a0 hw [] b257 b259 b260 b261 b262 (2 : Int32) (3 : Int32) (2 : Int32) (-1 : Int32) (2 : Int32) 2 (own_upd (own_upd (own_upd (fun _ => 0) 0 (-1 : Int32)) 1 (0 : Int32)) 2 (-1 : Int32)) T273.heap n0 Zs E_b257 F_b257_firsts F_b257_seconds F_b257_below F_b257_top F_b257_used F_b257_kept F_b257_marks V_b261 g_b257 ne_b257_b261 (by decide) (by decide) (by decide) rfl (by decide) (by decide) (by decide)) hZ (own_w hw 54 rfl) (own_w hw 2 rfl) (by decide) (by decide)) q277a q277c (g := (mkF m 199 #[.val (.int p1), .val (.int p2), .val (.int p3), .val (.int p4), .val (.int p5), .val (.int p6), .val (.int vk), .val (.int (1 : Int32)), .val (.ref b257), .val (.int (1 : Int32))] [(.ref b257)])) rfl (by rw [hml]; rfl) (Steps.refl _) (argsL := []) (rest := []) (lenOf pd_0 rfl) rfl (by show 2 * 0 + _ ≤ _; exact Nat.le_of_eq rfl) (Jvm.hb hby at_199) (fun _ _ => ⟨rfl, e276, (by decide : 6 + 0 ≤ _), (by decide : 73 + 0 ≤ _)⟩)
  dsimp only [Pt.U, Pt.locs, Pt.cells, Pt.slots] at X277 l277 y277 z277 st277 hQ277
  have y277 : ka277 = 6 := y277
  have z277 : na277 = 73 := z277
  subst y277 z277
  obtain ⟨rfl, N277q, Kc277, E_b257_q, F_b257_firsts_q, F_b257_seconds_q, F_b257_below_q, F_b257_top_q, F_b257_used_q, F_b257_kept_q, F_b257_marks_q⟩ := hQ277
  have N277 : Fr n0 La277 := by rw [l277]; exact Fr.app N276 N277q
  have E_b262 := E_b262.keep Kc277
  have F_b262_items := F_b262_items.keep Kc277 (ninS (Ne.symm ne_b257_b262) nin0)
  have F_b262_size := F_b262_size.keep Kc277 (ninS (Ne.symm ne_b257_b262) nin0)
  have V_b263 := V_b263.keep Kc277 (ninS (Ne.symm ne_b257_b263) nin0)
  have V_b259 := V_b259.keep Kc277 (ninS (Ne.symm ne_b257_b259) nin0)
  have V_b260 := V_b260.keep Kc277 (ninS (Ne.symm ne_b257_b260) nin0)
  have V_b261 := V_b261.keep Kc277 (ninS (Ne.symm ne_b257_b261) nin0)
  have Zs := Nat.le_trans Zs Kc277.1
  have E_b257 := E_b257_q
  have F_b257_firsts := F_b257_firsts_q
  have F_b257_seconds := F_b257_seconds_q
  have F_b257_below := F_b257_below_q
  have F_b257_top := F_b257_top_q
  have F_b257_used := F_b257_used_q
  have F_b257_kept := F_b257_kept_q
  have F_b257_marks := F_b257_marks_q
  refine own_go (B := T277.setTop (mkF m 202 #[.val (.int p1), .val (.int p2), .val (.int p3), .val (.int p4), .val (.int p5), .val (.int p6), .val (.int vk), .val (.int (1 : Int32)), .val (.ref b257), .val (.int (1 : Int32))] [])) (fun t k => own_st st277 k) ?_
  refine own_go (B := T277.setTop (mkF m 204 #[.val (.int p1), .val (.int p2), .val (.int p3), .val (.int p4), .val (.int p5), .val (.int p6), .val (.int vk), .val (.int (1 : Int32)), .val (.ref b257), .val (.int (1 : Int32))] [(.int (1 : Int32))])) (fun t k => XS.iload X277.here hx rfl (Jvm.hb hby at_202) rfl k) ?_
  refine own_go (B := T277.setTop (mkF m 207 #[.val (.int p1), .val (.int p2), .val (.int p3), .val (.int p4), .val (.int p5), .val (.int p6), .val (.int vk), .val (.int (1 : Int32)), .val (.ref b257), .val (.int (1 : Int32))] [])) (fun t k => XS.ifNo X277.here hx rfl (Jvm.hb hby at_204) rfl ((if0 _ _).trans (feq (by decide : ¬ ((1 : Int32) = (0 : Int32)))).1) k) ?_
  refine own_go (B := T277.setTop (mkF m 209 #[.val (.int p1), .val (.int p2), .val (.int p3), .val (.int p4), .val (.int p5), .val (.int p6), .val (.int vk), .val (.int (1 : Int32)), .val (.ref b257), .val (.int (1 : Int32))] [(.int (1 : Int32))])) (fun t k => XS.iload X277.here hx rfl (Jvm.hb hby at_207) rfl k) ?_
  refine own_go (B := T277.setTop (mkF m 212 #[.val (.int p1), .val (.int p2), .val (.int p3), .val (.int p4), .val (.int p5), .val (.int p6), .val (.int vk), .val (.int (1 : Int32)), .val (.ref b257), .val (.int (1 : Int32))] [])) (fun t k => XS.ifNo X277.here hx rfl (Jvm.hb hby at_209) rfl ((if0 _ _).trans (feq (by decide : ¬ ((1 : Int32) = (0 : Int32)))).1) k) ?_
  refine own_go (B := T277.setTop (mkF m 214 #[.val (.int p1), .val (.int p2), .val (.int p3), .val (.int p4), .val (.int p5), .val (.int p6), .val (.int vk), .val (.int (1 : Int32)), .val (.ref b257), .val (.int (1 : Int32))] [(.ref b257)])) (fun t k => XS.aload X277.here hx rfl (Jvm.hb hby at_212) rfl rfl k) ?_
  obtain ⟨cq278, kq278, q278a, q278b, q278c⟩ := isOf hZ rfl E_b257
  obtain ⟨_, _, ⟨T278, La278, ka278, na278⟩, -, X278, ⟨Lc278, hQ278, l278, y278, z278⟩, st278⟩ := X277.virtualBack hx (y := (⟨"com/example/term_unifier/termunifier/IntPairStack", "isEmpty", "()Z"⟩ : MethodName)) (z := (⟨"com/example/term_unifier/termunifier/IntPairStack", "isEmpty", "()Z"⟩ : MethodName)) hown (mvT hZ (own_w hw 55 rfl)) (mvT hZ (own_w hw 56 rfl)) (notFace_of_selects (args := #[]) (mvT hZ (own_w hw 58 rfl))) (mvT hZ (own_w hw 58 rfl)) (mvT hZ (own_w hw 57 rfl)) (by decide) (backOf (W := 0) (rm8 l Z a0 hw [] b257 (-1 : Int32) (1 : Int32) T277.heap n0 Zs F_b257_top (by decide)) hZ (own_w hw 59 rfl) (own_w hw 2 rfl) (by decide) (by decide)) q278a q278c (g := (mkF m 214 #[.val (.int p1), .val (.int p2), .val (.int p3), .val (.int p4), .val (.int p5), .val (.int p6), .val (.int vk), .val (.int (1 : Int32)), .val (.ref b257), .val (.int (1 : Int32))] [(.ref b257)])) rfl (by rw [hml]; rfl) (Steps.refl _) (argsL := []) (rest := []) (lenOf pd_4 rfl) rfl (by show 2 * 0 + _ ≤ _; exact Nat.le_of_eq rfl) (Jvm.hb hby at_214) (fun _ _ => ⟨rfl, rfl, (by decide : 6 + 0 ≤ _), (by decide : 73 + 0 ≤ _)⟩)
  dsimp only [Pt.U, Pt.locs, Pt.cells, Pt.slots] at X278 l278 y278 z278 st278 hQ278
  have y278 : ka278 = 6 := y278
  have z278 : na278 = 73 := z278
  subst y278 z278
  obtain ⟨rfl, N278q, e278⟩ := hQ278
  have N278 : Fr n0 La278 := by rw [l278]; exact Fr.app N277 N278q
  refine own_go (B := T278.setTop (mkF m 217 #[.val (.int p1), .val (.int p2), .val (.int p3), .val (.int p4), .val (.int p5), .val (.int p6), .val (.int vk), .val (.int (1 : Int32)), .val (.ref b257), .val (.int (1 : Int32))] [(.int (1 : Int32))])) (fun t k => own_st st278 k) ?_
  refine own_go (B := T278.setTop (mkF m 220 #[.val (.int p1), .val (.int p2), .val (.int p3), .val (.int p4), .val (.int p5), .val (.int p6), .val (.int vk), .val (.int (1 : Int32)), .val (.ref b257), .val (.int (1 : Int32))] [])) (fun t k => XS.ifNo X278.here hx rfl (Jvm.hb hby at_217) rfl ((if0 _ _).trans (feq (by decide : ¬ ((1 : Int32) = (0 : Int32)))).1) k) ?_
  refine own_go (B := T278.setTop (mkF m 221 #[.val (.int p1), .val (.int p2), .val (.int p3), .val (.int p4), .val (.int p5), .val (.int p6), .val (.int vk), .val (.int (1 : Int32)), .val (.ref b257), .val (.int (1 : Int32))] [(.int (1 : Int32))])) (fun t k => XS.iconst X278.here hx rfl (Jvm.hb hby at_220) k) ?_
  refine own_go (B := T278.setTop (mkF m 225 #[.val (.int p1), .val (.int p2), .val (.int p3), .val (.int p4), .val (.int p5), .val (.int p6), .val (.int vk), .val (.int (1 : Int32)), .val (.ref b257), .val (.int (1 : Int32))] [(.int (1 : Int32))])) (fun t k => XS.goto X278.here hx rfl (pc0 := 221) (pc' := 225) rfl (Jvm.hb hby at_221) (by decide) (by decide) k) ?_
  refine own_go (B := T278.setTop (mkF m 227 #[.val (.int p1), .val (.int p2), .val (.int p3), .val (.int p4), .val (.int p5), .val (.int p6), .val (.int vk), .val (.int (1 : Int32)), .val (.ref b257), .val (.int (1 : Int32))] [])) (fun t k => XS.istore X278.here hx rfl (Jvm.hb hby at_225) rfl (l' := #[.val (.int p1), .val (.int p2), .val (.int p3), .val (.int p4), .val (.int p5), .val (.int p6), .val (.int vk), .val (.int (1 : Int32)), .val (.ref b257), .val (.int (1 : Int32))]) rfl k) ?_
  refine own_go (B := T278.setTop (mkF m 268 #[.val (.int p1), .val (.int p2), .val (.int p3), .val (.int p4), .val (.int p5), .val (.int p6), .val (.int vk), .val (.int (1 : Int32)), .val (.ref b257), .val (.int (1 : Int32))] [])) (fun t k => XS.goto X278.here hx rfl (pc0 := 227) (pc' := 268) rfl (Jvm.hb hby at_227) (by decide) (by decide) k) ?_
  refine own_go (B := T278.setTop (mkF m 270 #[.val (.int p1), .val (.int p2), .val (.int p3), .val (.int p4), .val (.int p5), .val (.int p6), .val (.int vk), .val (.int (1 : Int32)), .val (.ref b257), .val (.int (1 : Int32))] [(.int vk)])) (fun t k => XS.iload X278.here hx rfl (Jvm.hb hby at_268) rfl k) ?_
  refine own_go (B := T278.setTop (mkF m 273 #[.val (.int p1), .val (.int p2), .val (.int p3), .val (.int p4), .val (.int p5), .val (.int p6), .val (.int vk), .val (.int (1 : Int32)), .val (.ref b257), .val (.int (1 : Int32))] [])) (fun t k => XS.ifNo X278.here hx rfl (Jvm.hb hby at_270) rfl ((if0 _ _).trans (feq (by rw [hvk, hk]; decide)).1) k) ?_
  refine own_go (B := T278.setTop (mkF m 275 #[.val (.int p1), .val (.int p2), .val (.int p3), .val (.int p4), .val (.int p5), .val (.int p6), .val (.int vk), .val (.int (1 : Int32)), .val (.ref b257), .val (.int (1 : Int32))] [(.ref b257)])) (fun t k => XS.aload X278.here hx rfl (Jvm.hb hby at_273) rfl rfl k) ?_
  obtain ⟨cq279, kq279, q279a, q279b, q279c⟩ := isOf hZ e278 E_b257
  obtain ⟨_, _, ⟨T279, La279, ka279, na279⟩, -, X279, ⟨Lc279, hQ279, l279, y279, z279⟩, st279⟩ := X278.virtualBack hx (y := (⟨"com/example/term_unifier/termunifier/IntPairStack", "returnToMark", "()V"⟩ : MethodName)) (z := (⟨"com/example/term_unifier/termunifier/IntPairStack", "returnToMark", "()V"⟩ : MethodName)) hown (mvT hZ (own_w hw 70 rfl)) (mvT hZ (own_w hw 71 rfl)) (notFace_of_selects (args := #[]) (mvT hZ (own_w hw 73 rfl))) (mvT hZ (own_w hw 73 rfl)) (mvT hZ (own_w hw 72 rfl)) (by decide) (backOf (W := 0) (rm11 l Z a0 hw [] b257 b259 b260 b261 b262 b263 (-1 : Int32) (2 : Int32) (2 : Int32) (0 : Int32) (2 : Int32) (1 : Int32) (own_upd (own_upd (own_upd (fun _ => 0) 0 (1 : Int32)) 1 (2 : Int32)) 2 (0 : Int32)) T277.heap n0 Zs E_b257 F_b257_firsts F_b257_seconds F_b257_below F_b257_top F_b257_used F_b257_kept F_b257_marks E_b262 F_b262_items F_b262_size V_b263 g_b257 g_b262 ne_b257_b262 ne_b257_b263 ne_b262_b263 rfl rfl rfl) hZ (own_w hw 74 rfl) (own_w hw 2 rfl) (by decide) (by decide)) q279a q279c (g := (mkF m 275 #[.val (.int p1), .val (.int p2), .val (.int p3), .val (.int p4), .val (.int p5), .val (.int p6), .val (.int vk), .val (.int (1 : Int32)), .val (.ref b257), .val (.int (1 : Int32))] [(.ref b257)])) rfl (by rw [hml]; rfl) (Steps.refl _) (argsL := []) (rest := []) (lenOf pd_0 rfl) rfl (by show 2 * 0 + _ ≤ _; exact Nat.le_of_eq rfl) (Jvm.hb hby at_275) (fun _ _ => ⟨rfl, e278, (by decide : 6 + 0 ≤ _), (by decide : 73 + 0 ≤ _)⟩)
  dsimp only [Pt.U, Pt.locs, Pt.cells, Pt.slots] at X279 l279 y279 z279 st279 hQ279
  have y279 : ka279 = 6 := y279
  have z279 : na279 = 73 := z279
  subst y279 z279
  obtain ⟨rfl, N279q, Kc279, E_b257_q, F_b257_firsts_q, F_b257_seconds_q, F_b257_below_q, F_b257_top_q, F_b257_used_q, F_b257_kept_q, F_b257_marks_q, E_b262_q, F_b262_items_q, F_b262_size_q, V_b263_q⟩ := hQ279
  have N279 : Fr n0 La279 := by rw [l279]; exact Fr.app N278 N279q
  have V_b259 := V_b259.keep Kc279 (ninS (Ne.symm ne_b257_b259) (ninS ne_b259_b262 nin0))
  have V_b260 := V_b260.keep Kc279 (ninS (Ne.symm ne_b257_b260) (ninS ne_b260_b262 nin0))
  have V_b261 := V_b261.keep Kc279 (ninS (Ne.symm ne_b257_b261) (ninS ne_b261_b262 nin0))
  have Zs := Nat.le_trans Zs Kc279.1
  have E_b257 := E_b257_q
  have F_b257_firsts := F_b257_firsts_q
  have F_b257_seconds := F_b257_seconds_q
  have F_b257_below := F_b257_below_q
  have F_b257_top := F_b257_top_q
  have F_b257_used := F_b257_used_q
  have F_b257_kept := F_b257_kept_q
  have F_b257_marks := F_b257_marks_q
  have E_b262 := E_b262_q
  have F_b262_items := F_b262_items_q
  have F_b262_size := F_b262_size_q
  have V_b263 := V_b263_q
  refine own_go (B := T279.setTop (mkF m 278 #[.val (.int p1), .val (.int p2), .val (.int p3), .val (.int p4), .val (.int p5), .val (.int p6), .val (.int vk), .val (.int (1 : Int32)), .val (.ref b257), .val (.int (1 : Int32))] [])) (fun t k => own_st st279 k) ?_
  refine own_go (B := T279.setTop (mkF m 280 #[.val (.int p1), .val (.int p2), .val (.int p3), .val (.int p4), .val (.int p5), .val (.int p6), .val (.int vk), .val (.int (1 : Int32)), .val (.ref b257), .val (.int (1 : Int32))] [(.int vk)])) (fun t k => XS.iload X279.here hx rfl (Jvm.hb hby at_278) rfl k) ?_
  refine own_go (B := T279.setTop (mkF m 281 #[.val (.int p1), .val (.int p2), .val (.int p3), .val (.int p4), .val (.int p5), .val (.int p6), .val (.int vk), .val (.int (1 : Int32)), .val (.ref b257), .val (.int (1 : Int32))] [(.int (1 : Int32)), (.int vk)])) (fun t k => XS.iconst X279.here hx rfl (Jvm.hb hby at_280) k) ?_
  refine own_go (B := T279.setTop (mkF m 307 #[.val (.int p1), .val (.int p2), .val (.int p3), .val (.int p4), .val (.int p5), .val (.int p6), .val (.int vk), .val (.int (1 : Int32)), .val (.ref b257), .val (.int (1 : Int32))] [])) (fun t k => XS.icmpYes X279.here hx rfl (pc0 := 281) (pc' := 307) rfl (Jvm.hb hby at_281) rfl (feq (by rw [hvk, hk]; decide)).2 (by decide) (by decide) k) ?_
  refine own_go (B := T279.setTop (mkF m 309 #[.val (.int p1), .val (.int p2), .val (.int p3), .val (.int p4), .val (.int p5), .val (.int p6), .val (.int vk), .val (.int (1 : Int32)), .val (.ref b257), .val (.int (1 : Int32))] [(.int vk)])) (fun t k => XS.iload X279.here hx rfl (Jvm.hb hby at_307) rfl k) ?_
  refine own_go (B := T279.setTop (mkF m 310 #[.val (.int p1), .val (.int p2), .val (.int p3), .val (.int p4), .val (.int p5), .val (.int p6), .val (.int vk), .val (.int (1 : Int32)), .val (.ref b257), .val (.int (1 : Int32))] [(.int (2 : Int32)), (.int vk)])) (fun t k => XS.iconst X279.here hx rfl (Jvm.hb hby at_309) k) ?_
  refine own_go (B := T279.setTop (mkF m 354 #[.val (.int p1), .val (.int p2), .val (.int p3), .val (.int p4), .val (.int p5), .val (.int p6), .val (.int vk), .val (.int (1 : Int32)), .val (.ref b257), .val (.int (1 : Int32))] [])) (fun t k => XS.icmpYes X279.here hx rfl (pc0 := 310) (pc' := 354) rfl (Jvm.hb hby at_310) rfl (feq (by rw [hvk, hk]; decide)).2 (by decide) (by decide) k) ?_
  refine own_go (B := T279.setTop (mkF m 356 #[.val (.int p1), .val (.int p2), .val (.int p3), .val (.int p4), .val (.int p5), .val (.int p6), .val (.int vk), .val (.int (1 : Int32)), .val (.ref b257), .val (.int (1 : Int32))] [(.int (1 : Int32))])) (fun t k => XS.iload X279.here hx rfl (Jvm.hb hby at_354) rfl k) ?_
  refine own_go (B := T279.setTop (mkF m 359 #[.val (.int p1), .val (.int p2), .val (.int p3), .val (.int p4), .val (.int p5), .val (.int p6), .val (.int vk), .val (.int (1 : Int32)), .val (.ref b257), .val (.int (1 : Int32))] [])) (fun t k => XS.ifNo X279.here hx rfl (Jvm.hb hby at_356) rfl ((if0 _ _).trans (feq (by decide : ¬ ((1 : Int32) = (0 : Int32)))).1) k) ?_
  refine own_go (B := T279.setTop (mkF m 361 #[.val (.int p1), .val (.int p2), .val (.int p3), .val (.int p4), .val (.int p5), .val (.int p6), .val (.int vk), .val (.int (1 : Int32)), .val (.ref b257), .val (.int (1 : Int32))] [(.ref b257)])) (fun t k => XS.aload X279.here hx rfl (Jvm.hb hby at_359) rfl rfl k) ?_
  obtain ⟨cq280, kq280, q280a, q280b, q280c⟩ := isOf hZ rfl E_b257
  obtain ⟨_, _, ⟨T280, La280, ka280, na280⟩, -, X280, ⟨Lc280, hQ280, l280, y280, z280⟩, st280⟩ := X279.virtualBack hx (y := (⟨"com/example/term_unifier/termunifier/IntPairStack", "isEmpty", "()Z"⟩ : MethodName)) (z := (⟨"com/example/term_unifier/termunifier/IntPairStack", "isEmpty", "()Z"⟩ : MethodName)) hown (mvT hZ (own_w hw 55 rfl)) (mvT hZ (own_w hw 56 rfl)) (notFace_of_selects (args := #[]) (mvT hZ (own_w hw 58 rfl))) (mvT hZ (own_w hw 58 rfl)) (mvT hZ (own_w hw 57 rfl)) (by decide) (backOf (W := 0) (rm8 l Z a0 hw [] b257 (1 : Int32) (0 : Int32) T279.heap n0 Zs F_b257_top (by decide)) hZ (own_w hw 59 rfl) (own_w hw 2 rfl) (by decide) (by decide)) q280a q280c (g := (mkF m 361 #[.val (.int p1), .val (.int p2), .val (.int p3), .val (.int p4), .val (.int p5), .val (.int p6), .val (.int vk), .val (.int (1 : Int32)), .val (.ref b257), .val (.int (1 : Int32))] [(.ref b257)])) rfl (by rw [hml]; rfl) (Steps.refl _) (argsL := []) (rest := []) (lenOf pd_4 rfl) rfl (by show 2 * 0 + _ ≤ _; exact Nat.le_of_eq rfl) (Jvm.hb hby at_361) (fun _ _ => ⟨rfl, rfl, (by decide : 6 + 0 ≤ _), (by decide : 73 + 0 ≤ _)⟩)
  dsimp only [Pt.U, Pt.locs, Pt.cells, Pt.slots] at X280 l280 y280 z280 st280 hQ280
  have y280 : ka280 = 6 := y280
  have z280 : na280 = 73 := z280
  subst y280 z280
  obtain ⟨rfl, N280q, e280⟩ := hQ280
  have N280 : Fr n0 La280 := by rw [l280]; exact Fr.app N279 N280q
  refine own_go (B := T280.setTop (mkF m 364 #[.val (.int p1), .val (.int p2), .val (.int p3), .val (.int p4), .val (.int p5), .val (.int p6), .val (.int vk), .val (.int (1 : Int32)), .val (.ref b257), .val (.int (1 : Int32))] [(.int (0 : Int32))])) (fun t k => own_st st280 k) ?_
  refine own_go (B := T280.setTop (mkF m 367 #[.val (.int p1), .val (.int p2), .val (.int p3), .val (.int p4), .val (.int p5), .val (.int p6), .val (.int vk), .val (.int (1 : Int32)), .val (.ref b257), .val (.int (1 : Int32))] [])) (fun t k => XS.ifNo X280.here hx rfl (Jvm.hb hby at_364) rfl ((if0 _ _).trans (teq (by decide : (0 : Int32) = (0 : Int32))).2) k) ?_
  refine own_go (B := T280.setTop (mkF m 369 #[.val (.int p1), .val (.int p2), .val (.int p3), .val (.int p4), .val (.int p5), .val (.int p6), .val (.int vk), .val (.int (1 : Int32)), .val (.ref b257), .val (.int (1 : Int32))] [(.ref b257)])) (fun t k => XS.aload X280.here hx rfl (Jvm.hb hby at_367) rfl rfl k) ?_
  obtain ⟨cq281, kq281, q281a, q281b, q281c⟩ := isOf hZ e280 E_b257
  obtain ⟨_, _, ⟨T281, La281, ka281, na281⟩, -, X281, ⟨Lc281, hQ281, l281, y281, z281⟩, st281⟩ := X280.virtualBack hx (y := (⟨"com/example/term_unifier/termunifier/IntPairStack", "first", "()I"⟩ : MethodName)) (z := (⟨"com/example/term_unifier/termunifier/IntPairStack", "first", "()I"⟩ : MethodName)) hown (mvT hZ (own_w hw 60 rfl)) (mvT hZ (own_w hw 61 rfl)) (notFace_of_selects (args := #[]) (mvT hZ (own_w hw 63 rfl))) (mvT hZ (own_w hw 63 rfl)) (mvT hZ (own_w hw 62 rfl)) (by decide) (backOf (W := 0) (rm9 l Z a0 hw [] b257 b259 (1 : Int32) 1 (own_upd (own_upd (own_upd (fun _ => 0) 0 p1) 1 p3) 2 p5) p3 T279.heap n0 Zs F_b257_firsts F_b257_top V_b259 (by decide) (by decide) (by decide) rfl) hZ (own_w hw 64 rfl) (own_w hw 2 rfl) (by decide) (by decide)) q281a q281c (g := (mkF m 369 #[.val (.int p1), .val (.int p2), .val (.int p3), .val (.int p4), .val (.int p5), .val (.int p6), .val (.int vk), .val (.int (1 : Int32)), .val (.ref b257), .val (.int (1 : Int32))] [(.ref b257)])) rfl (by rw [hml]; rfl) (Steps.refl _) (argsL := []) (rest := []) (lenOf pd_2 rfl) rfl (by show 2 * 0 + _ ≤ _; exact Nat.le_of_eq rfl) (Jvm.hb hby at_369) (fun _ _ => ⟨rfl, e280, (by decide : 6 + 0 ≤ _), (by decide : 73 + 0 ≤ _)⟩)
  dsimp only [Pt.U, Pt.locs, Pt.cells, Pt.slots] at X281 l281 y281 z281 st281 hQ281
  have y281 : ka281 = 6 := y281
  have z281 : na281 = 73 := z281
  subst y281 z281
  obtain ⟨rfl, N281q, e281⟩ := hQ281
  have N281 : Fr n0 La281 := by rw [l281]; exact Fr.app N280 N281q
  refine own_go (B := T281.setTop (mkF m 372 #[.val (.int p1), .val (.int p2), .val (.int p3), .val (.int p4), .val (.int p5), .val (.int p6), .val (.int vk), .val (.int (1 : Int32)), .val (.ref b257), .val (.int (1 : Int32))] [(.int p3)])) (fun t k => own_st st281 k) ?_
  refine own_go (B := T281.setTop (mkF m 373 #[.val (.int p1), .val (.int p2), .val (.int p3), .val (.int p4), .val (.int p5), .val (.int p6), .val (.int vk), .val (.int (1 : Int32)), .val (.ref b257), .val (.int (1 : Int32))] [(.int p3), (.int p3)])) (fun t k => XS.iloadN X281.here hx rfl (Jvm.hb hby at_372) rfl k) ?_
  refine own_go (B := T281.setTop (mkF m 376 #[.val (.int p1), .val (.int p2), .val (.int p3), .val (.int p4), .val (.int p5), .val (.int p6), .val (.int vk), .val (.int (1 : Int32)), .val (.ref b257), .val (.int (1 : Int32))] [])) (fun t k => XS.icmpNo X281.here hx rfl (Jvm.hb hby at_373) rfl (teq (rfl : p3 = p3)).2 k) ?_
  refine own_go (B := T281.setTop (mkF m 378 #[.val (.int p1), .val (.int p2), .val (.int p3), .val (.int p4), .val (.int p5), .val (.int p6), .val (.int vk), .val (.int (1 : Int32)), .val (.ref b257), .val (.int (1 : Int32))] [(.ref b257)])) (fun t k => XS.aload X281.here hx rfl (Jvm.hb hby at_376) rfl rfl k) ?_
  obtain ⟨cq282, kq282, q282a, q282b, q282c⟩ := isOf hZ e281 E_b257
  obtain ⟨_, _, ⟨T282, La282, ka282, na282⟩, -, X282, ⟨Lc282, hQ282, l282, y282, z282⟩, st282⟩ := X281.virtualBack hx (y := (⟨"com/example/term_unifier/termunifier/IntPairStack", "second", "()I"⟩ : MethodName)) (z := (⟨"com/example/term_unifier/termunifier/IntPairStack", "second", "()I"⟩ : MethodName)) hown (mvT hZ (own_w hw 65 rfl)) (mvT hZ (own_w hw 66 rfl)) (notFace_of_selects (args := #[]) (mvT hZ (own_w hw 68 rfl))) (mvT hZ (own_w hw 68 rfl)) (mvT hZ (own_w hw 67 rfl)) (by decide) (backOf (W := 0) (rm10 l Z a0 hw [] b257 b260 (1 : Int32) 1 (own_upd (own_upd (own_upd (fun _ => 0) 0 p2) 1 p4) 2 (p5 ^^^ (-1 : Int32))) p4 T279.heap n0 Zs F_b257_seconds F_b257_top V_b260 (by decide) (by decide) (by decide) rfl) hZ (own_w hw 69 rfl) (own_w hw 2 rfl) (by decide) (by decide)) q282a q282c (g := (mkF m 378 #[.val (.int p1), .val (.int p2), .val (.int p3), .val (.int p4), .val (.int p5), .val (.int p6), .val (.int vk), .val (.int (1 : Int32)), .val (.ref b257), .val (.int (1 : Int32))] [(.ref b257)])) rfl (by rw [hml]; rfl) (Steps.refl _) (argsL := []) (rest := []) (lenOf pd_2 rfl) rfl (by show 2 * 0 + _ ≤ _; exact Nat.le_of_eq rfl) (Jvm.hb hby at_378) (fun _ _ => ⟨rfl, e281, (by decide : 6 + 0 ≤ _), (by decide : 73 + 0 ≤ _)⟩)
  dsimp only [Pt.U, Pt.locs, Pt.cells, Pt.slots] at X282 l282 y282 z282 st282 hQ282
  have y282 : ka282 = 6 := y282
  have z282 : na282 = 73 := z282
  subst y282 z282
  obtain ⟨rfl, N282q, e282⟩ := hQ282
  have N282 : Fr n0 La282 := by rw [l282]; exact Fr.app N281 N282q
  refine own_go (B := T282.setTop (mkF m 381 #[.val (.int p1), .val (.int p2), .val (.int p3), .val (.int p4), .val (.int p5), .val (.int p6), .val (.int vk), .val (.int (1 : Int32)), .val (.ref b257), .val (.int (1 : Int32))] [(.int p4)])) (fun t k => own_st st282 k) ?_
  refine own_go (B := T282.setTop (mkF m 382 #[.val (.int p1), .val (.int p2), .val (.int p3), .val (.int p4), .val (.int p5), .val (.int p6), .val (.int vk), .val (.int (1 : Int32)), .val (.ref b257), .val (.int (1 : Int32))] [(.int p4), (.int p4)])) (fun t k => XS.iloadN X282.here hx rfl (Jvm.hb hby at_381) rfl k) ?_
  refine own_go (B := T282.setTop (mkF m 385 #[.val (.int p1), .val (.int p2), .val (.int p3), .val (.int p4), .val (.int p5), .val (.int p6), .val (.int vk), .val (.int (1 : Int32)), .val (.ref b257), .val (.int (1 : Int32))] [])) (fun t k => XS.icmpNo X282.here hx rfl (Jvm.hb hby at_382) rfl (teq (rfl : p4 = p4)).2 k) ?_
  refine own_go (B := T282.setTop (mkF m 386 #[.val (.int p1), .val (.int p2), .val (.int p3), .val (.int p4), .val (.int p5), .val (.int p6), .val (.int vk), .val (.int (1 : Int32)), .val (.ref b257), .val (.int (1 : Int32))] [(.int (1 : Int32))])) (fun t k => XS.iconst X282.here hx rfl (Jvm.hb hby at_385) k) ?_
  refine own_go (B := T282.setTop (mkF m 390 #[.val (.int p1), .val (.int p2), .val (.int p3), .val (.int p4), .val (.int p5), .val (.int p6), .val (.int vk), .val (.int (1 : Int32)), .val (.ref b257), .val (.int (1 : Int32))] [(.int (1 : Int32))])) (fun t k => XS.goto X282.here hx rfl (pc0 := 386) (pc' := 390) rfl (Jvm.hb hby at_386) (by decide) (by decide) k) ?_
  refine own_go (B := T282.setTop (mkF m 392 #[.val (.int p1), .val (.int p2), .val (.int p3), .val (.int p4), .val (.int p5), .val (.int p6), .val (.int vk), .val (.int (1 : Int32)), .val (.ref b257), .val (.int (1 : Int32))] [])) (fun t k => XS.istore X282.here hx rfl (Jvm.hb hby at_390) rfl (l' := #[.val (.int p1), .val (.int p2), .val (.int p3), .val (.int p4), .val (.int p5), .val (.int p6), .val (.int vk), .val (.int (1 : Int32)), .val (.ref b257), .val (.int (1 : Int32))]) rfl k) ?_
  refine own_go (B := T282.setTop (mkF m 394 #[.val (.int p1), .val (.int p2), .val (.int p3), .val (.int p4), .val (.int p5), .val (.int p6), .val (.int vk), .val (.int (1 : Int32)), .val (.ref b257), .val (.int (1 : Int32))] [(.ref b257)])) (fun t k => XS.aload X282.here hx rfl (Jvm.hb hby at_392) rfl rfl k) ?_
  obtain ⟨cq283, kq283, q283a, q283b, q283c⟩ := isOf hZ e282 E_b257
  obtain ⟨_, _, ⟨T283, La283, ka283, na283⟩, -, X283, ⟨Lc283, hQ283, l283, y283, z283⟩, st283⟩ := X282.virtualBack hx (y := (⟨"com/example/term_unifier/termunifier/IntPairStack", "pop", "()V"⟩ : MethodName)) (z := (⟨"com/example/term_unifier/termunifier/IntPairStack", "pop", "()V"⟩ : MethodName)) hown (mvT hZ (own_w hw 50 rfl)) (mvT hZ (own_w hw 51 rfl)) (notFace_of_selects (args := #[]) (mvT hZ (own_w hw 53 rfl))) (mvT hZ (own_w hw 53 rfl)) (mvT hZ (own_w hw 52 rfl)) (by decide) (backOf (W := 0) (rm_popd l Z a0 hw [] b257 b259 b260 b261 b262 (1 : Int32) (2 : Int32) (0 : Int32) (0 : Int32) (1 : Int32) 1 (own_upd (own_upd (own_upd (fun _ => 0) 0 (-1 : Int32)) 1 (0 : Int32)) 2 (-1 : Int32)) T279.heap n0 Zs E_b257 F_b257_firsts F_b257_seconds F_b257_below F_b257_top F_b257_used F_b257_kept F_b257_marks V_b261 g_b257 ne_b257_b261 (by decide) (by decide) (by decide) rfl (by decide) (by decide) (by decide)) hZ (own_w hw 54 rfl) (own_w hw 2 rfl) (by decide) (by decide)) q283a q283c (g := (mkF m 394 #[.val (.int p1), .val (.int p2), .val (.int p3), .val (.int p4), .val (.int p5), .val (.int p6), .val (.int vk), .val (.int (1 : Int32)), .val (.ref b257), .val (.int (1 : Int32))] [(.ref b257)])) rfl (by rw [hml]; rfl) (Steps.refl _) (argsL := []) (rest := []) (lenOf pd_0 rfl) rfl (by show 2 * 0 + _ ≤ _; exact Nat.le_of_eq rfl) (Jvm.hb hby at_394) (fun _ _ => ⟨rfl, e282, (by decide : 6 + 0 ≤ _), (by decide : 73 + 0 ≤ _)⟩)
  dsimp only [Pt.U, Pt.locs, Pt.cells, Pt.slots] at X283 l283 y283 z283 st283 hQ283
  have y283 : ka283 = 6 := y283
  have z283 : na283 = 73 := z283
  subst y283 z283
  obtain ⟨rfl, N283q, Kc283, E_b257_q, F_b257_firsts_q, F_b257_seconds_q, F_b257_below_q, F_b257_top_q, F_b257_used_q, F_b257_kept_q, F_b257_marks_q⟩ := hQ283
  have N283 : Fr n0 La283 := by rw [l283]; exact Fr.app N282 N283q
  have V_b259 := V_b259.keep Kc283 (ninS (Ne.symm ne_b257_b259) nin0)
  have V_b260 := V_b260.keep Kc283 (ninS (Ne.symm ne_b257_b260) nin0)
  have V_b261 := V_b261.keep Kc283 (ninS (Ne.symm ne_b257_b261) nin0)
  have E_b262 := E_b262.keep Kc283
  have F_b262_items := F_b262_items.keep Kc283 (ninS (Ne.symm ne_b257_b262) nin0)
  have F_b262_size := F_b262_size.keep Kc283 (ninS (Ne.symm ne_b257_b262) nin0)
  have V_b263 := V_b263.keep Kc283 (ninS (Ne.symm ne_b257_b263) nin0)
  have Zs := Nat.le_trans Zs Kc283.1
  have E_b257 := E_b257_q
  have F_b257_firsts := F_b257_firsts_q
  have F_b257_seconds := F_b257_seconds_q
  have F_b257_below := F_b257_below_q
  have F_b257_top := F_b257_top_q
  have F_b257_used := F_b257_used_q
  have F_b257_kept := F_b257_kept_q
  have F_b257_marks := F_b257_marks_q
  refine own_go (B := T283.setTop (mkF m 397 #[.val (.int p1), .val (.int p2), .val (.int p3), .val (.int p4), .val (.int p5), .val (.int p6), .val (.int vk), .val (.int (1 : Int32)), .val (.ref b257), .val (.int (1 : Int32))] [])) (fun t k => own_st st283 k) ?_
  refine own_go (B := T283.setTop (mkF m 399 #[.val (.int p1), .val (.int p2), .val (.int p3), .val (.int p4), .val (.int p5), .val (.int p6), .val (.int vk), .val (.int (1 : Int32)), .val (.ref b257), .val (.int (1 : Int32))] [(.int (1 : Int32))])) (fun t k => XS.iload X283.here hx rfl (Jvm.hb hby at_397) rfl k) ?_
  refine own_go (B := T283.setTop (mkF m 402 #[.val (.int p1), .val (.int p2), .val (.int p3), .val (.int p4), .val (.int p5), .val (.int p6), .val (.int vk), .val (.int (1 : Int32)), .val (.ref b257), .val (.int (1 : Int32))] [])) (fun t k => XS.ifNo X283.here hx rfl (Jvm.hb hby at_399) rfl ((if0 _ _).trans (feq (by decide : ¬ ((1 : Int32) = (0 : Int32)))).1) k) ?_
  refine own_go (B := T283.setTop (mkF m 404 #[.val (.int p1), .val (.int p2), .val (.int p3), .val (.int p4), .val (.int p5), .val (.int p6), .val (.int vk), .val (.int (1 : Int32)), .val (.ref b257), .val (.int (1 : Int32))] [(.ref b257)])) (fun t k => XS.aload X283.here hx rfl (Jvm.hb hby at_402) rfl rfl k) ?_
  obtain ⟨cq284, kq284, q284a, q284b, q284c⟩ := isOf hZ rfl E_b257
  obtain ⟨_, _, ⟨T284, La284, ka284, na284⟩, -, X284, ⟨Lc284, hQ284, l284, y284, z284⟩, st284⟩ := X283.virtualBack hx (y := (⟨"com/example/term_unifier/termunifier/IntPairStack", "isEmpty", "()Z"⟩ : MethodName)) (z := (⟨"com/example/term_unifier/termunifier/IntPairStack", "isEmpty", "()Z"⟩ : MethodName)) hown (mvT hZ (own_w hw 55 rfl)) (mvT hZ (own_w hw 56 rfl)) (notFace_of_selects (args := #[]) (mvT hZ (own_w hw 58 rfl))) (mvT hZ (own_w hw 58 rfl)) (mvT hZ (own_w hw 57 rfl)) (by decide) (backOf (W := 0) (rm8 l Z a0 hw [] b257 (0 : Int32) (0 : Int32) T283.heap n0 Zs F_b257_top (by decide)) hZ (own_w hw 59 rfl) (own_w hw 2 rfl) (by decide) (by decide)) q284a q284c (g := (mkF m 404 #[.val (.int p1), .val (.int p2), .val (.int p3), .val (.int p4), .val (.int p5), .val (.int p6), .val (.int vk), .val (.int (1 : Int32)), .val (.ref b257), .val (.int (1 : Int32))] [(.ref b257)])) rfl (by rw [hml]; rfl) (Steps.refl _) (argsL := []) (rest := []) (lenOf pd_4 rfl) rfl (by show 2 * 0 + _ ≤ _; exact Nat.le_of_eq rfl) (Jvm.hb hby at_404) (fun _ _ => ⟨rfl, rfl, (by decide : 6 + 0 ≤ _), (by decide : 73 + 0 ≤ _)⟩)
  dsimp only [Pt.U, Pt.locs, Pt.cells, Pt.slots] at X284 l284 y284 z284 st284 hQ284
  have y284 : ka284 = 6 := y284
  have z284 : na284 = 73 := z284
  subst y284 z284
  obtain ⟨rfl, N284q, e284⟩ := hQ284
  have N284 : Fr n0 La284 := by rw [l284]; exact Fr.app N283 N284q
  refine own_go (B := T284.setTop (mkF m 407 #[.val (.int p1), .val (.int p2), .val (.int p3), .val (.int p4), .val (.int p5), .val (.int p6), .val (.int vk), .val (.int (1 : Int32)), .val (.ref b257), .val (.int (1 : Int32))] [(.int (0 : Int32))])) (fun t k => own_st st284 k) ?_
  refine own_go (B := T284.setTop (mkF m 410 #[.val (.int p1), .val (.int p2), .val (.int p3), .val (.int p4), .val (.int p5), .val (.int p6), .val (.int vk), .val (.int (1 : Int32)), .val (.ref b257), .val (.int (1 : Int32))] [])) (fun t k => XS.ifNo X284.here hx rfl (Jvm.hb hby at_407) rfl ((if0 _ _).trans (teq (by decide : (0 : Int32) = (0 : Int32))).2) k) ?_
  refine own_go (B := T284.setTop (mkF m 412 #[.val (.int p1), .val (.int p2), .val (.int p3), .val (.int p4), .val (.int p5), .val (.int p6), .val (.int vk), .val (.int (1 : Int32)), .val (.ref b257), .val (.int (1 : Int32))] [(.ref b257)])) (fun t k => XS.aload X284.here hx rfl (Jvm.hb hby at_410) rfl rfl k) ?_
  obtain ⟨cq285, kq285, q285a, q285b, q285c⟩ := isOf hZ e284 E_b257
  obtain ⟨_, _, ⟨T285, La285, ka285, na285⟩, -, X285, ⟨Lc285, hQ285, l285, y285, z285⟩, st285⟩ := X284.virtualBack hx (y := (⟨"com/example/term_unifier/termunifier/IntPairStack", "first", "()I"⟩ : MethodName)) (z := (⟨"com/example/term_unifier/termunifier/IntPairStack", "first", "()I"⟩ : MethodName)) hown (mvT hZ (own_w hw 60 rfl)) (mvT hZ (own_w hw 61 rfl)) (notFace_of_selects (args := #[]) (mvT hZ (own_w hw 63 rfl))) (mvT hZ (own_w hw 63 rfl)) (mvT hZ (own_w hw 62 rfl)) (by decide) (backOf (W := 0) (rm9 l Z a0 hw [] b257 b259 (0 : Int32) 0 (own_upd (own_upd (own_upd (fun _ => 0) 0 p1) 1 p3) 2 p5) p1 T283.heap n0 Zs F_b257_firsts F_b257_top V_b259 (by decide) (by decide) (by decide) rfl) hZ (own_w hw 64 rfl) (own_w hw 2 rfl) (by decide) (by decide)) q285a q285c (g := (mkF m 412 #[.val (.int p1), .val (.int p2), .val (.int p3), .val (.int p4), .val (.int p5), .val (.int p6), .val (.int vk), .val (.int (1 : Int32)), .val (.ref b257), .val (.int (1 : Int32))] [(.ref b257)])) rfl (by rw [hml]; rfl) (Steps.refl _) (argsL := []) (rest := []) (lenOf pd_2 rfl) rfl (by show 2 * 0 + _ ≤ _; exact Nat.le_of_eq rfl) (Jvm.hb hby at_412) (fun _ _ => ⟨rfl, e284, (by decide : 6 + 0 ≤ _), (by decide : 73 + 0 ≤ _)⟩)
  dsimp only [Pt.U, Pt.locs, Pt.cells, Pt.slots] at X285 l285 y285 z285 st285 hQ285
  have y285 : ka285 = 6 := y285
  have z285 : na285 = 73 := z285
  subst y285 z285
  obtain ⟨rfl, N285q, e285⟩ := hQ285
  have N285 : Fr n0 La285 := by rw [l285]; exact Fr.app N284 N285q
  refine own_go (B := T285.setTop (mkF m 415 #[.val (.int p1), .val (.int p2), .val (.int p3), .val (.int p4), .val (.int p5), .val (.int p6), .val (.int vk), .val (.int (1 : Int32)), .val (.ref b257), .val (.int (1 : Int32))] [(.int p1)])) (fun t k => own_st st285 k) ?_
  refine own_go (B := T285.setTop (mkF m 416 #[.val (.int p1), .val (.int p2), .val (.int p3), .val (.int p4), .val (.int p5), .val (.int p6), .val (.int vk), .val (.int (1 : Int32)), .val (.ref b257), .val (.int (1 : Int32))] [(.int p1), (.int p1)])) (fun t k => XS.iloadN X285.here hx rfl (Jvm.hb hby at_415) rfl k) ?_
  refine own_go (B := T285.setTop (mkF m 419 #[.val (.int p1), .val (.int p2), .val (.int p3), .val (.int p4), .val (.int p5), .val (.int p6), .val (.int vk), .val (.int (1 : Int32)), .val (.ref b257), .val (.int (1 : Int32))] [])) (fun t k => XS.icmpNo X285.here hx rfl (Jvm.hb hby at_416) rfl (teq (rfl : p1 = p1)).2 k) ?_
  refine own_go (B := T285.setTop (mkF m 421 #[.val (.int p1), .val (.int p2), .val (.int p3), .val (.int p4), .val (.int p5), .val (.int p6), .val (.int vk), .val (.int (1 : Int32)), .val (.ref b257), .val (.int (1 : Int32))] [(.ref b257)])) (fun t k => XS.aload X285.here hx rfl (Jvm.hb hby at_419) rfl rfl k) ?_
  obtain ⟨cq286, kq286, q286a, q286b, q286c⟩ := isOf hZ e285 E_b257
  obtain ⟨_, _, ⟨T286, La286, ka286, na286⟩, -, X286, ⟨Lc286, hQ286, l286, y286, z286⟩, st286⟩ := X285.virtualBack hx (y := (⟨"com/example/term_unifier/termunifier/IntPairStack", "second", "()I"⟩ : MethodName)) (z := (⟨"com/example/term_unifier/termunifier/IntPairStack", "second", "()I"⟩ : MethodName)) hown (mvT hZ (own_w hw 65 rfl)) (mvT hZ (own_w hw 66 rfl)) (notFace_of_selects (args := #[]) (mvT hZ (own_w hw 68 rfl))) (mvT hZ (own_w hw 68 rfl)) (mvT hZ (own_w hw 67 rfl)) (by decide) (backOf (W := 0) (rm10 l Z a0 hw [] b257 b260 (0 : Int32) 0 (own_upd (own_upd (own_upd (fun _ => 0) 0 p2) 1 p4) 2 (p5 ^^^ (-1 : Int32))) p2 T283.heap n0 Zs F_b257_seconds F_b257_top V_b260 (by decide) (by decide) (by decide) rfl) hZ (own_w hw 69 rfl) (own_w hw 2 rfl) (by decide) (by decide)) q286a q286c (g := (mkF m 421 #[.val (.int p1), .val (.int p2), .val (.int p3), .val (.int p4), .val (.int p5), .val (.int p6), .val (.int vk), .val (.int (1 : Int32)), .val (.ref b257), .val (.int (1 : Int32))] [(.ref b257)])) rfl (by rw [hml]; rfl) (Steps.refl _) (argsL := []) (rest := []) (lenOf pd_2 rfl) rfl (by show 2 * 0 + _ ≤ _; exact Nat.le_of_eq rfl) (Jvm.hb hby at_421) (fun _ _ => ⟨rfl, e285, (by decide : 6 + 0 ≤ _), (by decide : 73 + 0 ≤ _)⟩)
  dsimp only [Pt.U, Pt.locs, Pt.cells, Pt.slots] at X286 l286 y286 z286 st286 hQ286
  have y286 : ka286 = 6 := y286
  have z286 : na286 = 73 := z286
  subst y286 z286
  obtain ⟨rfl, N286q, e286⟩ := hQ286
  have N286 : Fr n0 La286 := by rw [l286]; exact Fr.app N285 N286q
  refine own_go (B := T286.setTop (mkF m 424 #[.val (.int p1), .val (.int p2), .val (.int p3), .val (.int p4), .val (.int p5), .val (.int p6), .val (.int vk), .val (.int (1 : Int32)), .val (.ref b257), .val (.int (1 : Int32))] [(.int p2)])) (fun t k => own_st st286 k) ?_
  refine own_go (B := T286.setTop (mkF m 425 #[.val (.int p1), .val (.int p2), .val (.int p3), .val (.int p4), .val (.int p5), .val (.int p6), .val (.int vk), .val (.int (1 : Int32)), .val (.ref b257), .val (.int (1 : Int32))] [(.int p2), (.int p2)])) (fun t k => XS.iloadN X286.here hx rfl (Jvm.hb hby at_424) rfl k) ?_
  refine own_go (B := T286.setTop (mkF m 428 #[.val (.int p1), .val (.int p2), .val (.int p3), .val (.int p4), .val (.int p5), .val (.int p6), .val (.int vk), .val (.int (1 : Int32)), .val (.ref b257), .val (.int (1 : Int32))] [])) (fun t k => XS.icmpNo X286.here hx rfl (Jvm.hb hby at_425) rfl (teq (rfl : p2 = p2)).2 k) ?_
  refine own_go (B := T286.setTop (mkF m 429 #[.val (.int p1), .val (.int p2), .val (.int p3), .val (.int p4), .val (.int p5), .val (.int p6), .val (.int vk), .val (.int (1 : Int32)), .val (.ref b257), .val (.int (1 : Int32))] [(.int (1 : Int32))])) (fun t k => XS.iconst X286.here hx rfl (Jvm.hb hby at_428) k) ?_
  refine own_go (B := T286.setTop (mkF m 433 #[.val (.int p1), .val (.int p2), .val (.int p3), .val (.int p4), .val (.int p5), .val (.int p6), .val (.int vk), .val (.int (1 : Int32)), .val (.ref b257), .val (.int (1 : Int32))] [(.int (1 : Int32))])) (fun t k => XS.goto X286.here hx rfl (pc0 := 429) (pc' := 433) rfl (Jvm.hb hby at_429) (by decide) (by decide) k) ?_
  refine own_go (B := T286.setTop (mkF m 435 #[.val (.int p1), .val (.int p2), .val (.int p3), .val (.int p4), .val (.int p5), .val (.int p6), .val (.int vk), .val (.int (1 : Int32)), .val (.ref b257), .val (.int (1 : Int32))] [])) (fun t k => XS.istore X286.here hx rfl (Jvm.hb hby at_433) rfl (l' := #[.val (.int p1), .val (.int p2), .val (.int p3), .val (.int p4), .val (.int p5), .val (.int p6), .val (.int vk), .val (.int (1 : Int32)), .val (.ref b257), .val (.int (1 : Int32))]) rfl k) ?_
  refine own_go (B := T286.setTop (mkF m 437 #[.val (.int p1), .val (.int p2), .val (.int p3), .val (.int p4), .val (.int p5), .val (.int p6), .val (.int vk), .val (.int (1 : Int32)), .val (.ref b257), .val (.int (1 : Int32))] [(.int (1 : Int32))])) (fun t k => XS.iload X286.here hx rfl (Jvm.hb hby at_435) rfl k) ?_
  refine own_out X286 (v := (some (.int (1 : Int32)))) (fun h => by rw [Bd.returns] at h; cases h) Bd.notSynchronized (fun fs hr => retOut X286 hx (t := .boolean) Bd.returns rfl (by first | exact Or.inl ⟨rfl, by simp, _, rfl⟩) (Jvm.hb hby at_437) hr) ?_ (by decide) (by decide)
  show own_Q0 Z p1 p2 p3 p4 p5 p6 h0 n0 (some (.int (1 : Int32))) T286.heap _
  rw [e286]
  exact ⟨rfl, N286⟩
theorem own_k4 (x : Int32) : (x &&& (3 : Int32)) = (0 : Int32) ∨ (x &&& (3 : Int32)) = (1 : Int32) ∨ (x &&& (3 : Int32)) = (2 : Int32) ∨ (x &&& (3 : Int32)) = (3 : Int32) := by
  by_cases h1 : (x &&& (3 : Int32)) = (1 : Int32)
  · exact Or.inr (Or.inl h1)
  · by_cases h2 : (x &&& (3 : Int32)) = (2 : Int32)
    · exact Or.inr (Or.inr (Or.inl h2))
    · by_cases h3 : (x &&& (3 : Int32)) = (3 : Int32)
      · exact Or.inr (Or.inr (Or.inr h3))
      · exact Or.inl (own_k3 x _ rfl h1 h2 h3)
theorem rm0 (l : Launch) (Z : State) (a0 : Array Value) (hw : ∀ d ∈ tables_1, d.before a0 Z = true) (ws : List Jvm.Cond) (p1 : Int32) (p2 : Int32) (p3 : Int32) (p4 : Int32) (p5 : Int32) (p6 : Int32) (h0 : Heap) (n0 : Nat) (Z0 : n0 ≤ h0.size) :
    MetFree l x (head1 (Jvm.Cond.code x code maxLocals ret :: ws) room_1) (fun a U => a = #[(.int p1), (.int p2), (.int p3), (.int p4), (.int p5), (.int p6)] ∧ Z.Warmed39 U.vm ∧ U.heap = h0) (fun _ _ _ _ _ => True) (fun _ U o U' => ∃ v L, o = .returned v ∧ own_Q0 Z p1 p2 p3 p4 p5 p6 h0 n0 v U'.heap L ∧ FrameEnd U o U' L room_1.cells room_1.slots) := by
  by_cases ht : (p6 &&& (4 : Int32)) = (0 : Int32)
  · rcases own_k4 p6 with hk | hk | hk | hk
    · exact rm0_01 l Z a0 hw ws p1 p2 p3 p4 p5 p6 h0 n0 Z0 hk ht
    · exact rm0_11 l Z a0 hw ws p1 p2 p3 p4 p5 p6 h0 n0 Z0 hk ht
    · exact rm0_21 l Z a0 hw ws p1 p2 p3 p4 p5 p6 h0 n0 Z0 hk ht
    · exact rm0_31 l Z a0 hw ws p1 p2 p3 p4 p5 p6 h0 n0 Z0 hk ht
  · rcases own_k4 p6 with hk | hk | hk | hk
    · exact rm0_00 l Z a0 hw ws p1 p2 p3 p4 p5 p6 h0 n0 Z0 hk ht
    · exact rm0_10 l Z a0 hw ws p1 p2 p3 p4 p5 p6 h0 n0 Z0 hk ht
    · exact rm0_20 l Z a0 hw ws p1 p2 p3 p4 p5 p6 h0 n0 Z0 hk ht
    · exact rm0_30 l Z a0 hw ws p1 p2 p3 p4 p5 p6 h0 n0 Z0 hk ht
set_option maxRecDepth 65536 in
set_option maxHeartbeats 40000000 in
theorem comes_1 {Post : Tables → Env → Array Value → State → Outcome → State → Prop} (hpost : ∀ tb e args s v u, (limb_1_1.after args s (.returned v) u = true ∧ limb_1_2.after args s (.returned v) u = true ∧ True) → FrameEnd s (.returned v) u (Jvm.fieldLocs frame_1_writes args s ++ Jvm.arrayLocs frame_1_arrays args s ++ Jvm.staticLocs frame_1_statics s) 24 256 → Post tb e args s (.returned v) u) :
    ArmFor flags0 classFile x code maxLocals ret World_1 tables_1 room_1 Calls_1 rest_1 Pre_1 Post := by
  intro l hfl _ _ p e ha hc hk s m args below hf hA hF happ hP
  obtain ⟨hcalls, hrest, hpre⟩ := hP
  obtain ⟨-, -, -, hnamed, -, -, -, hat⟩ := (Spec.applies_iff hf).mp happ
  obtain ⟨hg, hn⟩ := and_e (Cond.before_iff.mp (show (Jvm.Cond.and given_1 narrow_1).before args s = true from hpre))
  obtain ⟨g1a, g1b⟩ := and_e hg
  obtain ⟨g2a, g2b⟩ := and_e g1b
  obtain ⟨g3a, g3b⟩ := and_e g2b
  obtain ⟨g4a, g4b⟩ := and_e g3b
  obtain ⟨g5a, g5b⟩ := and_e g4b
  obtain ⟨g6a, g6b⟩ := and_e g5b
  obtain ⟨w0, w1, w2, w3, w4, w5, rfl⟩ : ∃ w0 w1 w2 w3 w4 w5 : Value, args = #[w0, w1, w2, w3, w4, w5] := by
    have hs : args.size = 6 := by simpa [Cond.value, given_1] using g1a
    obtain ⟨L⟩ := args
    match L, hs with
    | [w0, w1, w2, w3, w4, w5], _ => exact ⟨w0, w1, w2, w3, w4, w5, rfl⟩
  have hw := fun d (hd : d ∈ tables_1) => atoms_spec (ws := Jvm.Cond.code x code maxLocals ret :: tables_1) hat d (List.mem_cons_of_mem _ hd)
  obtain ⟨i0, ei0⟩ := is_v g2a
  obtain rfl : w0 = (.int i0) := Option.some.inj ei0
  obtain ⟨i1, ei1⟩ := is_v g3a
  obtain rfl : w1 = (.int i1) := Option.some.inj ei1
  obtain ⟨i2, ei2⟩ := is_v g4a
  obtain rfl : w2 = (.int i2) := Option.some.inj ei2
  obtain ⟨i3, ei3⟩ := is_v g5a
  obtain rfl : w3 = (.int i3) := Option.some.inj ei3
  obtain ⟨i4, ei4⟩ := is_v g6a
  obtain rfl : w4 = (.int i4) := Option.some.inj ei4
  obtain ⟨i5, ei5⟩ := is_v g6b
  obtain rfl : w5 = (.int i5) := Option.some.inj ei5
  obtain ⟨n, o, h1, h2, h3, _, L, rfl, ⟨rfl, N⟩, hq⟩ := rm0 l s _ hw tables_1 i0 i1 i2 i3 i4 i5 s.heap s.heap.size (Nat.le_refl _) p e ha hc hk s m _ below hf ((Spec.applies_iff_loose hf).mp happ).1 ⟨rfl, State.Warmed39.refl s, rfl⟩ trivial
  refine ⟨n, _, h1, h2, h3, hpost _ _ _ _ _ _ ⟨Cond.after_iff.mpr rfl, Cond.after_iff.mpr (eq_i res_at (Term.int_eval (1)) rfl), trivial⟩ ⟨hq.1, hq.2.1, (hq.2.2.sift fun y hy => Or.inr (N y hy)).mono (by decide) (by decide)⟩⟩
theorem main_1_1 : Claimed_1_1 := comes_1 fun _ _ _ _ _ _ h hF => ⟨h.1, hF⟩
theorem main_1_2 : Claimed_1_2 := comes_1 fun _ _ _ _ _ _ h hF => ⟨h.2.1, hF⟩
end Jvm.Pilot.@@N@@
namespace Jvm.Pilot.@@N@@
open Jvm Jvm.ClassFile Sem Op Lib Jvm.Free Jvm.Stand Jvm.Pilot.@@N@@.Jvm.D
/-! MADE BY PROGRAM (witnessworld.py) out of the Statement's table words and the real class files: 10 classes; the members and pool entries that the words name. The judged class is class 1, her method 1. -/
namespace start1
open Jvm.ClassFile
def u (s : String) : CpInfo := .utf8 (stringToUtf16 s)
/-- a pool by its gaps: so many unusable entries, then the entry; so many at the end -/
def gap : Nat → List CpInfo → List CpInfo
  | 0, r => r
  | n + 1, r => .unusable :: gap n r
def poolList (es : List (Nat × CpInfo)) (last : Nat) : List CpInfo := es.foldr (fun e r => gap e.1 (e.2 :: r)) (gap last [])
def pool (es : List (Nat × CpInfo)) (last : Nat) : Array CpInfo := ⟨poolList es last⟩
def fileOf (pool : Array CpInfo) (this : Nat) (attrs : Array Attribute := #[]) (ms : Array MethodInfo := #[]) (fl : Nat := 33) (sup : Nat := 0) (ifs : Array Nat := #[]) (fds : Array FieldInfo := #[]) : ClassFile where
  minorVersion := 0
  majorVersion := 65
  constantPool := pool
  accessFlags := fl
  thisClass := this
  superClass := sup
  interfaces := ifs
  fields := fds
  methods := ms
  attributes := attrs
def plain (name : String) (sup : Option ClassId) : Class where
  name := name
  kind := .ordinary
  loader := none
  accessFlags := 33
  super := sup
  interfaces := #[]
  cf := none
  fields := #[]
  methods := #[]
  instanceTypes := #[]
  staticTypes := #[]
  resolved := #[]
  callSites := []
  init := .initialized
  statics := none
  mirror := none

def pool0 : Array CpInfo := pool [(5, u "<init>"), (0, u "()V"), (1, .class_ 10), (1, u "java/lang/Object")] 113

def k0c0 : Code := { maxStack := 0, maxLocals := 1, code := object_method_1_code, exceptionTable := #[], attributes := #[] }
def k0m0 : Method := { name := "<init>", desc := "()V", sig := { parameters := [], returnType := none }, accessFlags := 1, code := some k0c0 }
/-- java/lang/Object -/
def k0 : Class := { plain "java/lang/Object" none with
  accessFlags := 33
  interfaces := #[]
  cf := some (fileOf pool0 8 #[] #[{ accessFlags := 1, nameIndex := 5, descriptorIndex := 6, attributes := #[] }] 33 0 #[] #[])
  fields := #[]
  methods := #[k0m0]
  instanceTypes := #[]
  staticTypes := #[]
  resolved := Array.replicate 124 none
  statics := none }

def pool1 : Array CpInfo := pool [(2, .class_ 4), (0, .nameAndType 5 6), (0, u "java/lang/Object"), (0, u "<init>"), (0, u "()V"), (0, .class_ 8), (0, u "com/example/term_unifier/termunifier/IntPairStack"), (0, .methodref 7 3), (0, .methodref 7 11), (0, .nameAndType 12 6), (0, u "mark"), (0, .methodref 7 14), (0, .nameAndType 15 16), (0, u "push"), (0, u "(II)V"), (0, .methodref 7 18), (0, .nameAndType 19 6), (0, u "pop"), (0, .methodref 7 21), (0, .nameAndType 22 23), (0, u "isEmpty"), (0, u "()Z"), (0, .methodref 7 25), (0, .nameAndType 26 27), (0, u "first"), (0, u "()I"), (0, .methodref 7 29), (0, .nameAndType 30 27), (0, u "second"), (0, .methodref 7 32), (0, .nameAndType 33 6), (0, u "returnToMark"), (0, .class_ 35), (0, u "com/example/term_unifier/termunifier/IntPairStackPopPinLaw"), (2, u "law"), (0, u "(IIIIII)Z")] 3

def k1m0 : Method := { name := "<init>", desc := "()V", sig := { parameters := [], returnType := none }, accessFlags := 1, code := none }
def k1c1 : Code := { maxStack := 4, maxLocals := 10, code := code, exceptionTable := #[], attributes := #[] }
def k1m1 : Method := { name := "law", desc := "(IIIIII)Z", sig := { parameters := [.int, .int, .int, .int, .int, .int], returnType := some .boolean }, accessFlags := 9, code := some k1c1 }
/-- com/example/term_unifier/termunifier/IntPairStackPopPinLaw -/
def k1 : Class := { plain "com/example/term_unifier/termunifier/IntPairStackPopPinLaw" (some 0) with
  accessFlags := 49
  interfaces := #[]
  cf := some (fileOf pool1 34 #[] #[{ accessFlags := 1, nameIndex := 5, descriptorIndex := 6, attributes := #[] }, { accessFlags := 9, nameIndex := 38, descriptorIndex := 39, attributes := #[] }] 49 2 #[] #[])
  fields := #[]
  methods := #[k1m0, k1m1]
  instanceTypes := #[]
  staticTypes := #[]
  resolved := Array.replicate 43 none
  statics := none }

def pool2 : Array CpInfo := pool [(1, .methodref 2 3), (0, .class_ 4), (0, .nameAndType 5 6), (0, u "java/lang/Object"), (0, u "<init>"), (0, u "()V"), (0, .fieldref 8 9), (0, .class_ 10), (0, .nameAndType 11 12), (0, u "com/example/term_unifier/termunifier/IntPairStack"), (0, u "firsts"), (0, u "[I"), (0, .fieldref 8 14), (0, .nameAndType 15 12), (0, u "seconds"), (0, .fieldref 8 17), (0, .nameAndType 18 12), (0, u "below"), (0, .fieldref 8 20), (0, .nameAndType 21 22), (0, u "top"), (0, u "I"), (0, .class_ 24), (0, u "com/example/term_unifier/termunifier/IntStack"), (0, .methodref 23 3), (0, .fieldref 8 27), (0, .nameAndType 28 29), (0, u "marks"), (0, u "Lcom/example/term_unifier/termunifier/IntStack;"), (0, .fieldref 8 31), (0, .nameAndType 32 22), (0, u "used"), (6, .fieldref 8 40), (0, .nameAndType 41 22), (0, u "kept"), (0, .methodref 23 43), (0, .nameAndType 44 45), (0, u "push"), (0, u "(I)V"), (0, .methodref 23 47), (0, .nameAndType 48 49), (0, u "pop"), (0, u "()I"), (2, u "(II)V"), (1, u "first"), (0, u "second"), (0, u "isEmpty"), (0, u "()Z"), (0, u "mark"), (0, u "returnToMark")] 2

def k2c0 : Code := { maxStack := 3, maxLocals := 1, code := prog_10_method_1_code, exceptionTable := #[], attributes := #[] }
def k2m0 : Method := { name := "<init>", desc := "()V", sig := { parameters := [], returnType := none }, accessFlags := 0, code := some k2c0 }
def k2c1 : Code := { maxStack := 4, maxLocals := 3, code := prog_10_method_2_code, exceptionTable := #[], attributes := #[] }
def k2m1 : Method := { name := "push", desc := "(II)V", sig := { parameters := [.int, .int], returnType := none }, accessFlags := 0, code := some k2c1 }
def k2c2 : Code := { maxStack := 2, maxLocals := 1, code := prog_10_method_3_code, exceptionTable := #[], attributes := #[] }
def k2m2 : Method := { name := "first", desc := "()I", sig := { parameters := [], returnType := some .int }, accessFlags := 0, code := some k2c2 }
def k2c3 : Code := { maxStack := 2, maxLocals := 1, code := prog_10_method_4_code, exceptionTable := #[], attributes := #[] }
def k2m3 : Method := { name := "second", desc := "()I", sig := { parameters := [], returnType := some .int }, accessFlags := 0, code := some k2c3 }
def k2c4 : Code := { maxStack := 3, maxLocals := 2, code := prog_10_method_5_code, exceptionTable := #[], attributes := #[] }
def k2m4 : Method := { name := "pop", desc := "()V", sig := { parameters := [], returnType := none }, accessFlags := 0, code := some k2c4 }
def k2c5 : Code := { maxStack := 1, maxLocals := 1, code := prog_10_method_6_code, exceptionTable := #[], attributes := #[] }
def k2m5 : Method := { name := "isEmpty", desc := "()Z", sig := { parameters := [], returnType := some .boolean }, accessFlags := 0, code := some k2c5 }
def k2c6 : Code := { maxStack := 2, maxLocals := 1, code := prog_10_method_7_code, exceptionTable := #[], attributes := #[] }
def k2m6 : Method := { name := "mark", desc := "()V", sig := { parameters := [], returnType := none }, accessFlags := 0, code := some k2c6 }
def k2c7 : Code := { maxStack := 2, maxLocals := 1, code := prog_10_method_8_code, exceptionTable := #[], attributes := #[] }
def k2m7 : Method := { name := "returnToMark", desc := "()V", sig := { parameters := [], returnType := none }, accessFlags := 0, code := some k2c7 }
/-- com/example/term_unifier/termunifier/IntPairStack -/
def k2 : Class := { plain "com/example/term_unifier/termunifier/IntPairStack" (some 0) with
  accessFlags := 32
  interfaces := #[]
  cf := some (fileOf pool2 8 #[] #[{ accessFlags := 0, nameIndex := 5, descriptorIndex := 6, attributes := #[] }, { accessFlags := 0, nameIndex := 44, descriptorIndex := 52, attributes := #[] }, { accessFlags := 0, nameIndex := 54, descriptorIndex := 49, attributes := #[] }, { accessFlags := 0, nameIndex := 55, descriptorIndex := 49, attributes := #[] }, { accessFlags := 0, nameIndex := 48, descriptorIndex := 6, attributes := #[] }, { accessFlags := 0, nameIndex := 56, descriptorIndex := 57, attributes := #[] }, { accessFlags := 0, nameIndex := 58, descriptorIndex := 6, attributes := #[] }, { accessFlags := 0, nameIndex := 59, descriptorIndex := 6, attributes := #[] }] 32 2 #[] #[{ accessFlags := 2, nameIndex := 11, descriptorIndex := 12, attributes := #[] }, { accessFlags := 2, nameIndex := 15, descriptorIndex := 12, attributes := #[] }, { accessFlags := 2, nameIndex := 18, descriptorIndex := 12, attributes := #[] }, { accessFlags := 2, nameIndex := 21, descriptorIndex := 22, attributes := #[] }, { accessFlags := 2, nameIndex := 32, descriptorIndex := 22, attributes := #[] }, { accessFlags := 2, nameIndex := 41, descriptorIndex := 22, attributes := #[] }, { accessFlags := 18, nameIndex := 28, descriptorIndex := 29, attributes := #[] }])
  fields := #[{ name := "firsts", type := (.array .int), accessFlags := 2, slot := 0, constantValue := 0 }, { name := "seconds", type := (.array .int), accessFlags := 2, slot := 1, constantValue := 0 }, { name := "below", type := (.array .int), accessFlags := 2, slot := 2, constantValue := 0 }, { name := "top", type := .int, accessFlags := 2, slot := 3, constantValue := 0 }, { name := "used", type := .int, accessFlags := 2, slot := 4, constantValue := 0 }, { name := "kept", type := .int, accessFlags := 2, slot := 5, constantValue := 0 }, { name := "marks", type := (.object "com/example/term_unifier/termunifier/IntStack"), accessFlags := 18, slot := 6, constantValue := 0 }]
  methods := #[k2m0, k2m1, k2m2, k2m3, k2m4, k2m5, k2m6, k2m7]
  instanceTypes := #[(.array .int), (.array .int), (.array .int), .int, .int, .int, (.object "com/example/term_unifier/termunifier/IntStack")]
  staticTypes := #[]
  resolved := Array.replicate 62 none
  statics := none }

def pool3 : Array CpInfo := pool [(1, .methodref 2 3), (0, .class_ 4), (0, .nameAndType 5 6), (0, u "java/lang/Object"), (0, u "<init>"), (0, u "()V"), (0, .fieldref 8 9), (0, .class_ 10), (0, .nameAndType 11 12), (0, u "com/example/term_unifier/termunifier/IntStack"), (0, u "items"), (0, u "[I"), (0, .fieldref 8 14), (0, .nameAndType 15 16), (0, u "size"), (0, u "I"), (14, u "push"), (0, u "(I)V"), (1, u "pop"), (0, u "()I")] 7

def k3c0 : Code := { maxStack := 2, maxLocals := 1, code := prog_12_method_1_code, exceptionTable := #[], attributes := #[] }
def k3m0 : Method := { name := "<init>", desc := "()V", sig := { parameters := [], returnType := none }, accessFlags := 0, code := some k3c0 }
def k3c1 : Code := { maxStack := 4, maxLocals := 2, code := prog_12_method_2_code, exceptionTable := #[], attributes := #[] }
def k3m1 : Method := { name := "push", desc := "(I)V", sig := { parameters := [.int], returnType := none }, accessFlags := 0, code := some k3c1 }
def k3c2 : Code := { maxStack := 3, maxLocals := 1, code := prog_12_method_3_code, exceptionTable := #[], attributes := #[] }
def k3m2 : Method := { name := "pop", desc := "()I", sig := { parameters := [], returnType := some .int }, accessFlags := 0, code := some k3c2 }
/-- com/example/term_unifier/termunifier/IntStack -/
def k3 : Class := { plain "com/example/term_unifier/termunifier/IntStack" (some 0) with
  accessFlags := 32
  interfaces := #[]
  cf := some (fileOf pool3 8 #[] #[{ accessFlags := 0, nameIndex := 5, descriptorIndex := 6, attributes := #[] }, { accessFlags := 0, nameIndex := 31, descriptorIndex := 32, attributes := #[] }, { accessFlags := 0, nameIndex := 34, descriptorIndex := 35, attributes := #[] }] 32 2 #[] #[{ accessFlags := 2, nameIndex := 11, descriptorIndex := 12, attributes := #[] }, { accessFlags := 2, nameIndex := 15, descriptorIndex := 16, attributes := #[] }])
  fields := #[{ name := "items", type := (.array .int), accessFlags := 2, slot := 0, constantValue := 0 }, { name := "size", type := .int, accessFlags := 2, slot := 1, constantValue := 0 }]
  methods := #[k3m0, k3m1, k3m2]
  instanceTypes := #[(.array .int), .int]
  staticTypes := #[]
  resolved := Array.replicate 43 none
  statics := none }

def pool4 : Array CpInfo := pool [(1, u "java/lang/Cloneable"), (0, .class_ 1), (0, u "java/lang/Object"), (0, .class_ 3)] 3

/-- java/lang/Cloneable -/
def k4 : Class := { plain "java/lang/Cloneable" (some 0) with
  accessFlags := 1537
  interfaces := #[]
  cf := some (fileOf pool4 2 #[] #[] 1537 4 #[] #[])
  fields := #[]
  methods := #[]
  instanceTypes := #[]
  staticTypes := #[]
  resolved := Array.replicate 8 none
  statics := none }

def pool5 : Array CpInfo := pool [(1, u "java/io/Serializable"), (0, .class_ 1), (0, u "java/lang/Object"), (0, .class_ 3)] 3

/-- java/io/Serializable -/
def k5 : Class := { plain "java/io/Serializable" (some 0) with
  accessFlags := 1537
  interfaces := #[]
  cf := some (fileOf pool5 2 #[] #[] 1537 4 #[] #[])
  fields := #[]
  methods := #[]
  instanceTypes := #[]
  staticTypes := #[]
  resolved := Array.replicate 8 none
  statics := none }

/-- the primitive byte -/
def k6 : Class := { plain "byte" none with kind := .primitive 'B', accessFlags := 0x411 }
/-- [B -/
def k7 : Class := { plain "[B" (some 0) with kind := .array 6 .byte, interfaces := #[4, 5], accessFlags := 1041 }

/-- the primitive int -/
def k8 : Class := { plain "int" none with kind := .primitive 'I', accessFlags := 0x411 }
/-- [I -/
def k9 : Class := { plain "[I" (some 0) with kind := .array 8 .int, interfaces := #[4, 5], accessFlags := 1041 }

def heap : Heap := #[]
def classes : Array Class := #[k0, k1, k2, k3, k4, k5, k6, k7, k8, k9]
def interned : List (Array UInt16 × Addr) := []
def slotsUsed : Nat := 0
def theMethod : MethodId := ⟨1, 1⟩
def args0 : Array Value := #[.int 5, .int 5, .int 5, .int 5, .int 5, .int 5]
def aboutOver (below : List Frame) : State where
  vm := { classes := classes, interned := interned.toArray }
  heap := heap
  slotsUsed := slotsUsed
  threads := #[{ frames := .invoking theMethod args0 :: below }]
def below0 : List Frame := [.native { method := ⟨0, 0⟩, args := #[] }]
def about1 : State := aboutOver below0
def p0 : Program := .bare "" "" ""
def e0 : Env := launch0.env 0 0 0
theorem w_frames : about1.frames = Frame.invoking theMethod args0 :: below0 := rfl
set_option maxRecDepth 65536 in
theorem w_args : argsFit about1.vm theMethod args0 = true := by decide +kernel
set_option maxRecDepth 65536 in
theorem w_heap : heapFits about1 = true := by decide +kernel
set_option maxRecDepth 65536 in
theorem w_runnable : about1.curStatus? = some .runnable := by decide +kernel
set_option maxRecDepth 65536 in
theorem w_alone : about1.alone = true := by decide +kernel
set_option maxRecDepth 65536 in
theorem w_named : about1.methodNamed? x = some theMethod := by decide +kernel
set_option maxRecDepth 65536 in
theorem w_hears : about1.hears theMethod below0 = true := by decide +kernel
set_option maxRecDepth 65536 in
theorem w_ripe : about1.ripe theMethod args0 below0 = true := by decide +kernel
theorem w_running : about1.status = .running := rfl
set_option maxRecDepth 65536 in
theorem w_room : about1.hasRoom e0.platform room_1 = true :=
  launch0.hasRoom_least _ room_1 (by decide +kernel) (by decide +kernel) (by decide +kernel) (by decide +kernel) (by decide +kernel) (by decide +kernel)
theorem allAtoms_all (ts : List Jvm.Cond) (a : Array Jvm.Value) (st : Jvm.State) : (allAtoms ts).before a st = ts.all (fun c => c.before a st) := by
  induction ts with
  | nil => rfl
  | cons c t ih =>
    show (Jvm.Cond.and c (allAtoms t)).before a st = _
    rw [Jvm.Cond.before_and, ih, List.all_cons]
def words1 : List Jvm.Cond := Jvm.Cond.code x code maxLocals ret :: tables_1
/-- a 'code' word, met by the world's own term for the bytes: nothing is compared byte by byte -/
theorem code_word {y : MethodName} {bytes : ByteArray} {mx : Nat} {rt : Option FieldType} {a : Array Value} {s : State} {m : MethodId} {meth : Method} {c : Code} (h1 : s.methodNamed? y = some m) (h2 : s.vm.method? m = some meth) (h3 : meth.code = some c) (h4 : c.code = bytes)
    (h5 : (c.maxLocals == mx && c.exceptionTable.isEmpty && decide (c.maxStack ≤ mostOperands) && decide (meth.sig.returnType = rt) && !meth.locks && decide (parseMethodDescriptor y.desc = some meth.sig)) = true) : (Jvm.Cond.code y bytes mx rt).before a s = true := by
  simp only [Bool.and_eq_true, beq_iff_eq, Bool.not_eq_true', decide_eq_true_eq] at h5
  obtain ⟨⟨⟨⟨⟨g1, g2⟩, g3⟩, g4⟩, g5⟩, g6⟩ := h5
  simp [Cond.before, Cond.holds, Cond.value, h1, h2, h3, h4, g1, g2, g3, g4, g5, g6]
def isCode : Jvm.Cond → Bool
  | .code _ _ _ _ => true
  | _ => false
theorem all_split {L : List Jvm.Cond} {P : Jvm.Cond → Bool} (h1 : L.all (fun c => isCode c || P c) = true) (h2 : ∀ c ∈ L.filter isCode, P c = true) : L.all P = true := by
  refine List.all_eq_true.mpr fun c hc => ?_
  have h := List.all_eq_true.mp h1 c hc
  rcases Bool.eq_false_or_eq_true (isCode c) with hi | hi
  · exact h2 c (List.mem_filter.mpr ⟨hc, hi⟩)
  · simpa [hi] using h
set_option maxRecDepth 65536 in
theorem w_c0 : (Jvm.Cond.code x code maxLocals ret).before args0 about1 = true := code_word (m := ⟨1, 1⟩) (meth := k1m1) (c := k1c1) (by decide +kernel) rfl rfl rfl (by decide +kernel)
set_option maxRecDepth 65536 in
theorem w_c1 : (Jvm.Cond.code ({ cls := "com/example/term_unifier/termunifier/IntPairStack", name := "<init>", desc := "()V" } : Jvm.MethodName) prog_10_method_1_code (1 : Nat) (Option.none : Option Jvm.ClassFile.FieldType)).before args0 about1 = true := code_word (m := ⟨2, 0⟩) (meth := k2m0) (c := k2c0) (by decide +kernel) rfl rfl rfl (by decide +kernel)
set_option maxRecDepth 65536 in
theorem w_c2 : (Jvm.Cond.code ({ cls := "java/lang/Object", name := "<init>", desc := "()V" } : Jvm.MethodName) object_method_1_code (1 : Nat) (Option.none : Option Jvm.ClassFile.FieldType)).before args0 about1 = true := code_word (m := ⟨0, 0⟩) (meth := k0m0) (c := k0c0) (by decide +kernel) rfl rfl rfl (by decide +kernel)
set_option maxRecDepth 65536 in
theorem w_c3 : (Jvm.Cond.code ({ cls := "com/example/term_unifier/termunifier/IntStack", name := "<init>", desc := "()V" } : Jvm.MethodName) prog_12_method_1_code (1 : Nat) (Option.none : Option Jvm.ClassFile.FieldType)).before args0 about1 = true := code_word (m := ⟨3, 0⟩) (meth := k3m0) (c := k3c0) (by decide +kernel) rfl rfl rfl (by decide +kernel)
set_option maxRecDepth 65536 in
theorem w_c4 : (Jvm.Cond.code ({ cls := "com/example/term_unifier/termunifier/IntPairStack", name := "push", desc := "(II)V" } : Jvm.MethodName) prog_10_method_2_code (3 : Nat) (Option.none : Option Jvm.ClassFile.FieldType)).before args0 about1 = true := code_word (m := ⟨2, 1⟩) (meth := k2m1) (c := k2c1) (by decide +kernel) rfl rfl rfl (by decide +kernel)
set_option maxRecDepth 65536 in
theorem w_c5 : (Jvm.Cond.code ({ cls := "com/example/term_unifier/termunifier/IntPairStack", name := "mark", desc := "()V" } : Jvm.MethodName) prog_10_method_7_code (1 : Nat) (Option.none : Option Jvm.ClassFile.FieldType)).before args0 about1 = true := code_word (m := ⟨2, 6⟩) (meth := k2m6) (c := k2c6) (by decide +kernel) rfl rfl rfl (by decide +kernel)
set_option maxRecDepth 65536 in
theorem w_c6 : (Jvm.Cond.code ({ cls := "com/example/term_unifier/termunifier/IntStack", name := "push", desc := "(I)V" } : Jvm.MethodName) prog_12_method_2_code (2 : Nat) (Option.none : Option Jvm.ClassFile.FieldType)).before args0 about1 = true := code_word (m := ⟨3, 1⟩) (meth := k3m1) (c := k3c1) (by decide +kernel) rfl rfl rfl (by decide +kernel)
set_option maxRecDepth 65536 in
theorem w_c7 : (Jvm.Cond.code ({ cls := "com/example/term_unifier/termunifier/IntPairStack", name := "pop", desc := "()V" } : Jvm.MethodName) prog_10_method_5_code (2 : Nat) (Option.none : Option Jvm.ClassFile.FieldType)).before args0 about1 = true := code_word (m := ⟨2, 4⟩) (meth := k2m4) (c := k2c4) (by decide +kernel) rfl rfl rfl (by decide +kernel)
set_option maxRecDepth 65536 in
theorem w_c8 : (Jvm.Cond.code ({ cls := "com/example/term_unifier/termunifier/IntPairStack", name := "isEmpty", desc := "()Z" } : Jvm.MethodName) prog_10_method_6_code (1 : Nat) (Option.some Jvm.ClassFile.FieldType.boolean)).before args0 about1 = true := code_word (m := ⟨2, 5⟩) (meth := k2m5) (c := k2c5) (by decide +kernel) rfl rfl rfl (by decide +kernel)
set_option maxRecDepth 65536 in
theorem w_c9 : (Jvm.Cond.code ({ cls := "com/example/term_unifier/termunifier/IntPairStack", name := "first", desc := "()I" } : Jvm.MethodName) prog_10_method_3_code (1 : Nat) (Option.some Jvm.ClassFile.FieldType.int)).before args0 about1 = true := code_word (m := ⟨2, 2⟩) (meth := k2m2) (c := k2c2) (by decide +kernel) rfl rfl rfl (by decide +kernel)
set_option maxRecDepth 65536 in
theorem w_c10 : (Jvm.Cond.code ({ cls := "com/example/term_unifier/termunifier/IntPairStack", name := "second", desc := "()I" } : Jvm.MethodName) prog_10_method_4_code (1 : Nat) (Option.some Jvm.ClassFile.FieldType.int)).before args0 about1 = true := code_word (m := ⟨2, 3⟩) (meth := k2m3) (c := k2c3) (by decide +kernel) rfl rfl rfl (by decide +kernel)
set_option maxRecDepth 65536 in
theorem w_c11 : (Jvm.Cond.code ({ cls := "com/example/term_unifier/termunifier/IntPairStack", name := "returnToMark", desc := "()V" } : Jvm.MethodName) prog_10_method_8_code (1 : Nat) (Option.none : Option Jvm.ClassFile.FieldType)).before args0 about1 = true := code_word (m := ⟨2, 7⟩) (meth := k2m7) (c := k2c7) (by decide +kernel) rfl rfl rfl (by decide +kernel)
set_option maxRecDepth 65536 in
theorem w_c12 : (Jvm.Cond.code ({ cls := "com/example/term_unifier/termunifier/IntStack", name := "pop", desc := "()I" } : Jvm.MethodName) prog_12_method_3_code (1 : Nat) (Option.some Jvm.ClassFile.FieldType.int)).before args0 about1 = true := code_word (m := ⟨3, 2⟩) (meth := k3m2) (c := k3c2) (by decide +kernel) rfl rfl rfl (by decide +kernel)
def codes1 : List Jvm.Cond := [Jvm.Cond.code x code maxLocals ret, Jvm.Cond.code ({ cls := "com/example/term_unifier/termunifier/IntPairStack", name := "<init>", desc := "()V" } : Jvm.MethodName) prog_10_method_1_code (1 : Nat) (Option.none : Option Jvm.ClassFile.FieldType), Jvm.Cond.code ({ cls := "java/lang/Object", name := "<init>", desc := "()V" } : Jvm.MethodName) object_method_1_code (1 : Nat) (Option.none : Option Jvm.ClassFile.FieldType), Jvm.Cond.code ({ cls := "com/example/term_unifier/termunifier/IntStack", name := "<init>", desc := "()V" } : Jvm.MethodName) prog_12_method_1_code (1 : Nat) (Option.none : Option Jvm.ClassFile.FieldType), Jvm.Cond.code ({ cls := "com/example/term_unifier/termunifier/IntPairStack", name := "push", desc := "(II)V" } : Jvm.MethodName) prog_10_method_2_code (3 : Nat) (Option.none : Option Jvm.ClassFile.FieldType), Jvm.Cond.code ({ cls := "com/example/term_unifier/termunifier/IntPairStack", name := "mark", desc := "()V" } : Jvm.MethodName) prog_10_method_7_code (1 : Nat) (Option.none : Option Jvm.ClassFile.FieldType), Jvm.Cond.code ({ cls := "com/example/term_unifier/termunifier/IntStack", name := "push", desc := "(I)V" } : Jvm.MethodName) prog_12_method_2_code (2 : Nat) (Option.none : Option Jvm.ClassFile.FieldType), Jvm.Cond.code ({ cls := "com/example/term_unifier/termunifier/IntPairStack", name := "pop", desc := "()V" } : Jvm.MethodName) prog_10_method_5_code (2 : Nat) (Option.none : Option Jvm.ClassFile.FieldType), Jvm.Cond.code ({ cls := "com/example/term_unifier/termunifier/IntPairStack", name := "isEmpty", desc := "()Z" } : Jvm.MethodName) prog_10_method_6_code (1 : Nat) (Option.some Jvm.ClassFile.FieldType.boolean), Jvm.Cond.code ({ cls := "com/example/term_unifier/termunifier/IntPairStack", name := "first", desc := "()I" } : Jvm.MethodName) prog_10_method_3_code (1 : Nat) (Option.some Jvm.ClassFile.FieldType.int), Jvm.Cond.code ({ cls := "com/example/term_unifier/termunifier/IntPairStack", name := "second", desc := "()I" } : Jvm.MethodName) prog_10_method_4_code (1 : Nat) (Option.some Jvm.ClassFile.FieldType.int), Jvm.Cond.code ({ cls := "com/example/term_unifier/termunifier/IntPairStack", name := "returnToMark", desc := "()V" } : Jvm.MethodName) prog_10_method_8_code (1 : Nat) (Option.none : Option Jvm.ClassFile.FieldType), Jvm.Cond.code ({ cls := "com/example/term_unifier/termunifier/IntStack", name := "pop", desc := "()I" } : Jvm.MethodName) prog_12_method_3_code (1 : Nat) (Option.some Jvm.ClassFile.FieldType.int)]
set_option maxRecDepth 65536 in
theorem codes_eq : words1.filter isCode = codes1 := rfl
theorem w_codes : ∀ c ∈ words1.filter isCode, c.before args0 about1 = true := by
  rw [codes_eq]
  intro c hc
  simp only [codes1, List.mem_cons, List.not_mem_nil, or_false] at hc
  rcases hc with rfl | rfl | rfl | rfl | rfl | rfl | rfl | rfl | rfl | rfl | rfl | rfl | rfl
  · exact w_c0
  · exact w_c1
  · exact w_c2
  · exact w_c3
  · exact w_c4
  · exact w_c5
  · exact w_c6
  · exact w_c7
  · exact w_c8
  · exact w_c9
  · exact w_c10
  · exact w_c11
  · exact w_c12
set_option maxRecDepth 65536 in
theorem w_t1 : (words1.take 24).all (fun c => isCode c || c.before args0 about1) = true := by decide +kernel
set_option maxRecDepth 65536 in
theorem w_t2 : ((words1.drop 24).take 24).all (fun c => isCode c || c.before args0 about1) = true := by decide +kernel
set_option maxRecDepth 65536 in
theorem w_t3 : (((words1.drop 24).drop 24).take 24).all (fun c => isCode c || c.before args0 about1) = true := by decide +kernel
set_option maxRecDepth 65536 in
theorem w_t4 : (((words1.drop 24).drop 24).drop 24).all (fun c => isCode c || c.before args0 about1) = true := by decide +kernel
theorem w_tables : (allAtoms (Jvm.Cond.code x code maxLocals ret :: tables_1)).before args0 about1 = true := by
  rw [allAtoms_all]
  show words1.all (fun c => c.before args0 about1) = true
  refine all_split ?_ w_codes
  rw [← List.take_append_drop 24 words1, List.all_append, w_t1, ← List.take_append_drop 24 (words1.drop 24), List.all_append, w_t2, ← List.take_append_drop 24 ((words1.drop 24).drop 24), List.all_append, w_t3, w_t4]
  rfl
set_option maxRecDepth 65536 in
theorem w_case : (Jvm.Cond.and given_1 narrow_1).before args0 about1 = true := by decide +kernel
theorem w_applies : (headSpec (Jvm.Cond.code x code maxLocals ret :: tables_1) room_1).applies x e0.platform about1 = true :=
  (Spec.applies_iff w_frames).mpr ⟨w_running, w_runnable, w_alone, w_named, w_hears, w_ripe, w_room, w_tables⟩
theorem atStart : AtStart classFile x code maxLocals ret World_1 tables_1 room_1 Calls_1 rest_1 Pre_1 launch0 p0 e0 about1 theMethod args0 below0 :=
  ⟨lists_1, trivial, launch0.admits_env _ _ _, launch0.least_env, fairChoices_fair.cas, fairChoices_fair.clock, w_frames, w_args, w_heap, w_applies, trivial, trivial, w_case⟩
end start1
theorem witness_1 : WitnessClaimed_1 := ⟨start1.p0, start1.e0, start1.about1, start1.theMethod, start1.args0, start1.below0, start1.atStart⟩
end Jvm.Pilot.@@N@@
