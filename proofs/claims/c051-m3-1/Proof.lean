import JvmDerived
import JvmDerived.Pilot.@@N@@Statement
import JvmDerived.Pilot.@@N@@Code
set_option linter.unusedVariables false
set_option linter.unusedSimpArgs false
namespace Jvm.Pilot.@@N@@
open Jvm Jvm.ClassFile Sem Op Lib Jvm.Free Jvm.Stand Jvm.LawKit Jvm.RoadKit Bundle Jvm.Pilot.@@N@@.Jvm.D
section Own
variable {p : Program} {l : Launch} {e : Env} {R : Room} {s : State} {m : MethodId} {args : Array Value} {below : List Frame} {meth : Method} {c : Code} {T : State} {locs : List Loc} {cells slots : Nat} {Z : State} {h h' : Heap} {a b : Addr}
/-- from A the run comes to its return, and Q holds there -/
def own_Goes (p : Program) (e : Env) (below : List Frame) (s : State) (Q : Option Value → Heap → List Loc → Prop) (kc ks : Nat) (A : State) : Prop :=
  ∃ s₂ o, Steps p.tables e below A s₂ ∧ s₂.status = .running ∧ Ended s₂ below o ∧ ∃ v L, o = .returned v ∧ Q v s₂.heap L ∧ FrameEnd s o s₂ L kc ks
theorem own_go {Q : Option Value → Heap → List Loc → Prop} {kc ks : Nat} {A B : State} (st : ∀ t, Steps p.tables e below B t → Steps p.tables e below A t) (k : own_Goes p e below s Q kc ks B) : own_Goes p e below s Q kc ks A := by
  obtain ⟨s2, o, h1, h2⟩ := k
  exact ⟨s2, o, st _ h1, h2⟩
theorem own_w {a0 : Array Value} {Z : State} (hw : ∀ d ∈ tables_1, d.before a0 Z = true) (i : Nat) {d : Jvm.Cond} (h : tables_1[i]? = some d) : d.before a0 Z = true := hw d (List.mem_of_getElem? h)
theorem own_selP {y y' : MethodName} (hs : (Cond.selects y'.cls y' y').before args s = true) (he : y.cls = y'.cls) (hpriv : s.PrivateAt y) (hinst : (Cond.instanceMethod y).before args s = true) (hy : y.cls ≠ "java/lang/invoke/MethodHandle" ∧ y.cls ≠ "java/lang/invoke/VarHandle") : (Cond.selects y.cls y y).before args s = true := by
  obtain ⟨c2, r2, m2, q1, q2, q3, q4, kP, hkP, hkPi⟩ := Cond.selects_spec hs
  exact selects_self_of_private (by rw [he]; exact findClass_of_methodNamed q3) hkP hkPi hpriv hinst hy
theorem own_st {tb : Tables} {A B t : State} (h1 : Steps tb e below A B) (k : Steps tb e below B t) : Steps tb e below A t := h1.trans k
theorem own_out {Q : Option Value → Heap → List Loc → Prop} {kc ks : Nat} {A : State} (X : Stand p l e R s m args below meth c T locs cells slots) {v : Option Value} (hv : meth.sig.returnType = none → v = none) (hlk : meth.locks = false)
    (st : ∀ fs, (∀ (f : JFrame) (acts : List Action), f.method = m → f.locked = none → f.entered = [] → (doReturn e (T.setTop f) acts v).1 = T.setFrames fs) → Steps p.tables e below A (T.setFrames fs))
    (hq : Q v T.heap locs) (hc : cells ≤ kc) (hs : slots ≤ ks) : own_Goes p e below s Q kc ks A := by
  obtain ⟨fs, hr, hrun, hended, hW, hsame⟩ := X.leave hv hlk
  exact ⟨_, _, st fs hr, hrun, hended, _, _, rfl, hq, ⟨_, rfl⟩, hW, hsame.mono hc hs⟩
theorem own_irem {tb : Tables} [Ours tb] {T target : State} {g : JFrame} (h : At T m c below) (hx : tb.exec = Jvm.exec) (hg : g.method = m) {x y : Int32} {rest : List Value} (hd : decode c.code g.pc = .ok (.irem, 1)) (hs : g.stack = .int y :: .int x :: rest) (hy : y ≠ 0)
    (hr : Steps tb e below (T.setTop { g with pc := g.pc + 1, stack := .int (x % y) :: rest }) target) : Steps tb e below (T.setTop g) target := XS.irem h hx hg hd hs hy (by rw [irem_eq_mod]; exact hr)
theorem own_lrem {tb : Tables} [Ours tb] {T target : State} {g : JFrame} (h : At T m c below) (hx : tb.exec = Jvm.exec) (hg : g.method = m) {x y : Int64} {rest : List Value} (hd : decode c.code g.pc = .ok (.lrem, 1)) (hs : g.stack = .long y :: .long x :: rest) (hy : y ≠ 0)
    (hr : Steps tb e below (T.setTop { g with pc := g.pc + 1, stack := .long (x % y) :: rest }) target) : Steps tb e below (T.setTop g) target := XS.lrem h hx hg hd hs hy (by rw [lrem_mod]; exact hr)
/-- an array of ints (bytes, booleans): its length, and what each place holds -/
def own_IA (Z : State) (h : Heap) (a : Addr) (ty : FieldType) (n : Nat) (f : Nat → Int32) : Prop := ∃ c : Cell, Arr Z h a c ty ∧ c.slots.size = n ∧ ∀ i, i < n → c.slots[i]? = some (.int (f i))
/-- an array of longs -/
def own_LA (Z : State) (h : Heap) (a : Addr) (n : Nat) (f : Nat → Int64) : Prop := ∃ c : Cell, Arr Z h a c .long ∧ c.slots.size = n ∧ ∀ i, i < n → c.slots[i]? = some (.long (f i))
def own_upd {α : Type} (f : Nat → α) (j : Nat) (x : α) (i : Nat) : α := if i = j then x else f i
theorem own_upd_hit {α : Type} (f : Nat → α) (j : Nat) (x : α) : own_upd f j x j = x := if_pos rfl
theorem own_upd_miss {α : Type} (f : Nat → α) {i j : Nat} (x : α) (q : i ≠ j) : own_upd f j x i = f i := if_neg q
section Arrays
variable {ty : FieldType} {n : Nat} {f : Nat → Int32} {fl : Nat → Int64} {sl : Nat} {v : Value} {ws : List Addr}
theorem own_IA.lt (F : own_IA Z h a ty n f) : a < h.size := by obtain ⟨c, A, -⟩ := F; exact A.lt
theorem own_LA.lt (F : own_LA Z h a n fl) : a < h.size := by obtain ⟨c, A, -⟩ := F; exact A.lt
theorem own_IA.ext (F : own_IA Z h a ty n f) (E : Ext h h') : own_IA Z h' a ty n f := by obtain ⟨c, A, r⟩ := F; exact ⟨c, A.ext E, r⟩
theorem own_LA.ext (F : own_LA Z h a n fl) (E : Ext h h') : own_LA Z h' a n fl := by obtain ⟨c, A, r⟩ := F; exact ⟨c, A.ext E, r⟩
theorem own_IA.other (F : own_IA Z h b ty n f) (W : Wr h h' a sl v) (q : b ≠ a) : own_IA Z h' b ty n f := by obtain ⟨c, A, r⟩ := F; exact ⟨c, A.other W q, r⟩
theorem own_LA.other (F : own_LA Z h b n fl) (W : Wr h h' a sl v) (q : b ≠ a) : own_LA Z h' b n fl := by obtain ⟨c, A, r⟩ := F; exact ⟨c, A.other W q, r⟩
theorem own_IA.keep (F : own_IA Z h a ty n f) (K : Keep h h' ws) (q : a ∉ ws) : own_IA Z h' a ty n f := by obtain ⟨c, A, r⟩ := F; exact ⟨c, ⟨K.2.1 a c A.1 q, A.2⟩, r⟩
theorem own_LA.keep (F : own_LA Z h a n fl) (K : Keep h h' ws) (q : a ∉ ws) : own_LA Z h' a n fl := by obtain ⟨c, A, r⟩ := F; exact ⟨c, ⟨K.2.1 a c A.1 q, A.2⟩, r⟩
theorem own_IA.cong {g : Nat → Int32} (F : own_IA Z h a ty n f) (q : ∀ i, i < n → f i = g i) : own_IA Z h a ty n g := by obtain ⟨c, A, r, u⟩ := F; exact ⟨c, A, r, fun i hi => by rw [u i hi, q i hi]⟩
theorem own_LA.cong {g : Nat → Int64} (F : own_LA Z h a n fl) (q : ∀ i, i < n → fl i = g i) : own_LA Z h a n g := by obtain ⟨c, A, r, u⟩ := F; exact ⟨c, A, r, fun i hi => by rw [u i hi, q i hi]⟩
theorem own_in {cl : Cell} {j : Int32} {k : Nat} (S : cl.slots.size = n) (h1 : ¬ j < 0) (hk : j.toNatClampNeg = k) (h2 : k < n) : ¬ (j < 0 ∨ cl.slots.size ≤ j.toNatClampNeg) := by
  rintro (q | q)
  · exact h1 q
  · rw [S, hk] at q; exact absurd h2 (Nat.not_lt.mpr q)
theorem own_set {cl : Cell} {k : Nat} (S : cl.slots.size = n) (h2 : k < n) (v : Value) (i : Nat) : (cl.setSlot k v).slots[i]? = if i = k then some v else cl.slots[i]? := by
  by_cases q : i = k
  · subst q; rw [if_pos rfl]; exact Array.getElem?_setIfInBounds_self_of_lt (by rw [S]; exact h2)
  · rw [if_neg q]; exact Array.getElem?_setIfInBounds_ne (fun z => q z.symm)
theorem own_Inew {k : ClassId} {z : Int32} (A : Arr Z h a (newA k ty z) ty) (hz : z.toNatClampNeg = n) (hd : defaultValue ty = .int 0) : own_IA Z h a ty n (fun _ => 0) := by
  refine ⟨_, A, by rw [sz_new, hz], fun i hi => ?_⟩
  show (Array.replicate z.toNatClampNeg (defaultValue ty))[i]? = _
  rw [hz, hd, Array.getElem?_replicate, if_pos hi]
theorem own_Lnew {k : ClassId} {z : Int32} (A : Arr Z h a (newA k .long z) .long) (hz : z.toNatClampNeg = n) : own_LA Z h a n (fun _ => 0) := by
  refine ⟨_, A, by rw [sz_new, hz], fun i hi => ?_⟩
  show (Array.replicate z.toNatClampNeg (defaultValue .long))[i]? = _
  rw [hz, Array.getElem?_replicate, if_pos hi]; rfl
theorem own_iaload (X : Stand p l e R s m args below meth c T locs cells slots) (hx : p.tables.exec = Jvm.exec) (hZ : Z.Warmed39 s.vm) (eT : T.heap = h) (V : own_IA Z h a .int n f) {j : Int32} {k : Nat} (h1 : ¬ j < 0) (hk : j.toNatClampNeg = k) (h2 : k < n) {pc : Nat} {Ls : Array Slot} {rest : List Value} (hd : decode c.code pc = .ok (.iaload, 1)) (t : State)
    (kk : Steps p.tables e below (T.setTop (mkF m (pc + 1) Ls (.int (f k) :: rest))) t) : Steps p.tables e below (T.setTop (mkF m pc Ls (.int j :: .ref a :: rest))) t := by
  obtain ⟨cl, A, S, H⟩ := V
  exact X.iaload hx (j := j) (v := .int (f k)) (by rw [eT]; exact A.1) (State.isArrayOf_alike hZ.alike A.2.1) A.2.2 (own_in S h1 hk h2) (by rw [hk]; exact H _ h2) (g := mkF m pc Ls (.int j :: .ref a :: rest)) rfl rfl hd t kk
theorem own_baload (X : Stand p l e R s m args below meth c T locs cells slots) (hx : p.tables.exec = Jvm.exec) (hZ : Z.Warmed39 s.vm) (eT : T.heap = h) (V : own_IA Z h a .byte n f) {j : Int32} {k : Nat} (h1 : ¬ j < 0) (hk : j.toNatClampNeg = k) (h2 : k < n) {pc : Nat} {Ls : Array Slot} {rest : List Value} (hd : decode c.code pc = .ok (.baload, 1)) (t : State)
    (kk : Steps p.tables e below (T.setTop (mkF m (pc + 1) Ls (.int (f k) :: rest))) t) : Steps p.tables e below (T.setTop (mkF m pc Ls (.int j :: .ref a :: rest))) t := by
  obtain ⟨cl, A, S, H⟩ := V
  exact X.baloadBytes hx (j := j) (v := .int (f k)) (by rw [eT]; exact A.1) (State.isArrayOf_alike hZ.alike A.2.1) A.2.2 (own_in S h1 hk h2) (by rw [hk]; exact H _ h2) (g := mkF m pc Ls (.int j :: .ref a :: rest)) rfl rfl hd t kk
theorem own_laload (X : Stand p l e R s m args below meth c T locs cells slots) (hx : p.tables.exec = Jvm.exec) (hZ : Z.Warmed39 s.vm) (eT : T.heap = h) (V : own_LA Z h a n fl) {j : Int32} {k : Nat} (h1 : ¬ j < 0) (hk : j.toNatClampNeg = k) (h2 : k < n) {pc : Nat} {Ls : Array Slot} {rest : List Value} (hd : decode c.code pc = .ok (.laload, 1)) (t : State)
    (kk : Steps p.tables e below (T.setTop (mkF m (pc + 1) Ls (.long (fl k) :: rest))) t) : Steps p.tables e below (T.setTop (mkF m pc Ls (.int j :: .ref a :: rest))) t := by
  obtain ⟨cl, A, S, H⟩ := V
  exact X.laload hx (j := j) (v := .long (fl k)) (by rw [eT]; exact A.1) (State.isArrayOf_alike hZ.alike A.2.1) A.2.2 (own_in S h1 hk h2) (by rw [hk]; exact H _ h2) (g := mkF m pc Ls (.int j :: .ref a :: rest)) rfl rfl hd t kk
theorem own_alen (X : Stand p l e R s m args below meth c T locs cells slots) (hx : p.tables.exec = Jvm.exec) (hZ : Z.Warmed39 s.vm) (eT : T.heap = h) (V : own_IA Z h a ty n f) {z : Int32} (hl : n.toInt32 = z) {pc : Nat} {Ls : Array Slot} {rest : List Value} (hd : decode c.code pc = .ok (.arraylength, 1)) (t : State)
    (kk : Steps p.tables e below (T.setTop (mkF m (pc + 1) Ls (.int z :: rest))) t) : Steps p.tables e below (T.setTop (mkF m pc Ls (.ref a :: rest))) t := by
  obtain ⟨cl, A, S, H⟩ := V
  exact X.arraylength hx (by rw [eT]; exact A.1) (State.isArrayOf_alike hZ.alike A.2.1) (g := mkF m pc Ls (.ref a :: rest)) rfl rfl hd t (by rw [S, hl]; exact kk)
theorem own_alenL (X : Stand p l e R s m args below meth c T locs cells slots) (hx : p.tables.exec = Jvm.exec) (hZ : Z.Warmed39 s.vm) (eT : T.heap = h) (V : own_LA Z h a n fl) {z : Int32} (hl : n.toInt32 = z) {pc : Nat} {Ls : Array Slot} {rest : List Value} (hd : decode c.code pc = .ok (.arraylength, 1)) (t : State)
    (kk : Steps p.tables e below (T.setTop (mkF m (pc + 1) Ls (.int z :: rest))) t) : Steps p.tables e below (T.setTop (mkF m pc Ls (.ref a :: rest))) t := by
  obtain ⟨cl, A, S, H⟩ := V
  exact X.arraylength hx (by rw [eT]; exact A.1) (State.isArrayOf_alike hZ.alike A.2.1) (g := mkF m pc Ls (.ref a :: rest)) rfl rfl hd t (by rw [S, hl]; exact kk)
theorem own_iastore (X : Stand p l e R s m args below meth c T locs cells slots) (hx : p.tables.exec = Jvm.exec) (hZ : Z.Warmed39 s.vm) (eT : T.heap = h) (V : own_IA Z h a .int n f) {j x : Int32} {k : Nat} (h1 : ¬ j < 0) (hk : j.toNatClampNeg = k) (h2 : k < n) {g : JFrame} (hg : g.method = m) {rest : List Value} (hs : g.stack = .int x :: .int j :: .ref a :: rest) (hd : decode c.code g.pc = .ok (.iastore, 1)) :
    ∃ T' h', Stand p l e R s m args below meth c T' (locs ++ [⟨a, k⟩]) cells slots ∧ T'.heap = h' ∧ Wr h h' a k (.int x) ∧ own_IA Z h' a .int n (own_upd f k x) ∧ ∀ target, Steps p.tables e below (T'.setTop { g with pc := g.pc + 1, stack := rest }) target → Steps p.tables e below (T.setTop g) target := by
  obtain ⟨cl, A, S, H⟩ := V
  obtain ⟨T', h', X', e', W, st⟩ := stI X hx hZ eT A (own_in S h1 hk h2) hg hs hd
  rw [hk] at X' W
  refine ⟨T', h', X', e', W, ⟨_, A.same W, by rw [sz_set, S], fun i hi => ?_⟩, st⟩
  rw [own_set S h2]; unfold own_upd
  by_cases q : i = k
  · rw [if_pos q, if_pos q]
  · rw [if_neg q, if_neg q]; exact H i hi
theorem own_bastore (X : Stand p l e R s m args below meth c T locs cells slots) (hx : p.tables.exec = Jvm.exec) (hZ : Z.Warmed39 s.vm) (eT : T.heap = h) (V : own_IA Z h a .byte n f) {j x : Int32} {k : Nat} (h1 : ¬ j < 0) (hk : j.toNatClampNeg = k) (h2 : k < n) {g : JFrame} (hg : g.method = m) {rest : List Value} (hs : g.stack = .int x :: .int j :: .ref a :: rest) (hd : decode c.code g.pc = .ok (.bastore, 1)) :
    ∃ T' h', Stand p l e R s m args below meth c T' (locs ++ [⟨a, k⟩]) cells slots ∧ T'.heap = h' ∧ Wr h h' a k (.int x.toInt8.toInt32) ∧ own_IA Z h' a .byte n (own_upd f k x.toInt8.toInt32) ∧ ∀ target, Steps p.tables e below (T'.setTop { g with pc := g.pc + 1, stack := rest }) target → Steps p.tables e below (T.setTop g) target := by
  obtain ⟨cl, A, S, H⟩ := V
  obtain ⟨T', h', X', e', W, st⟩ := stB X hx hZ eT A (own_in S h1 hk h2) hg hs hd
  rw [hk] at X' W
  refine ⟨T', h', X', e', W, ⟨_, A.same W, by rw [sz_set, S], fun i hi => ?_⟩, st⟩
  rw [own_set S h2]; unfold own_upd
  by_cases q : i = k
  · rw [if_pos q, if_pos q]; rfl
  · rw [if_neg q, if_neg q]; exact H i hi
theorem own_lastore (X : Stand p l e R s m args below meth c T locs cells slots) (hx : p.tables.exec = Jvm.exec) (hZ : Z.Warmed39 s.vm) (eT : T.heap = h) (V : own_LA Z h a n fl) {j : Int32} {x : Int64} {k : Nat} (h1 : ¬ j < 0) (hk : j.toNatClampNeg = k) (h2 : k < n) {g : JFrame} (hg : g.method = m) {rest : List Value} (hs : g.stack = .long x :: .int j :: .ref a :: rest) (hd : decode c.code g.pc = .ok (.lastore, 1)) :
    ∃ T' h', Stand p l e R s m args below meth c T' (locs ++ [⟨a, k⟩]) cells slots ∧ T'.heap = h' ∧ Wr h h' a k (.long x) ∧ own_LA Z h' a n (own_upd fl k x) ∧ ∀ target, Steps p.tables e below (T'.setTop { g with pc := g.pc + 1, stack := rest }) target → Steps p.tables e below (T.setTop g) target := by
  obtain ⟨cl, A, S, H⟩ := V
  obtain ⟨T', h', X', e', W, st⟩ := stJ X hx hZ eT A (own_in S h1 hk h2) hg hs hd
  rw [hk] at X' W
  refine ⟨T', h', X', e', W, ⟨_, A.same W, by rw [sz_set, S], fun i hi => ?_⟩, st⟩
  rw [own_set S h2]; unfold own_upd
  by_cases q : i = k
  · rw [if_pos q, if_pos q]
  · rw [if_neg q, if_neg q]; exact H i hi
theorem own_clone (X : Stand p l e R s m args below meth c T locs cells slots) (hx : p.tables.exec = Jvm.exec) (hZ : Z.Warmed39 s.vm) {a0 : Array Value} {own ad : String} {index : Nat} (hown : s.vm.findClass own = some m.cls)
    (w1 : (Cond.methodLink own index ⟨ad, "clone", "()Ljava/lang/Object;"⟩).before a0 Z = true) (w2 : (Cond.sameMethod ad "java/lang/Object" "clone" "()Ljava/lang/Object;").before a0 Z = true) (w3 : (Cond.native ⟨"java/lang/Object", "clone", "()Ljava/lang/Object;"⟩).before a0 Z = true)
    (w4 : (Cond.instanceMethod ⟨"java/lang/Object", "clone", "()Ljava/lang/Object;"⟩).before a0 Z = true) (w5 : (Cond.selects ad ⟨ad, "clone", "()Ljava/lang/Object;"⟩ ⟨"java/lang/Object", "clone", "()Ljava/lang/Object;"⟩).before a0 Z = true) (w6 : (Cond.castable ad "java/lang/Cloneable").before a0 Z = true)
    (eT : T.heap = h) (V : own_IA Z h a .int n f) (E : Exa Z h a ad) {g : JFrame} (hg : g.method = m) (hsize : g.locals.size = c.maxLocals) {rest : List Value} (hst : g.stack = .ref a :: rest) (hd : decode c.code g.pc = .ok (.invokevirtual index, 3))
    (hf : 1 ≤ R.frames) {W cap : Nat} (hW : 2 * g.monitorRoom + (rest.map fun v => v.category).sum ≤ W) (hl : W + 14 ≤ R.locals) (hcap : n ≤ cap) (hc : cells + 1 ≤ R.cells) (hsl : slots + cap ≤ R.slots) :
    ∃ T' h', Stand p l e R s m args below meth c T' locs (cells + 1) (slots + cap) ∧ T'.heap = h' ∧ Ext h h' ∧ own_IA Z h' h.size .int n f ∧ Exa Z h' h.size ad ∧
      ∀ target, Steps p.tables e below (T'.setTop { g with pc := g.pc + 3, stack := .ref h.size :: rest }) target → Steps p.tables e below (T.setTop g) target := by
  obtain ⟨cl, A, S, H⟩ := V
  have FC : FitC Z cl := fitC_of A fun i hi v hv => by rw [H i (by rw [← S]; exact hi)] at hv; cases hv; rfl
  obtain ⟨T', h', X', e', ex, A', E', st⟩ := cloneA X hx hZ hown w1 w2 w3 w4 w5 w6 eT A E FC hg hsize hst hd hf hW hl (by rw [S]; exact hcap) hc hsl
  exact ⟨T', h', X', e', ex, ⟨cloneOf cl, A', S, H⟩, E', st⟩
end Arrays
end Own
theorem pn_com_example_term_unifier_termunifier_IntStack : plainName "com/example/term_unifier/termunifier/IntStack" = true := by first | (simp [plainName, overriddenIn]; done) | decide +kernel
theorem d1_0 : decode prog_11_method_1_code 0 = .ok (.aload_n 0, 1) := by decide +kernel
theorem d1_1 : decode prog_11_method_1_code 1 = .ok (.invokespecial 1, 3) := by decide +kernel
theorem d1_4 : decode prog_11_method_1_code 4 = .ok (.aload_n 0, 1) := by decide +kernel
theorem d1_5 : decode prog_11_method_1_code 5 = .ok (.bipush 16, 2) := by decide +kernel
theorem d1_7 : decode prog_11_method_1_code 7 = .ok (.newarray .int, 2) := by decide +kernel
theorem d1_9 : decode prog_11_method_1_code 9 = .ok (.putfield 7, 3) := by decide +kernel
theorem d1_12 : decode prog_11_method_1_code 12 = .ok (.return_, 1) := by decide +kernel
theorem ef_1 (m : MethodId) (x0 : Addr) : entryFrame m #[(.ref x0)] 1 = mkF m 0 #[.val (.ref x0)] [] := by first | (simp [entryFrame, mkF, argsToLocals, Value.category]; done) | rfl
def own_Q1 (Z : State) (zs : Addr) (h0 : Heap) (n0 : Nat) (v : Option Value) (h : Heap) (L : List Loc) : Prop := v = none ∧ Fr n0 L ∧ ∃ zarr : Addr, h0.size ≤ zarr ∧ Keep h0 h [zs] ∧ Exa Z h zs "com/example/term_unifier/termunifier/IntStack" ∧ Fld Z h zs "com/example/term_unifier/termunifier/IntStack" "items" "[I" (.ref zarr) ∧ Fld Z h zs "com/example/term_unifier/termunifier/IntStack" "size" "I" (.int (0 : Int32)) ∧ own_IA Z h zarr .int 16 (fun _ => 0)
set_option maxRecDepth 65536 in
set_option maxHeartbeats 40000000 in
theorem rm1 (l : Launch) (Z : State) (a0 : Array Value) (hw : ∀ d ∈ tables_1, d.before a0 Z = true) (ws : List Jvm.Cond) (zs : Addr) (h0 : Heap) (n0 : Nat) (Z0 : n0 ≤ h0.size) (E_zs : Exa Z h0 zs "com/example/term_unifier/termunifier/IntStack") (F_zs_items : Fld Z h0 zs "com/example/term_unifier/termunifier/IntStack" "items" "[I" .null) (F_zs_size : Fld Z h0 zs "com/example/term_unifier/termunifier/IntStack" "size" "I" (.int (0 : Int32))) (g_zs : n0 ≤ zs) :
    MetFree l (⟨"com/example/term_unifier/termunifier/IntStack", "<init>", "()V"⟩ : MethodName) (head1 (Jvm.Cond.code (⟨"com/example/term_unifier/termunifier/IntStack", "<init>", "()V"⟩ : MethodName) prog_11_method_1_code 1 none :: ws) ({ frames := 1, cells := 1, slots := 16, locals := 12 } : Room)) (fun a U => a = #[(.ref zs)] ∧ Z.Warmed39 U.vm ∧ U.heap = h0) (fun _ _ _ _ _ => True) (fun _ U o U' => ∃ v L, o = .returned v ∧ own_Q1 Z zs h0 n0 v U'.heap L ∧ FrameEnd U o U' L ({ frames := 1, cells := 1, slots := 16, locals := 12 } : Room).cells ({ frames := 1, cells := 1, slots := 16, locals := 12 } : Room).slots) := by
  refine MetFree.of_bodySF (plainFor_of_name pn_com_example_term_unifier_termunifier_IntStack) hisR ?_
  intro p e s m args below meth c s₁ Bd hml0 hP hK
  obtain ⟨rfl, hZ, hh⟩ := hP
  have hx := Bd.exec
  have hby := Bd.bytes
  have hml : c.maxLocals = 1 := hml0
  have hown : s.vm.findClass "com/example/term_unifier/termunifier/IntStack" = some m.cls := findClass_of_methodNamed Bd.named
  have hnm := (name_of_methodNamed Bd.named Bd.method).1
  have X0 : Stand p l e ({ frames := 1, cells := 1, slots := 16, locals := 12 } : Room) s m #[(.ref zs)] below meth c s₁ [] 0 0 := Stand.of_body Bd
  have e0 : s₁.heap = h0 := by rw [← hh, Bd.state]; rfl
  have N0 := Fr.nil n0
  have Zs := Z0
  have K : Keep h0 h0 [zs] := Keep.refl _ _
  show own_Goes p e below s (own_Q1 Z zs h0 n0) ({ frames := 1, cells := 1, slots := 16, locals := 12 } : Room).cells ({ frames := 1, cells := 1, slots := 16, locals := 12 } : Room).slots _
  refine own_go (B := s₁.setTop (mkF m 0 #[.val (.ref zs)] [])) (fun t k => castTop (ef_1 m zs) k) ?_
  refine own_go (B := s₁.setTop (mkF m 1 #[.val (.ref zs)] [(.ref zs)])) (fun t k => XS.aloadN X0.here hx rfl (Jvm.hb hby d1_0) rfl rfl k) ?_
  obtain ⟨T1, X1, e1, st1⟩ := initO X0 hx hZ hown (own_w hw 6 rfl) (own_w hw 7 rfl) (own_w hw 8 rfl) e0 (g := (mkF m 1 #[.val (.ref zs)] [(.ref zs)])) rfl (by rw [hml]; rfl) rfl (Jvm.hb hby d1_1) (by decide) (W := 0) (by show 2 * 0 + _ ≤ _; exact Nat.le_of_eq rfl) (by decide)
  refine own_go (B := T1.setTop (mkF m 4 #[.val (.ref zs)] [])) (fun t k => st1 _ k) ?_
  refine own_go (B := T1.setTop (mkF m 5 #[.val (.ref zs)] [(.ref zs)])) (fun t k => XS.aloadN X1.here hx rfl (Jvm.hb hby d1_4) rfl rfl k) ?_
  refine own_go (B := T1.setTop (mkF m 7 #[.val (.ref zs)] [(.int (16 : Int32)), (.ref zs)])) (fun t k => XS.bipush X1.here hx rfl (Jvm.hb hby d1_5) k) ?_
  obtain ⟨T2, h2, k2, X2, e2, E2, A2, st2⟩ := newP X1 hx hZ (own_w hw 9 rfl) e1 (g := (mkF m 7 #[.val (.ref zs)] [(.int (16 : Int32)), (.ref zs)])) rfl (Jvm.hb hby d1_7) rfl (by decide) (cap := 16) (by decide) (by decide) (by decide) (by decide)
  obtain ⟨b2, g2⟩ : ∃ z, z = h0.size := ⟨_, rfl⟩
  rw [← g2] at A2 st2
  have ne_zs_b2 : zs ≠ b2 := Nat.ne_of_lt (Nat.lt_of_lt_of_le E_zs.lt (Nat.le_of_eq g2.symm))
  have g_b2 : n0 ≤ b2 := Nat.le_trans Zs (Nat.le_of_eq g2.symm)
  have sz_b2 : h0.size ≤ b2 := Nat.le_trans K.1 (Nat.le_of_eq g2.symm)
  have E_zs := E_zs.ext E2
  have F_zs_items := F_zs_items.ext E2
  have F_zs_size := F_zs_size.ext E2
  have K := K.ext E2
  have Zs := Nat.le_trans Zs E2.1
  have V_b2 : own_IA Z h2 b2 .int 16 (fun _ => 0) := own_Inew A2 (by decide) rfl
  refine own_go (B := T2.setTop (mkF m 9 #[.val (.ref zs)] [(.ref b2), (.ref zs)])) (fun t k => st2 _ k) ?_
  obtain ⟨T3, h3, X3, e3, W3, st3⟩ := putF X2 hx hZ hown (host := "") (Or.inl (own_w hw 10 rfl)) Via.refl e2 F_zs_items E_zs (Or.inl (own_w hw 11 rfl)) (own_w hw 1 rfl) (ty := (.array .int)) (by decide) rfl rfl (g := (mkF m 9 #[.val (.ref zs)] [(.ref b2), (.ref zs)])) rfl rfl (Jvm.hb hby d1_9)
  have N3 := Fr.snoc X3 N0 g_zs
  have E_zs := E_zs.wr W3
  have F_zs_items := F_zs_items.same W3
  have F_zs_size := F_zs_size.other W3 (Or.inr (slot_ne (Or.inl (own_w hw 18 rfl)) (Or.inl (own_w hw 11 rfl)) (by decide) (t := .int) (t' := (.array .int)) (by decide) (by decide)))
  have V_b2 := V_b2.other W3 (Ne.symm ne_zs_b2)
  have K := K.wr W3 (Or.inl (List.mem_of_getElem? (i := 0) rfl))
  have Zs := Nat.le_trans Zs (Keep.of_wr W3).1
  refine own_go (B := T3.setTop (mkF m 12 #[.val (.ref zs)] [])) (fun t k => st3 _ k) ?_
  refine own_out X3 (v := none) (fun _ => rfl) Bd.notSynchronized (fun fs hr => X3.returnOut hx Bd.returns (Jvm.hb hby d1_12) hr) ?_ (by decide) (by decide)
  show own_Q1 Z zs h0 n0 none T3.heap _
  rw [e3]
  exact ⟨rfl, N3, b2, sz_b2, K, E_zs, F_zs_items, F_zs_size, V_b2⟩
theorem d3_0 : decode prog_11_method_2_code 0 = .ok (.aload_n 0, 1) := by decide +kernel
theorem d3_1 : decode prog_11_method_2_code 1 = .ok (.getfield 13, 3) := by decide +kernel
theorem d3_4 : decode prog_11_method_2_code 4 = .ok (.aload_n 0, 1) := by decide +kernel
theorem d3_5 : decode prog_11_method_2_code 5 = .ok (.getfield 7, 3) := by decide +kernel
theorem d3_8 : decode prog_11_method_2_code 8 = .ok (.arraylength, 1) := by decide +kernel
theorem d3_9 : decode prog_11_method_2_code 9 = .ok (.if_icmp .ne 20, 3) := by decide +kernel
theorem d3_29 : decode prog_11_method_2_code 29 = .ok (.aload_n 0, 1) := by decide +kernel
theorem d3_30 : decode prog_11_method_2_code 30 = .ok (.getfield 7, 3) := by decide +kernel
theorem d3_33 : decode prog_11_method_2_code 33 = .ok (.aload_n 0, 1) := by decide +kernel
theorem d3_34 : decode prog_11_method_2_code 34 = .ok (.getfield 13, 3) := by decide +kernel
theorem d3_37 : decode prog_11_method_2_code 37 = .ok (.iload_n 1, 1) := by decide +kernel
theorem d3_38 : decode prog_11_method_2_code 38 = .ok (.iastore, 1) := by decide +kernel
theorem d3_39 : decode prog_11_method_2_code 39 = .ok (.aload_n 0, 1) := by decide +kernel
theorem d3_40 : decode prog_11_method_2_code 40 = .ok (.dup, 1) := by decide +kernel
theorem d3_41 : decode prog_11_method_2_code 41 = .ok (.getfield 13, 3) := by decide +kernel
theorem d3_44 : decode prog_11_method_2_code 44 = .ok (.iconst 1, 1) := by decide +kernel
theorem d3_45 : decode prog_11_method_2_code 45 = .ok (.iadd, 1) := by decide +kernel
theorem d3_46 : decode prog_11_method_2_code 46 = .ok (.putfield 13, 3) := by decide +kernel
theorem d3_49 : decode prog_11_method_2_code 49 = .ok (.return_, 1) := by decide +kernel
theorem ef_3 (m : MethodId) (x0 : Addr) (x1 : Int32) : entryFrame m #[(.ref x0), (.int x1)] 2 = mkF m 0 #[.val (.ref x0), .val (.int x1)] [] := by first | (simp [entryFrame, mkF, argsToLocals, Value.category]; done) | rfl
def own_Q3 (Z : State) (zs : Addr) (zx : Int32) (zarr : Addr) (zn : Int32) (zm : Int32) (zk : Nat) (zf : Nat → Int32) (h0 : Heap) (n0 : Nat) (v : Option Value) (h : Heap) (L : List Loc) : Prop := v = none ∧ Fr n0 L ∧ Keep h0 h [zs, zarr] ∧ Exa Z h zs "com/example/term_unifier/termunifier/IntStack" ∧ Fld Z h zs "com/example/term_unifier/termunifier/IntStack" "items" "[I" (.ref zarr) ∧ Fld Z h zs "com/example/term_unifier/termunifier/IntStack" "size" "I" (.int zm) ∧ own_IA Z h zarr .int 16 (own_upd zf zk zx)
set_option maxRecDepth 65536 in
set_option maxHeartbeats 40000000 in
theorem rm3 (l : Launch) (Z : State) (a0 : Array Value) (hw : ∀ d ∈ tables_1, d.before a0 Z = true) (ws : List Jvm.Cond) (zs : Addr) (zx : Int32) (zarr : Addr) (zn : Int32) (zm : Int32) (zk : Nat) (zf : Nat → Int32) (h0 : Heap) (n0 : Nat) (Z0 : n0 ≤ h0.size) (E_zs : Exa Z h0 zs "com/example/term_unifier/termunifier/IntStack") (F_zs_items : Fld Z h0 zs "com/example/term_unifier/termunifier/IntStack" "items" "[I" (.ref zarr)) (F_zs_size : Fld Z h0 zs "com/example/term_unifier/termunifier/IntStack" "size" "I" (.int zn)) (V_zarr : own_IA Z h0 zarr .int 16 zf) (g_zs : n0 ≤ zs) (g_zarr : n0 ≤ zarr) (ne_zs_zarr : zs ≠ zarr) (hk0 : ¬ (zn < 0)) (hk : zn.toNatClampNeg = zk) (hk1 : zk < 16) (hk2 : (zn + (1 : Int32)) = zm) (hk3 : ¬ (zn = (16 : Int32))) :
    MetFree l (⟨"com/example/term_unifier/termunifier/IntStack", "push", "(I)V"⟩ : MethodName) (head1 (Jvm.Cond.code (⟨"com/example/term_unifier/termunifier/IntStack", "push", "(I)V"⟩ : MethodName) prog_11_method_2_code 2 none :: ws) ({ frames := 0, cells := 0, slots := 0, locals := 0 } : Room)) (fun a U => a = #[(.ref zs), (.int zx)] ∧ Z.Warmed39 U.vm ∧ U.heap = h0) (fun _ _ _ _ _ => True) (fun _ U o U' => ∃ v L, o = .returned v ∧ own_Q3 Z zs zx zarr zn zm zk zf h0 n0 v U'.heap L ∧ FrameEnd U o U' L ({ frames := 0, cells := 0, slots := 0, locals := 0 } : Room).cells ({ frames := 0, cells := 0, slots := 0, locals := 0 } : Room).slots) := by
  refine MetFree.of_bodySF (plainFor_of_name pn_com_example_term_unifier_termunifier_IntStack) hisR ?_
  intro p e s m args below meth c s₁ Bd hml0 hP hK
  obtain ⟨rfl, hZ, hh⟩ := hP
  have hx := Bd.exec
  have hby := Bd.bytes
  have hml : c.maxLocals = 2 := hml0
  have hown : s.vm.findClass "com/example/term_unifier/termunifier/IntStack" = some m.cls := findClass_of_methodNamed Bd.named
  have hnm := (name_of_methodNamed Bd.named Bd.method).1
  have X0 : Stand p l e ({ frames := 0, cells := 0, slots := 0, locals := 0 } : Room) s m #[(.ref zs), (.int zx)] below meth c s₁ [] 0 0 := Stand.of_body Bd
  have e0 : s₁.heap = h0 := by rw [← hh, Bd.state]; rfl
  have N0 := Fr.nil n0
  have Zs := Z0
  have K : Keep h0 h0 [zs, zarr] := Keep.refl _ _
  show own_Goes p e below s (own_Q3 Z zs zx zarr zn zm zk zf h0 n0) ({ frames := 0, cells := 0, slots := 0, locals := 0 } : Room).cells ({ frames := 0, cells := 0, slots := 0, locals := 0 } : Room).slots _
  refine own_go (B := s₁.setTop (mkF m 0 #[.val (.ref zs), .val (.int zx)] [])) (fun t k => castTop (ef_3 m zs zx) k) ?_
  refine own_go (B := s₁.setTop (mkF m 1 #[.val (.ref zs), .val (.int zx)] [(.ref zs)])) (fun t k => XS.aloadN X0.here hx rfl (Jvm.hb hby d3_0) rfl rfl k) ?_
  obtain ⟨T4, X4, e4, st4⟩ := getF X0 hx hZ hown (host := "") (Or.inl (own_w hw 17 rfl)) Via.refl e0 F_zs_size (g := (mkF m 1 #[.val (.ref zs), .val (.int zx)] [(.ref zs)])) rfl rfl (Jvm.hb hby d3_1)
  refine own_go (B := T4.setTop (mkF m 4 #[.val (.ref zs), .val (.int zx)] [(.int zn)])) (fun t k => st4 _ k) ?_
  refine own_go (B := T4.setTop (mkF m 5 #[.val (.ref zs), .val (.int zx)] [(.ref zs), (.int zn)])) (fun t k => XS.aloadN X4.here hx rfl (Jvm.hb hby d3_4) rfl rfl k) ?_
  obtain ⟨T5, X5, e5, st5⟩ := getF X4 hx hZ hown (host := "") (Or.inl (own_w hw 10 rfl)) Via.refl e4 F_zs_items (g := (mkF m 5 #[.val (.ref zs), .val (.int zx)] [(.ref zs), (.int zn)])) rfl rfl (Jvm.hb hby d3_5)
  refine own_go (B := T5.setTop (mkF m 8 #[.val (.ref zs), .val (.int zx)] [(.ref zarr), (.int zn)])) (fun t k => st5 _ k) ?_
  refine own_go (B := T5.setTop (mkF m 9 #[.val (.ref zs), .val (.int zx)] [(.int (16 : Int32)), (.int zn)])) (fun t k => own_alen X5 hx hZ e5 V_zarr (by decide) (Jvm.hb hby d3_8) t k) ?_
  refine own_go (B := T5.setTop (mkF m 29 #[.val (.ref zs), .val (.int zx)] [])) (fun t k => XS.icmpYes X5.here hx rfl (pc0 := 9) (pc' := 29) rfl (Jvm.hb hby d3_9) rfl (feq hk3).2 (by decide) (by decide) k) ?_
  refine own_go (B := T5.setTop (mkF m 30 #[.val (.ref zs), .val (.int zx)] [(.ref zs)])) (fun t k => XS.aloadN X5.here hx rfl (Jvm.hb hby d3_29) rfl rfl k) ?_
  obtain ⟨T6, X6, e6, st6⟩ := getF X5 hx hZ hown (host := "") (Or.inl (own_w hw 10 rfl)) Via.refl e5 F_zs_items (g := (mkF m 30 #[.val (.ref zs), .val (.int zx)] [(.ref zs)])) rfl rfl (Jvm.hb hby d3_30)
  refine own_go (B := T6.setTop (mkF m 33 #[.val (.ref zs), .val (.int zx)] [(.ref zarr)])) (fun t k => st6 _ k) ?_
  refine own_go (B := T6.setTop (mkF m 34 #[.val (.ref zs), .val (.int zx)] [(.ref zs), (.ref zarr)])) (fun t k => XS.aloadN X6.here hx rfl (Jvm.hb hby d3_33) rfl rfl k) ?_
  obtain ⟨T7, X7, e7, st7⟩ := getF X6 hx hZ hown (host := "") (Or.inl (own_w hw 17 rfl)) Via.refl e6 F_zs_size (g := (mkF m 34 #[.val (.ref zs), .val (.int zx)] [(.ref zs), (.ref zarr)])) rfl rfl (Jvm.hb hby d3_34)
  refine own_go (B := T7.setTop (mkF m 37 #[.val (.ref zs), .val (.int zx)] [(.int zn), (.ref zarr)])) (fun t k => st7 _ k) ?_
  refine own_go (B := T7.setTop (mkF m 38 #[.val (.ref zs), .val (.int zx)] [(.int zx), (.int zn), (.ref zarr)])) (fun t k => XS.iloadN X7.here hx rfl (Jvm.hb hby d3_37) rfl k) ?_
  obtain ⟨T8, h8, X8, e8, W8, V8, st8⟩ := own_iastore X7 hx hZ e7 V_zarr (j := zn) (k := zk) hk0 hk hk1 (g := (mkF m 38 #[.val (.ref zs), .val (.int zx)] [(.int zx), (.int zn), (.ref zarr)])) rfl rfl (Jvm.hb hby d3_38)
  have N8 := Fr.snoc X8 N0 g_zarr
  have E_zs := E_zs.wr W8
  have F_zs_items := F_zs_items.other W8 (Or.inl ne_zs_zarr)
  have F_zs_size := F_zs_size.other W8 (Or.inl ne_zs_zarr)
  have K := K.wr W8 (Or.inl (List.mem_of_getElem? (i := 1) rfl))
  have Zs := Nat.le_trans Zs (Keep.of_wr W8).1
  have V_zarr := V8
  refine own_go (B := T8.setTop (mkF m 39 #[.val (.ref zs), .val (.int zx)] [])) (fun t k => st8 _ k) ?_
  refine own_go (B := T8.setTop (mkF m 40 #[.val (.ref zs), .val (.int zx)] [(.ref zs)])) (fun t k => XS.aloadN X8.here hx rfl (Jvm.hb hby d3_39) rfl rfl k) ?_
  refine own_go (B := T8.setTop (mkF m 41 #[.val (.ref zs), .val (.int zx)] [(.ref zs), (.ref zs)])) (fun t k => XS.dup X8.here hx rfl (Jvm.hb hby d3_40) rfl rfl k) ?_
  obtain ⟨T9, X9, e9, st9⟩ := getF X8 hx hZ hown (host := "") (Or.inl (own_w hw 17 rfl)) Via.refl e8 F_zs_size (g := (mkF m 41 #[.val (.ref zs), .val (.int zx)] [(.ref zs), (.ref zs)])) rfl rfl (Jvm.hb hby d3_41)
  refine own_go (B := T9.setTop (mkF m 44 #[.val (.ref zs), .val (.int zx)] [(.int zn), (.ref zs)])) (fun t k => st9 _ k) ?_
  refine own_go (B := T9.setTop (mkF m 45 #[.val (.ref zs), .val (.int zx)] [(.int (1 : Int32)), (.int zn), (.ref zs)])) (fun t k => XS.iconst X9.here hx rfl (Jvm.hb hby d3_44) k) ?_
  refine own_go (B := T9.setTop (mkF m 46 #[.val (.ref zs), .val (.int zx)] [(.int (zn + (1 : Int32))), (.ref zs)])) (fun t k => XS.iadd X9.here hx rfl (Jvm.hb hby d3_45) rfl k) ?_
  obtain ⟨T10, h10, X10, e10, W10, st10⟩ := putF X9 hx hZ hown (host := "") (Or.inl (own_w hw 17 rfl)) Via.refl e9 F_zs_size E_zs (Or.inl (own_w hw 18 rfl)) (own_w hw 1 rfl) (ty := .int) (by decide) rfl rfl (g := (mkF m 46 #[.val (.ref zs), .val (.int zx)] [(.int (zn + (1 : Int32))), (.ref zs)])) rfl rfl (Jvm.hb hby d3_46)
  have N10 := Fr.snoc X10 N8 g_zs
  have E_zs := E_zs.wr W10
  have F_zs_items := F_zs_items.other W10 (Or.inr (slot_ne (Or.inl (own_w hw 11 rfl)) (Or.inl (own_w hw 18 rfl)) (by decide) (t := (.array .int)) (t' := .int) (by decide) (by decide)))
  have F_zs_size := F_zs_size.same W10
  have V_zarr := V_zarr.other W10 (Ne.symm ne_zs_zarr)
  have K := K.wr W10 (Or.inl (List.mem_of_getElem? (i := 0) rfl))
  have Zs := Nat.le_trans Zs (Keep.of_wr W10).1
  refine own_go (B := T10.setTop (mkF m 49 #[.val (.ref zs), .val (.int zx)] [])) (fun t k => st10 _ k) ?_
  refine own_out X10 (v := none) (fun _ => rfl) Bd.notSynchronized (fun fs hr => X10.returnOut hx Bd.returns (Jvm.hb hby d3_49) hr) ?_ (by decide) (by decide)
  show own_Q3 Z zs zx zarr zn zm zk zf h0 n0 none T10.heap _
  rw [e10]
  exact ⟨rfl, N10, K, E_zs, F_zs_items, (by rw [← hk2]; exact F_zs_size), V_zarr⟩
theorem d4_0 : decode prog_11_method_3_code 0 = .ok (.aload_n 0, 1) := by decide +kernel
theorem d4_1 : decode prog_11_method_3_code 1 = .ok (.dup, 1) := by decide +kernel
theorem d4_2 : decode prog_11_method_3_code 2 = .ok (.getfield 13, 3) := by decide +kernel
theorem d4_5 : decode prog_11_method_3_code 5 = .ok (.iconst 1, 1) := by decide +kernel
theorem d4_6 : decode prog_11_method_3_code 6 = .ok (.isub, 1) := by decide +kernel
theorem d4_7 : decode prog_11_method_3_code 7 = .ok (.putfield 13, 3) := by decide +kernel
theorem d4_10 : decode prog_11_method_3_code 10 = .ok (.aload_n 0, 1) := by decide +kernel
theorem d4_11 : decode prog_11_method_3_code 11 = .ok (.getfield 7, 3) := by decide +kernel
theorem d4_14 : decode prog_11_method_3_code 14 = .ok (.aload_n 0, 1) := by decide +kernel
theorem d4_15 : decode prog_11_method_3_code 15 = .ok (.getfield 13, 3) := by decide +kernel
theorem d4_18 : decode prog_11_method_3_code 18 = .ok (.iaload, 1) := by decide +kernel
theorem d4_19 : decode prog_11_method_3_code 19 = .ok (.ireturn, 1) := by decide +kernel
theorem ef_4 (m : MethodId) (x0 : Addr) : entryFrame m #[(.ref x0)] 1 = mkF m 0 #[.val (.ref x0)] [] := by first | (simp [entryFrame, mkF, argsToLocals, Value.category]; done) | rfl
def own_Q4 (Z : State) (zs : Addr) (zarr : Addr) (zn : Int32) (zm : Int32) (zk : Nat) (zf : Nat → Int32) (h0 : Heap) (n0 : Nat) (v : Option Value) (h : Heap) (L : List Loc) : Prop := v = some (.int (zf zk)) ∧ Fr n0 L ∧ Keep h0 h [zs] ∧ Exa Z h zs "com/example/term_unifier/termunifier/IntStack" ∧ Fld Z h zs "com/example/term_unifier/termunifier/IntStack" "items" "[I" (.ref zarr) ∧ Fld Z h zs "com/example/term_unifier/termunifier/IntStack" "size" "I" (.int zm) ∧ own_IA Z h zarr .int 16 zf
set_option maxRecDepth 65536 in
set_option maxHeartbeats 40000000 in
theorem rm4 (l : Launch) (Z : State) (a0 : Array Value) (hw : ∀ d ∈ tables_1, d.before a0 Z = true) (ws : List Jvm.Cond) (zs : Addr) (zarr : Addr) (zn : Int32) (zm : Int32) (zk : Nat) (zf : Nat → Int32) (h0 : Heap) (n0 : Nat) (Z0 : n0 ≤ h0.size) (E_zs : Exa Z h0 zs "com/example/term_unifier/termunifier/IntStack") (F_zs_items : Fld Z h0 zs "com/example/term_unifier/termunifier/IntStack" "items" "[I" (.ref zarr)) (F_zs_size : Fld Z h0 zs "com/example/term_unifier/termunifier/IntStack" "size" "I" (.int zn)) (V_zarr : own_IA Z h0 zarr .int 16 zf) (g_zs : n0 ≤ zs) (ne_zs_zarr : zs ≠ zarr) (hk2 : (zn - (1 : Int32)) = zm) (hk0 : ¬ (zm < 0)) (hk : zm.toNatClampNeg = zk) (hk1 : zk < 16) :
    MetFree l (⟨"com/example/term_unifier/termunifier/IntStack", "pop", "()I"⟩ : MethodName) (head1 (Jvm.Cond.code (⟨"com/example/term_unifier/termunifier/IntStack", "pop", "()I"⟩ : MethodName) prog_11_method_3_code 1 (some .int) :: ws) ({ frames := 0, cells := 0, slots := 0, locals := 0 } : Room)) (fun a U => a = #[(.ref zs)] ∧ Z.Warmed39 U.vm ∧ U.heap = h0) (fun _ _ _ _ _ => True) (fun _ U o U' => ∃ v L, o = .returned v ∧ own_Q4 Z zs zarr zn zm zk zf h0 n0 v U'.heap L ∧ FrameEnd U o U' L ({ frames := 0, cells := 0, slots := 0, locals := 0 } : Room).cells ({ frames := 0, cells := 0, slots := 0, locals := 0 } : Room).slots) := by
  refine MetFree.of_bodySF (plainFor_of_name pn_com_example_term_unifier_termunifier_IntStack) hisR ?_
  intro p e s m args below meth c s₁ Bd hml0 hP hK
  obtain ⟨rfl, hZ, hh⟩ := hP
  have hx := Bd.exec
  have hby := Bd.bytes
  have hml : c.maxLocals = 1 := hml0
  have hown : s.vm.findClass "com/example/term_unifier/termunifier/IntStack" = some m.cls := findClass_of_methodNamed Bd.named
  have hnm := (name_of_methodNamed Bd.named Bd.method).1
  have X0 : Stand p l e ({ frames := 0, cells := 0, slots := 0, locals := 0 } : Room) s m #[(.ref zs)] below meth c s₁ [] 0 0 := Stand.of_body Bd
  have e0 : s₁.heap = h0 := by rw [← hh, Bd.state]; rfl
  have N0 := Fr.nil n0
  have Zs := Z0
  have K : Keep h0 h0 [zs] := Keep.refl _ _
  show own_Goes p e below s (own_Q4 Z zs zarr zn zm zk zf h0 n0) ({ frames := 0, cells := 0, slots := 0, locals := 0 } : Room).cells ({ frames := 0, cells := 0, slots := 0, locals := 0 } : Room).slots _
  refine own_go (B := s₁.setTop (mkF m 0 #[.val (.ref zs)] [])) (fun t k => castTop (ef_4 m zs) k) ?_
  refine own_go (B := s₁.setTop (mkF m 1 #[.val (.ref zs)] [(.ref zs)])) (fun t k => XS.aloadN X0.here hx rfl (Jvm.hb hby d4_0) rfl rfl k) ?_
  refine own_go (B := s₁.setTop (mkF m 2 #[.val (.ref zs)] [(.ref zs), (.ref zs)])) (fun t k => XS.dup X0.here hx rfl (Jvm.hb hby d4_1) rfl rfl k) ?_
  obtain ⟨T11, X11, e11, st11⟩ := getF X0 hx hZ hown (host := "") (Or.inl (own_w hw 17 rfl)) Via.refl e0 F_zs_size (g := (mkF m 2 #[.val (.ref zs)] [(.ref zs), (.ref zs)])) rfl rfl (Jvm.hb hby d4_2)
  refine own_go (B := T11.setTop (mkF m 5 #[.val (.ref zs)] [(.int zn), (.ref zs)])) (fun t k => st11 _ k) ?_
  refine own_go (B := T11.setTop (mkF m 6 #[.val (.ref zs)] [(.int (1 : Int32)), (.int zn), (.ref zs)])) (fun t k => XS.iconst X11.here hx rfl (Jvm.hb hby d4_5) k) ?_
  refine own_go (B := T11.setTop (mkF m 7 #[.val (.ref zs)] [(.int (zn - (1 : Int32))), (.ref zs)])) (fun t k => XS.isub X11.here hx rfl (Jvm.hb hby d4_6) rfl k) ?_
  obtain ⟨T12, h12, X12, e12, W12, st12⟩ := putF X11 hx hZ hown (host := "") (Or.inl (own_w hw 17 rfl)) Via.refl e11 F_zs_size E_zs (Or.inl (own_w hw 18 rfl)) (own_w hw 1 rfl) (ty := .int) (by decide) rfl rfl (g := (mkF m 7 #[.val (.ref zs)] [(.int (zn - (1 : Int32))), (.ref zs)])) rfl rfl (Jvm.hb hby d4_7)
  have N12 := Fr.snoc X12 N0 g_zs
  have E_zs := E_zs.wr W12
  have F_zs_items := F_zs_items.other W12 (Or.inr (slot_ne (Or.inl (own_w hw 11 rfl)) (Or.inl (own_w hw 18 rfl)) (by decide) (t := (.array .int)) (t' := .int) (by decide) (by decide)))
  have F_zs_size := F_zs_size.same W12
  have V_zarr := V_zarr.other W12 (Ne.symm ne_zs_zarr)
  have K := K.wr W12 (Or.inl (List.mem_of_getElem? (i := 0) rfl))
  have Zs := Nat.le_trans Zs (Keep.of_wr W12).1
  refine own_go (B := T12.setTop (mkF m 10 #[.val (.ref zs)] [])) (fun t k => st12 _ k) ?_
  refine own_go (B := T12.setTop (mkF m 11 #[.val (.ref zs)] [(.ref zs)])) (fun t k => XS.aloadN X12.here hx rfl (Jvm.hb hby d4_10) rfl rfl k) ?_
  obtain ⟨T13, X13, e13, st13⟩ := getF X12 hx hZ hown (host := "") (Or.inl (own_w hw 10 rfl)) Via.refl e12 F_zs_items (g := (mkF m 11 #[.val (.ref zs)] [(.ref zs)])) rfl rfl (Jvm.hb hby d4_11)
  refine own_go (B := T13.setTop (mkF m 14 #[.val (.ref zs)] [(.ref zarr)])) (fun t k => st13 _ k) ?_
  refine own_go (B := T13.setTop (mkF m 15 #[.val (.ref zs)] [(.ref zs), (.ref zarr)])) (fun t k => XS.aloadN X13.here hx rfl (Jvm.hb hby d4_14) rfl rfl k) ?_
  obtain ⟨T14, X14, e14, st14⟩ := getF X13 hx hZ hown (host := "") (Or.inl (own_w hw 17 rfl)) Via.refl e13 F_zs_size (g := (mkF m 15 #[.val (.ref zs)] [(.ref zs), (.ref zarr)])) rfl rfl (Jvm.hb hby d4_15)
  refine own_go (B := T14.setTop (mkF m 18 #[.val (.ref zs)] [(.int (zn - (1 : Int32))), (.ref zarr)])) (fun t k => st14 _ k) ?_
  refine own_go (B := T14.setTop (mkF m 19 #[.val (.ref zs)] [(.int (zf zk))])) (fun t k => own_iaload X14 hx hZ e14 V_zarr (j := (zn - (1 : Int32))) (k := zk) (by rw [hk2]; exact hk0) (by rw [hk2]; exact hk) hk1 (Jvm.hb hby d4_18) t k) ?_
  refine own_out X14 (v := (some (.int (zf zk)))) (fun h => by rw [Bd.returns] at h; cases h) Bd.notSynchronized (fun fs hr => retOut X14 hx (t := .int) Bd.returns rfl (Or.inl ⟨rfl, Or.inl rfl, _, rfl⟩) (Jvm.hb hby d4_19) hr) ?_ (by decide) (by decide)
  show own_Q4 Z zs zarr zn zm zk zf h0 n0 (some (.int (zf zk))) T14.heap _
  rw [e14]
  exact ⟨rfl, N12, K, E_zs, F_zs_items, (by rw [← hk2]; exact F_zs_size), V_zarr⟩
theorem d5_0 : decode prog_11_method_6_code 0 = .ok (.aload_n 0, 1) := by decide +kernel
theorem d5_1 : decode prog_11_method_6_code 1 = .ok (.getfield 13, 3) := by decide +kernel
theorem d5_4 : decode prog_11_method_6_code 4 = .ok (.ireturn, 1) := by decide +kernel
theorem ef_5 (m : MethodId) (x0 : Addr) : entryFrame m #[(.ref x0)] 1 = mkF m 0 #[.val (.ref x0)] [] := by first | (simp [entryFrame, mkF, argsToLocals, Value.category]; done) | rfl
def own_Q5 (Z : State) (zs : Addr) (zn : Int32) (h0 : Heap) (n0 : Nat) (v : Option Value) (h : Heap) (L : List Loc) : Prop := v = some (.int zn) ∧ Fr n0 L ∧ h = h0
set_option maxRecDepth 65536 in
set_option maxHeartbeats 40000000 in
theorem rm5 (l : Launch) (Z : State) (a0 : Array Value) (hw : ∀ d ∈ tables_1, d.before a0 Z = true) (ws : List Jvm.Cond) (zs : Addr) (zn : Int32) (h0 : Heap) (n0 : Nat) (Z0 : n0 ≤ h0.size) (F_zs_size : Fld Z h0 zs "com/example/term_unifier/termunifier/IntStack" "size" "I" (.int zn)) :
    MetFree l (⟨"com/example/term_unifier/termunifier/IntStack", "size", "()I"⟩ : MethodName) (head1 (Jvm.Cond.code (⟨"com/example/term_unifier/termunifier/IntStack", "size", "()I"⟩ : MethodName) prog_11_method_6_code 1 (some .int) :: ws) ({ frames := 0, cells := 0, slots := 0, locals := 0 } : Room)) (fun a U => a = #[(.ref zs)] ∧ Z.Warmed39 U.vm ∧ U.heap = h0) (fun _ _ _ _ _ => True) (fun _ U o U' => ∃ v L, o = .returned v ∧ own_Q5 Z zs zn h0 n0 v U'.heap L ∧ FrameEnd U o U' L ({ frames := 0, cells := 0, slots := 0, locals := 0 } : Room).cells ({ frames := 0, cells := 0, slots := 0, locals := 0 } : Room).slots) := by
  refine MetFree.of_bodySF (plainFor_of_name pn_com_example_term_unifier_termunifier_IntStack) hisR ?_
  intro p e s m args below meth c s₁ Bd hml0 hP hK
  obtain ⟨rfl, hZ, hh⟩ := hP
  have hx := Bd.exec
  have hby := Bd.bytes
  have hml : c.maxLocals = 1 := hml0
  have hown : s.vm.findClass "com/example/term_unifier/termunifier/IntStack" = some m.cls := findClass_of_methodNamed Bd.named
  have hnm := (name_of_methodNamed Bd.named Bd.method).1
  have X0 : Stand p l e ({ frames := 0, cells := 0, slots := 0, locals := 0 } : Room) s m #[(.ref zs)] below meth c s₁ [] 0 0 := Stand.of_body Bd
  have e0 : s₁.heap = h0 := by rw [← hh, Bd.state]; rfl
  have N0 := Fr.nil n0
  have Zs := Z0
  show own_Goes p e below s (own_Q5 Z zs zn h0 n0) ({ frames := 0, cells := 0, slots := 0, locals := 0 } : Room).cells ({ frames := 0, cells := 0, slots := 0, locals := 0 } : Room).slots _
  refine own_go (B := s₁.setTop (mkF m 0 #[.val (.ref zs)] [])) (fun t k => castTop (ef_5 m zs) k) ?_
  refine own_go (B := s₁.setTop (mkF m 1 #[.val (.ref zs)] [(.ref zs)])) (fun t k => XS.aloadN X0.here hx rfl (Jvm.hb hby d5_0) rfl rfl k) ?_
  obtain ⟨T15, X15, e15, st15⟩ := getF X0 hx hZ hown (host := "") (Or.inl (own_w hw 17 rfl)) Via.refl e0 F_zs_size (g := (mkF m 1 #[.val (.ref zs)] [(.ref zs)])) rfl rfl (Jvm.hb hby d5_1)
  refine own_go (B := T15.setTop (mkF m 4 #[.val (.ref zs)] [(.int zn)])) (fun t k => st15 _ k) ?_
  refine own_out X15 (v := (some (.int zn))) (fun h => by rw [Bd.returns] at h; cases h) Bd.notSynchronized (fun fs hr => retOut X15 hx (t := .int) Bd.returns rfl (Or.inl ⟨rfl, Or.inl rfl, _, rfl⟩) (Jvm.hb hby d5_4) hr) ?_ (by decide) (by decide)
  show own_Q5 Z zs zn h0 n0 (some (.int zn)) T15.heap _
  rw [e15]
  exact ⟨rfl, N0, rfl⟩
theorem d6_0 : decode prog_11_method_4_code 0 = .ok (.aload_n 0, 1) := by decide +kernel
theorem d6_1 : decode prog_11_method_4_code 1 = .ok (.getfield 7, 3) := by decide +kernel
theorem d6_4 : decode prog_11_method_4_code 4 = .ok (.aload_n 0, 1) := by decide +kernel
theorem d6_5 : decode prog_11_method_4_code 5 = .ok (.getfield 13, 3) := by decide +kernel
theorem d6_8 : decode prog_11_method_4_code 8 = .ok (.iconst 1, 1) := by decide +kernel
theorem d6_9 : decode prog_11_method_4_code 9 = .ok (.isub, 1) := by decide +kernel
theorem d6_10 : decode prog_11_method_4_code 10 = .ok (.iaload, 1) := by decide +kernel
theorem d6_11 : decode prog_11_method_4_code 11 = .ok (.ireturn, 1) := by decide +kernel
theorem ef_6 (m : MethodId) (x0 : Addr) : entryFrame m #[(.ref x0)] 1 = mkF m 0 #[.val (.ref x0)] [] := by first | (simp [entryFrame, mkF, argsToLocals, Value.category]; done) | rfl
def own_Q6 (Z : State) (zs : Addr) (zarr : Addr) (zn : Int32) (zk : Nat) (zf : Nat → Int32) (h0 : Heap) (n0 : Nat) (v : Option Value) (h : Heap) (L : List Loc) : Prop := v = some (.int (zf zk)) ∧ Fr n0 L ∧ h = h0
set_option maxRecDepth 65536 in
set_option maxHeartbeats 40000000 in
theorem rm6 (l : Launch) (Z : State) (a0 : Array Value) (hw : ∀ d ∈ tables_1, d.before a0 Z = true) (ws : List Jvm.Cond) (zs : Addr) (zarr : Addr) (zn : Int32) (zk : Nat) (zf : Nat → Int32) (h0 : Heap) (n0 : Nat) (Z0 : n0 ≤ h0.size) (F_zs_items : Fld Z h0 zs "com/example/term_unifier/termunifier/IntStack" "items" "[I" (.ref zarr)) (F_zs_size : Fld Z h0 zs "com/example/term_unifier/termunifier/IntStack" "size" "I" (.int zn)) (V_zarr : own_IA Z h0 zarr .int 16 zf) (hk0 : ¬ ((zn - (1 : Int32)) < 0)) (hk : (zn - (1 : Int32)).toNatClampNeg = zk) (hk1 : zk < 16) :
    MetFree l (⟨"com/example/term_unifier/termunifier/IntStack", "peek", "()I"⟩ : MethodName) (head1 (Jvm.Cond.code (⟨"com/example/term_unifier/termunifier/IntStack", "peek", "()I"⟩ : MethodName) prog_11_method_4_code 1 (some .int) :: ws) ({ frames := 0, cells := 0, slots := 0, locals := 0 } : Room)) (fun a U => a = #[(.ref zs)] ∧ Z.Warmed39 U.vm ∧ U.heap = h0) (fun _ _ _ _ _ => True) (fun _ U o U' => ∃ v L, o = .returned v ∧ own_Q6 Z zs zarr zn zk zf h0 n0 v U'.heap L ∧ FrameEnd U o U' L ({ frames := 0, cells := 0, slots := 0, locals := 0 } : Room).cells ({ frames := 0, cells := 0, slots := 0, locals := 0 } : Room).slots) := by
  refine MetFree.of_bodySF (plainFor_of_name pn_com_example_term_unifier_termunifier_IntStack) hisR ?_
  intro p e s m args below meth c s₁ Bd hml0 hP hK
  obtain ⟨rfl, hZ, hh⟩ := hP
  have hx := Bd.exec
  have hby := Bd.bytes
  have hml : c.maxLocals = 1 := hml0
  have hown : s.vm.findClass "com/example/term_unifier/termunifier/IntStack" = some m.cls := findClass_of_methodNamed Bd.named
  have hnm := (name_of_methodNamed Bd.named Bd.method).1
  have X0 : Stand p l e ({ frames := 0, cells := 0, slots := 0, locals := 0 } : Room) s m #[(.ref zs)] below meth c s₁ [] 0 0 := Stand.of_body Bd
  have e0 : s₁.heap = h0 := by rw [← hh, Bd.state]; rfl
  have N0 := Fr.nil n0
  have Zs := Z0
  show own_Goes p e below s (own_Q6 Z zs zarr zn zk zf h0 n0) ({ frames := 0, cells := 0, slots := 0, locals := 0 } : Room).cells ({ frames := 0, cells := 0, slots := 0, locals := 0 } : Room).slots _
  refine own_go (B := s₁.setTop (mkF m 0 #[.val (.ref zs)] [])) (fun t k => castTop (ef_6 m zs) k) ?_
  refine own_go (B := s₁.setTop (mkF m 1 #[.val (.ref zs)] [(.ref zs)])) (fun t k => XS.aloadN X0.here hx rfl (Jvm.hb hby d6_0) rfl rfl k) ?_
  obtain ⟨T16, X16, e16, st16⟩ := getF X0 hx hZ hown (host := "") (Or.inl (own_w hw 10 rfl)) Via.refl e0 F_zs_items (g := (mkF m 1 #[.val (.ref zs)] [(.ref zs)])) rfl rfl (Jvm.hb hby d6_1)
  refine own_go (B := T16.setTop (mkF m 4 #[.val (.ref zs)] [(.ref zarr)])) (fun t k => st16 _ k) ?_
  refine own_go (B := T16.setTop (mkF m 5 #[.val (.ref zs)] [(.ref zs), (.ref zarr)])) (fun t k => XS.aloadN X16.here hx rfl (Jvm.hb hby d6_4) rfl rfl k) ?_
  obtain ⟨T17, X17, e17, st17⟩ := getF X16 hx hZ hown (host := "") (Or.inl (own_w hw 17 rfl)) Via.refl e16 F_zs_size (g := (mkF m 5 #[.val (.ref zs)] [(.ref zs), (.ref zarr)])) rfl rfl (Jvm.hb hby d6_5)
  refine own_go (B := T17.setTop (mkF m 8 #[.val (.ref zs)] [(.int zn), (.ref zarr)])) (fun t k => st17 _ k) ?_
  refine own_go (B := T17.setTop (mkF m 9 #[.val (.ref zs)] [(.int (1 : Int32)), (.int zn), (.ref zarr)])) (fun t k => XS.iconst X17.here hx rfl (Jvm.hb hby d6_8) k) ?_
  refine own_go (B := T17.setTop (mkF m 10 #[.val (.ref zs)] [(.int (zn - (1 : Int32))), (.ref zarr)])) (fun t k => XS.isub X17.here hx rfl (Jvm.hb hby d6_9) rfl k) ?_
  refine own_go (B := T17.setTop (mkF m 11 #[.val (.ref zs)] [(.int (zf zk))])) (fun t k => own_iaload X17 hx hZ e17 V_zarr (j := (zn - (1 : Int32))) (k := zk) hk0 hk hk1 (Jvm.hb hby d6_10) t k) ?_
  refine own_out X17 (v := (some (.int (zf zk)))) (fun h => by rw [Bd.returns] at h; cases h) Bd.notSynchronized (fun fs hr => retOut X17 hx (t := .int) Bd.returns rfl (Or.inl ⟨rfl, Or.inl rfl, _, rfl⟩) (Jvm.hb hby d6_11) hr) ?_ (by decide) (by decide)
  show own_Q6 Z zs zarr zn zk zf h0 n0 (some (.int (zf zk))) T17.heap _
  rw [e17]
  exact ⟨rfl, N0, rfl⟩
theorem d7_0 : decode prog_11_method_7_code 0 = .ok (.aload_n 0, 1) := by decide +kernel
theorem d7_1 : decode prog_11_method_7_code 1 = .ok (.getfield 13, 3) := by decide +kernel
theorem d7_4 : decode prog_11_method_7_code 4 = .ok (.ifCond .ne 7, 3) := by decide +kernel
theorem d7_7 : decode prog_11_method_7_code 7 = .ok (.iconst 1, 1) := by decide +kernel
theorem d7_8 : decode prog_11_method_7_code 8 = .ok (.goto 4, 3) := by decide +kernel
theorem d7_11 : decode prog_11_method_7_code 11 = .ok (.iconst 0, 1) := by decide +kernel
theorem d7_12 : decode prog_11_method_7_code 12 = .ok (.ireturn, 1) := by decide +kernel
theorem ef_7 (m : MethodId) (x0 : Addr) : entryFrame m #[(.ref x0)] 1 = mkF m 0 #[.val (.ref x0)] [] := by first | (simp [entryFrame, mkF, argsToLocals, Value.category]; done) | rfl
def own_Q7 (Z : State) (zs : Addr) (zn : Int32) (zv : Int32) (h0 : Heap) (n0 : Nat) (v : Option Value) (h : Heap) (L : List Loc) : Prop := v = some (.int zv) ∧ Fr n0 L ∧ h = h0
set_option maxRecDepth 65536 in
set_option maxHeartbeats 40000000 in
theorem rm7 (l : Launch) (Z : State) (a0 : Array Value) (hw : ∀ d ∈ tables_1, d.before a0 Z = true) (ws : List Jvm.Cond) (zs : Addr) (zn : Int32) (zv : Int32) (h0 : Heap) (n0 : Nat) (Z0 : n0 ≤ h0.size) (F_zs_size : Fld Z h0 zs "com/example/term_unifier/termunifier/IntStack" "size" "I" (.int zn)) (hv : zv = if zn = (0 : Int32) then (1 : Int32) else (0 : Int32)) :
    MetFree l (⟨"com/example/term_unifier/termunifier/IntStack", "isEmpty", "()Z"⟩ : MethodName) (head1 (Jvm.Cond.code (⟨"com/example/term_unifier/termunifier/IntStack", "isEmpty", "()Z"⟩ : MethodName) prog_11_method_7_code 1 (some .boolean) :: ws) ({ frames := 0, cells := 0, slots := 0, locals := 0 } : Room)) (fun a U => a = #[(.ref zs)] ∧ Z.Warmed39 U.vm ∧ U.heap = h0) (fun _ _ _ _ _ => True) (fun _ U o U' => ∃ v L, o = .returned v ∧ own_Q7 Z zs zn zv h0 n0 v U'.heap L ∧ FrameEnd U o U' L ({ frames := 0, cells := 0, slots := 0, locals := 0 } : Room).cells ({ frames := 0, cells := 0, slots := 0, locals := 0 } : Room).slots) := by
  refine MetFree.of_bodySF (plainFor_of_name pn_com_example_term_unifier_termunifier_IntStack) hisR ?_
  intro p e s m args below meth c s₁ Bd hml0 hP hK
  obtain ⟨rfl, hZ, hh⟩ := hP
  have hx := Bd.exec
  have hby := Bd.bytes
  have hml : c.maxLocals = 1 := hml0
  have hown : s.vm.findClass "com/example/term_unifier/termunifier/IntStack" = some m.cls := findClass_of_methodNamed Bd.named
  have hnm := (name_of_methodNamed Bd.named Bd.method).1
  have X0 : Stand p l e ({ frames := 0, cells := 0, slots := 0, locals := 0 } : Room) s m #[(.ref zs)] below meth c s₁ [] 0 0 := Stand.of_body Bd
  have e0 : s₁.heap = h0 := by rw [← hh, Bd.state]; rfl
  have N0 := Fr.nil n0
  have Zs := Z0
  show own_Goes p e below s (own_Q7 Z zs zn zv h0 n0) ({ frames := 0, cells := 0, slots := 0, locals := 0 } : Room).cells ({ frames := 0, cells := 0, slots := 0, locals := 0 } : Room).slots _
  refine own_go (B := s₁.setTop (mkF m 0 #[.val (.ref zs)] [])) (fun t k => castTop (ef_7 m zs) k) ?_
  refine own_go (B := s₁.setTop (mkF m 1 #[.val (.ref zs)] [(.ref zs)])) (fun t k => XS.aloadN X0.here hx rfl (Jvm.hb hby d7_0) rfl rfl k) ?_
  obtain ⟨T18, X18, e18, st18⟩ := getF X0 hx hZ hown (host := "") (Or.inl (own_w hw 17 rfl)) Via.refl e0 F_zs_size (g := (mkF m 1 #[.val (.ref zs)] [(.ref zs)])) rfl rfl (Jvm.hb hby d7_1)
  refine own_go (B := T18.setTop (mkF m 4 #[.val (.ref zs)] [(.int zn)])) (fun t k => st18 _ k) ?_
  by_cases hc4_19 : zn = (0 : Int32)
  · refine own_go (B := T18.setTop (mkF m 7 #[.val (.ref zs)] [])) (fun t k => XS.ifNo X18.here hx rfl (Jvm.hb hby d7_4) rfl ((if0 _ _).trans (teq hc4_19).2) k) ?_
    refine own_go (B := T18.setTop (mkF m 8 #[.val (.ref zs)] [(.int (1 : Int32))])) (fun t k => XS.iconst X18.here hx rfl (Jvm.hb hby d7_7) k) ?_
    refine own_go (B := T18.setTop (mkF m 12 #[.val (.ref zs)] [(.int (1 : Int32))])) (fun t k => XS.goto X18.here hx rfl (pc0 := 8) (pc' := 12) rfl (Jvm.hb hby d7_8) (by decide) (by decide) k) ?_
    refine own_out X18 (v := (some (.int (1 : Int32)))) (fun h => by rw [Bd.returns] at h; cases h) Bd.notSynchronized (fun fs hr => retOut X18 hx (t := .boolean) Bd.returns rfl (by first | exact Or.inl ⟨rfl, by simp, _, rfl⟩) (Jvm.hb hby d7_12) hr) ?_ (by decide) (by decide)
    show own_Q7 Z zs zn zv h0 n0 (some (.int (1 : Int32))) T18.heap _
    rw [e18]
    exact ⟨(by rw [hv, if_pos hc4_19]), N0, rfl⟩
  · refine own_go (B := T18.setTop (mkF m 11 #[.val (.ref zs)] [])) (fun t k => XS.ifYes X18.here hx rfl (pc0 := 4) (pc' := 11) rfl (Jvm.hb hby d7_4) rfl ((if0 _ _).trans (feq hc4_19).2) (by decide) (by decide) k) ?_
    refine own_go (B := T18.setTop (mkF m 12 #[.val (.ref zs)] [(.int (0 : Int32))])) (fun t k => XS.iconst X18.here hx rfl (Jvm.hb hby d7_11) k) ?_
    refine own_out X18 (v := (some (.int (0 : Int32)))) (fun h => by rw [Bd.returns] at h; cases h) Bd.notSynchronized (fun fs hr => retOut X18 hx (t := .boolean) Bd.returns rfl (by first | exact Or.inl ⟨rfl, by simp, _, rfl⟩) (Jvm.hb hby d7_12) hr) ?_ (by decide) (by decide)
    show own_Q7 Z zs zn zv h0 n0 (some (.int (0 : Int32))) T18.heap _
    rw [e18]
    exact ⟨(by rw [hv, if_neg hc4_19]), N0, rfl⟩
theorem pn_com_example_term_unifier_termunifier_IntStackPopPinLaw : plainName "com/example/term_unifier/termunifier/IntStackPopPinLaw" = true := by first | (simp [plainName, overriddenIn]; done) | decide +kernel
theorem pd_0 : parseMethodDescriptor "()V" = some ⟨[], none⟩ := by decide +kernel
theorem pd_1 : parseMethodDescriptor "(I)V" = some ⟨[.int], none⟩ := by decide +kernel
theorem pd_2 : parseMethodDescriptor "()I" = some ⟨[], some .int⟩ := by decide +kernel
theorem pd_3 : parseMethodDescriptor "()Z" = some ⟨[], some .boolean⟩ := by decide +kernel
theorem ef_0 (m : MethodId) (x0 : Int32) (x1 : Int32) (x2 : Int32) (x3 : Int32) : entryFrame m #[(.int x0), (.int x1), (.int x2), (.int x3)] maxLocals = mkF m 0 #[.val (.int x0), .val (.int x1), .val (.int x2), .val (.int x3), .unset, .unset, .unset, .unset, .unset, .unset, .unset, .unset, .unset, .unset] [] := by first | (simp [entryFrame, mkF, argsToLocals, Value.category, maxLocals]; done) | rfl
def own_Q0 (Z : State) (p1 : Int32) (p2 : Int32) (p3 : Int32) (p4 : Int32) (h0 : Heap) (n0 : Nat) (v : Option Value) (h : Heap) (L : List Loc) : Prop := v = some (.int 1) ∧ Fr n0 L
set_option maxRecDepth 65536 in
set_option maxHeartbeats 40000000 in
theorem rm0 (l : Launch) (Z : State) (a0 : Array Value) (hw : ∀ d ∈ tables_1, d.before a0 Z = true) (ws : List Jvm.Cond) (p1 : Int32) (p2 : Int32) (p3 : Int32) (p4 : Int32) (h0 : Heap) (n0 : Nat) (Z0 : n0 ≤ h0.size)  :
    MetFree l x (head1 (Jvm.Cond.code x code maxLocals ret :: ws) room_1) (fun a U => a = #[(.int p1), (.int p2), (.int p3), (.int p4)] ∧ Z.Warmed39 U.vm ∧ U.heap = h0) (fun _ _ _ _ _ => True) (fun _ U o U' => ∃ v L, o = .returned v ∧ own_Q0 Z p1 p2 p3 p4 h0 n0 v U'.heap L ∧ FrameEnd U o U' L room_1.cells room_1.slots) := by
  refine MetFree.of_bodySF (plainFor_of_name pn_com_example_term_unifier_termunifier_IntStackPopPinLaw) hisR ?_
  intro p e s m args below meth c s₁ Bd hml0 hP hK
  obtain ⟨rfl, hZ, hh⟩ := hP
  have hx := Bd.exec
  have hby := Bd.bytes
  have hml : c.maxLocals = 14 := hml0
  have hown : s.vm.findClass "com/example/term_unifier/termunifier/IntStackPopPinLaw" = some m.cls := findClass_of_methodNamed Bd.named
  have hnm := (name_of_methodNamed Bd.named Bd.method).1
  have X0 : Stand p l e room_1 s m #[(.int p1), (.int p2), (.int p3), (.int p4)] below meth c s₁ [] 0 0 := Stand.of_body Bd
  have e0 : s₁.heap = h0 := by rw [← hh, Bd.state]; rfl
  have N0 := Fr.nil n0
  have Zs := Z0
  show own_Goes p e below s (own_Q0 Z p1 p2 p3 p4 h0 n0) room_1.cells room_1.slots _
  refine own_go (B := s₁.setTop (mkF m 0 #[.val (.int p1), .val (.int p2), .val (.int p3), .val (.int p4), .unset, .unset, .unset, .unset, .unset, .unset, .unset, .unset, .unset, .unset] [])) (fun t k => castTop (ef_0 m p1 p2 p3 p4) k) ?_
  refine own_go (B := s₁.setTop (mkF m 1 #[.val (.int p1), .val (.int p2), .val (.int p3), .val (.int p4), .unset, .unset, .unset, .unset, .unset, .unset, .unset, .unset, .unset, .unset] [(.int p4)])) (fun t k => XS.iloadN X0.here hx rfl (Jvm.hb hby at_0) rfl k) ?_
  refine own_go (B := s₁.setTop (mkF m 2 #[.val (.int p1), .val (.int p2), .val (.int p3), .val (.int p4), .unset, .unset, .unset, .unset, .unset, .unset, .unset, .unset, .unset, .unset] [(.int (1 : Int32)), (.int p4)])) (fun t k => XS.iconst X0.here hx rfl (Jvm.hb hby at_1) k) ?_
  refine own_go (B := s₁.setTop (mkF m 3 #[.val (.int p1), .val (.int p2), .val (.int p3), .val (.int p4), .unset, .unset, .unset, .unset, .unset, .unset, .unset, .unset, .unset, .unset] [(.int (p4 &&& (1 : Int32)))])) (fun t k => XS.iand X0.here hx rfl (Jvm.hb hby at_2) rfl k) ?_
  by_cases hc3_20 : (p4 &&& (1 : Int32)) = (0 : Int32)
  · refine own_go (B := s₁.setTop (mkF m 10 #[.val (.int p1), .val (.int p2), .val (.int p3), .val (.int p4), .unset, .unset, .unset, .unset, .unset, .unset, .unset, .unset, .unset, .unset] [])) (fun t k => XS.ifYes X0.here hx rfl (pc0 := 3) (pc' := 10) rfl (Jvm.hb hby at_3) rfl ((if0 _ _).trans (teq hc3_20).1) (by decide) (by decide) k) ?_
    refine own_go (B := s₁.setTop (mkF m 11 #[.val (.int p1), .val (.int p2), .val (.int p3), .val (.int p4), .unset, .unset, .unset, .unset, .unset, .unset, .unset, .unset, .unset, .unset] [(.int (0 : Int32))])) (fun t k => XS.iconst X0.here hx rfl (Jvm.hb hby at_10) k) ?_
    refine own_go (B := s₁.setTop (mkF m 13 #[.val (.int p1), .val (.int p2), .val (.int p3), .val (.int p4), .val (.int (0 : Int32)), .unset, .unset, .unset, .unset, .unset, .unset, .unset, .unset, .unset] [])) (fun t k => XS.istore X0.here hx rfl (Jvm.hb hby at_11) rfl (l' := #[.val (.int p1), .val (.int p2), .val (.int p3), .val (.int p4), .val (.int (0 : Int32)), .unset, .unset, .unset, .unset, .unset, .unset, .unset, .unset, .unset]) rfl k) ?_
    obtain ⟨T21, h21, X21, e21, E21, A21, D21, -, st21⟩ := newO X0 hx hZ hown (own_w hw 0 rfl) (own_w hw 1 rfl) (own_w hw 2 rfl) e0 (g := (mkF m 13 #[.val (.int p1), .val (.int p2), .val (.int p3), .val (.int p4), .val (.int (0 : Int32)), .unset, .unset, .unset, .unset, .unset, .unset, .unset, .unset, .unset] [])) rfl (Jvm.hb hby at_13) (by decide) (by decide)
    obtain ⟨b21, g21⟩ : ∃ z, z = h0.size := ⟨_, rfl⟩
    rw [← g21] at A21 D21 st21
    have g_b21 : n0 ≤ b21 := Nat.le_trans Zs (Nat.le_of_eq g21.symm)
    have Zs := Nat.le_trans Zs E21.1
    have E_b21 := A21
    have F_b21_items : Fld Z h21 b21 "com/example/term_unifier/termunifier/IntStack" "items" "[I" .null := D21 (Or.inl (own_w hw 11 rfl)) (ty := (.array .int)) (by decide)
    have F_b21_size : Fld Z h21 b21 "com/example/term_unifier/termunifier/IntStack" "size" "I" (.int (0 : Int32)) := D21 (Or.inl (own_w hw 18 rfl)) (ty := .int) (by decide)
    refine own_go (B := T21.setTop (mkF m 16 #[.val (.int p1), .val (.int p2), .val (.int p3), .val (.int p4), .val (.int (0 : Int32)), .unset, .unset, .unset, .unset, .unset, .unset, .unset, .unset, .unset] [(.ref b21)])) (fun t k => st21 _ k) ?_
    refine own_go (B := T21.setTop (mkF m 17 #[.val (.int p1), .val (.int p2), .val (.int p3), .val (.int p4), .val (.int (0 : Int32)), .unset, .unset, .unset, .unset, .unset, .unset, .unset, .unset, .unset] [(.ref b21), (.ref b21)])) (fun t k => XS.dup X21.here hx rfl (Jvm.hb hby at_16) rfl rfl k) ?_
    obtain ⟨_, _, ⟨T22, La22, ka22, na22⟩, -, X22, ⟨Lc22, hQ22, l22, y22, z22⟩, st22⟩ := X21.specialBack hx (y := (⟨"com/example/term_unifier/termunifier/IntStack", "<init>", "()V"⟩ : MethodName)) rfl hown (mvT hZ (own_w hw 3 rfl)) (mvT hZ (own_w hw 4 rfl)) (mvT hZ (own_w hw 5 rfl)) (by decide) (backOf (W := 1) (rm1 l Z a0 hw [] b21 h21 n0 Zs E_b21 F_b21_items F_b21_size g_b21) hZ (own_w hw 5 rfl) (own_w hw 2 rfl) (by decide) (by decide)) (g := (mkF m 17 #[.val (.int p1), .val (.int p2), .val (.int p3), .val (.int p4), .val (.int (0 : Int32)), .unset, .unset, .unset, .unset, .unset, .unset, .unset, .unset, .unset] [(.ref b21), (.ref b21)])) rfl (by rw [hml]; rfl) (Steps.refl _) (a := b21) (argsL := []) (rest := [(.ref b21)]) (lenOf pd_0 rfl) rfl (by show 2 * 0 + _ ≤ _; exact Nat.le_of_eq rfl) (Jvm.hb hby at_17) (fun _ _ => ⟨rfl, e21, (by decide : 1 + 1 ≤ _), (by decide : 2 + 16 ≤ _)⟩)
    dsimp only [Pt.U, Pt.locs, Pt.cells, Pt.slots] at X22 l22 y22 z22 st22 hQ22
    subst l22 y22 z22
    obtain ⟨rfl, N22q, b23, sq_b23, Kc22, E_b21_q, F_b21_items_q, F_b21_size_q, V_b23_q⟩ := hQ22
    have g_b23 : n0 ≤ b23 := Nat.le_trans Zs sq_b23
    have ne_b21_b23 : b21 ≠ b23 := Nat.ne_of_lt (Nat.lt_of_lt_of_le E_b21.lt sq_b23)
    have N22 := Fr.app N0 N22q
    have Zs := Nat.le_trans Zs Kc22.1
    have E_b21 := E_b21_q
    have F_b21_items := F_b21_items_q
    have F_b21_size := F_b21_size_q
    have V_b23 := V_b23_q
    refine own_go (B := T22.setTop (mkF m 20 #[.val (.int p1), .val (.int p2), .val (.int p3), .val (.int p4), .val (.int (0 : Int32)), .unset, .unset, .unset, .unset, .unset, .unset, .unset, .unset, .unset] [(.ref b21)])) (fun t k => own_st st22 k) ?_
    refine own_go (B := T22.setTop (mkF m 22 #[.val (.int p1), .val (.int p2), .val (.int p3), .val (.int p4), .val (.int (0 : Int32)), .val (.ref b21), .unset, .unset, .unset, .unset, .unset, .unset, .unset, .unset] [])) (fun t k => XS.astore X22.here hx rfl (Jvm.hb hby at_20) rfl rfl (l' := #[.val (.int p1), .val (.int p2), .val (.int p3), .val (.int p4), .val (.int (0 : Int32)), .val (.ref b21), .unset, .unset, .unset, .unset, .unset, .unset, .unset, .unset]) rfl k) ?_
    refine own_go (B := T22.setTop (mkF m 24 #[.val (.int p1), .val (.int p2), .val (.int p3), .val (.int p4), .val (.int (0 : Int32)), .val (.ref b21), .unset, .unset, .unset, .unset, .unset, .unset, .unset, .unset] [(.ref b21)])) (fun t k => XS.aload X22.here hx rfl (Jvm.hb hby at_22) rfl rfl k) ?_
    refine own_go (B := T22.setTop (mkF m 25 #[.val (.int p1), .val (.int p2), .val (.int p3), .val (.int p4), .val (.int (0 : Int32)), .val (.ref b21), .unset, .unset, .unset, .unset, .unset, .unset, .unset, .unset] [(.int p1), (.ref b21)])) (fun t k => XS.iloadN X22.here hx rfl (Jvm.hb hby at_24) rfl k) ?_
    obtain ⟨cq24, kq24, q24a, q24b, q24c⟩ := isOf hZ rfl E_b21
    obtain ⟨_, _, ⟨T24, La24, ka24, na24⟩, -, X24, ⟨Lc24, hQ24, l24, y24, z24⟩, st24⟩ := X22.virtualBack hx (y := (⟨"com/example/term_unifier/termunifier/IntStack", "push", "(I)V"⟩ : MethodName)) (z := (⟨"com/example/term_unifier/termunifier/IntStack", "push", "(I)V"⟩ : MethodName)) hown (mvT hZ (own_w hw 12 rfl)) (mvT hZ (own_w hw 13 rfl)) (notFace_of_selects (args := #[]) (mvT hZ (own_w hw 15 rfl))) (mvT hZ (own_w hw 15 rfl)) (mvT hZ (own_w hw 14 rfl)) (by decide) (backOf (W := 0) (rm3 l Z a0 hw [] b21 p1 b23 (0 : Int32) (1 : Int32) 0 (fun _ => 0) T22.heap n0 Zs E_b21 F_b21_items F_b21_size V_b23 g_b21 g_b23 ne_b21_b23 (by decide) (by decide) (by decide) (by decide) (by decide)) hZ (own_w hw 16 rfl) (own_w hw 2 rfl) (by decide) (by decide)) q24a q24c (g := (mkF m 25 #[.val (.int p1), .val (.int p2), .val (.int p3), .val (.int p4), .val (.int (0 : Int32)), .val (.ref b21), .unset, .unset, .unset, .unset, .unset, .unset, .unset, .unset] [(.int p1), (.ref b21)])) rfl (by rw [hml]; rfl) (Steps.refl _) (argsL := [(.int p1)]) (rest := []) (lenOf pd_1 rfl) rfl (by show 2 * 0 + _ ≤ _; exact Nat.le_of_eq rfl) (Jvm.hb hby at_25) (fun _ _ => ⟨rfl, rfl, (by decide : 2 + 0 ≤ _), (by decide : 18 + 0 ≤ _)⟩)
    dsimp only [Pt.U, Pt.locs, Pt.cells, Pt.slots] at X24 l24 y24 z24 st24 hQ24
    subst l24 y24 z24
    obtain ⟨rfl, N24q, Kc24, E_b21_q, F_b21_items_q, F_b21_size_q, V_b23_q⟩ := hQ24
    have N24 := Fr.app N22 N24q
    have Zs := Nat.le_trans Zs Kc24.1
    have E_b21 := E_b21_q
    have F_b21_items := F_b21_items_q
    have F_b21_size := F_b21_size_q
    have V_b23 := V_b23_q
    refine own_go (B := T24.setTop (mkF m 28 #[.val (.int p1), .val (.int p2), .val (.int p3), .val (.int p4), .val (.int (0 : Int32)), .val (.ref b21), .unset, .unset, .unset, .unset, .unset, .unset, .unset, .unset] [])) (fun t k => own_st st24 k) ?_
    refine own_go (B := T24.setTop (mkF m 30 #[.val (.int p1), .val (.int p2), .val (.int p3), .val (.int p4), .val (.int (0 : Int32)), .val (.ref b21), .unset, .unset, .unset, .unset, .unset, .unset, .unset, .unset] [(.ref b21)])) (fun t k => XS.aload X24.here hx rfl (Jvm.hb hby at_28) rfl rfl k) ?_
    refine own_go (B := T24.setTop (mkF m 31 #[.val (.int p1), .val (.int p2), .val (.int p3), .val (.int p4), .val (.int (0 : Int32)), .val (.ref b21), .unset, .unset, .unset, .unset, .unset, .unset, .unset, .unset] [(.int p2), (.ref b21)])) (fun t k => XS.iloadN X24.here hx rfl (Jvm.hb hby at_30) rfl k) ?_
    obtain ⟨cq25, kq25, q25a, q25b, q25c⟩ := isOf hZ rfl E_b21
    obtain ⟨_, _, ⟨T25, La25, ka25, na25⟩, -, X25, ⟨Lc25, hQ25, l25, y25, z25⟩, st25⟩ := X24.virtualBack hx (y := (⟨"com/example/term_unifier/termunifier/IntStack", "push", "(I)V"⟩ : MethodName)) (z := (⟨"com/example/term_unifier/termunifier/IntStack", "push", "(I)V"⟩ : MethodName)) hown (mvT hZ (own_w hw 12 rfl)) (mvT hZ (own_w hw 13 rfl)) (notFace_of_selects (args := #[]) (mvT hZ (own_w hw 15 rfl))) (mvT hZ (own_w hw 15 rfl)) (mvT hZ (own_w hw 14 rfl)) (by decide) (backOf (W := 0) (rm3 l Z a0 hw [] b21 p2 b23 (1 : Int32) (2 : Int32) 1 (own_upd (fun _ => 0) 0 p1) T24.heap n0 Zs E_b21 F_b21_items F_b21_size V_b23 g_b21 g_b23 ne_b21_b23 (by decide) (by decide) (by decide) (by decide) (by decide)) hZ (own_w hw 16 rfl) (own_w hw 2 rfl) (by decide) (by decide)) q25a q25c (g := (mkF m 31 #[.val (.int p1), .val (.int p2), .val (.int p3), .val (.int p4), .val (.int (0 : Int32)), .val (.ref b21), .unset, .unset, .unset, .unset, .unset, .unset, .unset, .unset] [(.int p2), (.ref b21)])) rfl (by rw [hml]; rfl) (Steps.refl _) (argsL := [(.int p2)]) (rest := []) (lenOf pd_1 rfl) rfl (by show 2 * 0 + _ ≤ _; exact Nat.le_of_eq rfl) (Jvm.hb hby at_31) (fun _ _ => ⟨rfl, rfl, (by decide : 2 + 0 ≤ _), (by decide : 18 + 0 ≤ _)⟩)
    dsimp only [Pt.U, Pt.locs, Pt.cells, Pt.slots] at X25 l25 y25 z25 st25 hQ25
    subst l25 y25 z25
    obtain ⟨rfl, N25q, Kc25, E_b21_q, F_b21_items_q, F_b21_size_q, V_b23_q⟩ := hQ25
    have N25 := Fr.app N24 N25q
    have Zs := Nat.le_trans Zs Kc25.1
    have E_b21 := E_b21_q
    have F_b21_items := F_b21_items_q
    have F_b21_size := F_b21_size_q
    have V_b23 := V_b23_q
    refine own_go (B := T25.setTop (mkF m 34 #[.val (.int p1), .val (.int p2), .val (.int p3), .val (.int p4), .val (.int (0 : Int32)), .val (.ref b21), .unset, .unset, .unset, .unset, .unset, .unset, .unset, .unset] [])) (fun t k => own_st st25 k) ?_
    refine own_go (B := T25.setTop (mkF m 36 #[.val (.int p1), .val (.int p2), .val (.int p3), .val (.int p4), .val (.int (0 : Int32)), .val (.ref b21), .unset, .unset, .unset, .unset, .unset, .unset, .unset, .unset] [(.int (0 : Int32))])) (fun t k => XS.iload X25.here hx rfl (Jvm.hb hby at_34) rfl k) ?_
    refine own_go (B := T25.setTop (mkF m 45 #[.val (.int p1), .val (.int p2), .val (.int p3), .val (.int p4), .val (.int (0 : Int32)), .val (.ref b21), .unset, .unset, .unset, .unset, .unset, .unset, .unset, .unset] [])) (fun t k => XS.ifYes X25.here hx rfl (pc0 := 36) (pc' := 45) rfl (Jvm.hb hby at_36) rfl ((if0 _ _).trans (teq (by decide : (0 : Int32) = (0 : Int32))).1) (by decide) (by decide) k) ?_
    refine own_go (B := T25.setTop (mkF m 47 #[.val (.int p1), .val (.int p2), .val (.int p3), .val (.int p4), .val (.int (0 : Int32)), .val (.ref b21), .unset, .unset, .unset, .unset, .unset, .unset, .unset, .unset] [(.int (0 : Int32))])) (fun t k => XS.iload X25.here hx rfl (Jvm.hb hby at_45) rfl k) ?_
    refine own_go (B := T25.setTop (mkF m 54 #[.val (.int p1), .val (.int p2), .val (.int p3), .val (.int p4), .val (.int (0 : Int32)), .val (.ref b21), .unset, .unset, .unset, .unset, .unset, .unset, .unset, .unset] [])) (fun t k => XS.ifYes X25.here hx rfl (pc0 := 47) (pc' := 54) rfl (Jvm.hb hby at_47) rfl ((if0 _ _).trans (teq (by decide : (0 : Int32) = (0 : Int32))).1) (by decide) (by decide) k) ?_
    refine own_go (B := T25.setTop (mkF m 55 #[.val (.int p1), .val (.int p2), .val (.int p3), .val (.int p4), .val (.int (0 : Int32)), .val (.ref b21), .unset, .unset, .unset, .unset, .unset, .unset, .unset, .unset] [(.int p2)])) (fun t k => XS.iloadN X25.here hx rfl (Jvm.hb hby at_54) rfl k) ?_
    refine own_go (B := T25.setTop (mkF m 57 #[.val (.int p1), .val (.int p2), .val (.int p3), .val (.int p4), .val (.int (0 : Int32)), .val (.ref b21), .val (.int p2), .unset, .unset, .unset, .unset, .unset, .unset, .unset] [])) (fun t k => XS.istore X25.here hx rfl (Jvm.hb hby at_55) rfl (l' := #[.val (.int p1), .val (.int p2), .val (.int p3), .val (.int p4), .val (.int (0 : Int32)), .val (.ref b21), .val (.int p2), .unset, .unset, .unset, .unset, .unset, .unset, .unset]) rfl k) ?_
    refine own_go (B := T25.setTop (mkF m 59 #[.val (.int p1), .val (.int p2), .val (.int p3), .val (.int p4), .val (.int (0 : Int32)), .val (.ref b21), .val (.int p2), .unset, .unset, .unset, .unset, .unset, .unset, .unset] [(.int (0 : Int32))])) (fun t k => XS.iload X25.here hx rfl (Jvm.hb hby at_57) rfl k) ?_
    refine own_go (B := T25.setTop (mkF m 66 #[.val (.int p1), .val (.int p2), .val (.int p3), .val (.int p4), .val (.int (0 : Int32)), .val (.ref b21), .val (.int p2), .unset, .unset, .unset, .unset, .unset, .unset, .unset] [])) (fun t k => XS.ifYes X25.here hx rfl (pc0 := 59) (pc' := 66) rfl (Jvm.hb hby at_59) rfl ((if0 _ _).trans (teq (by decide : (0 : Int32) = (0 : Int32))).1) (by decide) (by decide) k) ?_
    refine own_go (B := T25.setTop (mkF m 67 #[.val (.int p1), .val (.int p2), .val (.int p3), .val (.int p4), .val (.int (0 : Int32)), .val (.ref b21), .val (.int p2), .unset, .unset, .unset, .unset, .unset, .unset, .unset] [(.int p1)])) (fun t k => XS.iloadN X25.here hx rfl (Jvm.hb hby at_66) rfl k) ?_
    refine own_go (B := T25.setTop (mkF m 69 #[.val (.int p1), .val (.int p2), .val (.int p3), .val (.int p4), .val (.int (0 : Int32)), .val (.ref b21), .val (.int p2), .val (.int p1), .unset, .unset, .unset, .unset, .unset, .unset] [])) (fun t k => XS.istore X25.here hx rfl (Jvm.hb hby at_67) rfl (l' := #[.val (.int p1), .val (.int p2), .val (.int p3), .val (.int p4), .val (.int (0 : Int32)), .val (.ref b21), .val (.int p2), .val (.int p1), .unset, .unset, .unset, .unset, .unset, .unset]) rfl k) ?_
    refine own_go (B := T25.setTop (mkF m 71 #[.val (.int p1), .val (.int p2), .val (.int p3), .val (.int p4), .val (.int (0 : Int32)), .val (.ref b21), .val (.int p2), .val (.int p1), .unset, .unset, .unset, .unset, .unset, .unset] [(.int (0 : Int32))])) (fun t k => XS.iload X25.here hx rfl (Jvm.hb hby at_69) rfl k) ?_
    refine own_go (B := T25.setTop (mkF m 78 #[.val (.int p1), .val (.int p2), .val (.int p3), .val (.int p4), .val (.int (0 : Int32)), .val (.ref b21), .val (.int p2), .val (.int p1), .unset, .unset, .unset, .unset, .unset, .unset] [])) (fun t k => XS.ifYes X25.here hx rfl (pc0 := 71) (pc' := 78) rfl (Jvm.hb hby at_71) rfl ((if0 _ _).trans (teq (by decide : (0 : Int32) = (0 : Int32))).1) (by decide) (by decide) k) ?_
    refine own_go (B := T25.setTop (mkF m 79 #[.val (.int p1), .val (.int p2), .val (.int p3), .val (.int p4), .val (.int (0 : Int32)), .val (.ref b21), .val (.int p2), .val (.int p1), .unset, .unset, .unset, .unset, .unset, .unset] [(.int (1 : Int32))])) (fun t k => XS.iconst X25.here hx rfl (Jvm.hb hby at_78) k) ?_
    refine own_go (B := T25.setTop (mkF m 81 #[.val (.int p1), .val (.int p2), .val (.int p3), .val (.int p4), .val (.int (0 : Int32)), .val (.ref b21), .val (.int p2), .val (.int p1), .val (.int (1 : Int32)), .unset, .unset, .unset, .unset, .unset] [])) (fun t k => XS.istore X25.here hx rfl (Jvm.hb hby at_79) rfl (l' := #[.val (.int p1), .val (.int p2), .val (.int p3), .val (.int p4), .val (.int (0 : Int32)), .val (.ref b21), .val (.int p2), .val (.int p1), .val (.int (1 : Int32)), .unset, .unset, .unset, .unset, .unset]) rfl k) ?_
    refine own_go (B := T25.setTop (mkF m 83 #[.val (.int p1), .val (.int p2), .val (.int p3), .val (.int p4), .val (.int (0 : Int32)), .val (.ref b21), .val (.int p2), .val (.int p1), .val (.int (1 : Int32)), .unset, .unset, .unset, .unset, .unset] [(.ref b21)])) (fun t k => XS.aload X25.here hx rfl (Jvm.hb hby at_81) rfl rfl k) ?_
    obtain ⟨cq26, kq26, q26a, q26b, q26c⟩ := isOf hZ rfl E_b21
    obtain ⟨_, _, ⟨T26, La26, ka26, na26⟩, -, X26, ⟨Lc26, hQ26, l26, y26, z26⟩, st26⟩ := X25.virtualBack hx (y := (⟨"com/example/term_unifier/termunifier/IntStack", "pop", "()I"⟩ : MethodName)) (z := (⟨"com/example/term_unifier/termunifier/IntStack", "pop", "()I"⟩ : MethodName)) hown (mvT hZ (own_w hw 19 rfl)) (mvT hZ (own_w hw 20 rfl)) (notFace_of_selects (args := #[]) (mvT hZ (own_w hw 22 rfl))) (mvT hZ (own_w hw 22 rfl)) (mvT hZ (own_w hw 21 rfl)) (by decide) (backOf (W := 0) (rm4 l Z a0 hw [] b21 b23 (2 : Int32) (1 : Int32) 1 (own_upd (own_upd (fun _ => 0) 0 p1) 1 p2) T25.heap n0 Zs E_b21 F_b21_items F_b21_size V_b23 g_b21 ne_b21_b23 (by decide) (by decide) (by decide) (by decide)) hZ (own_w hw 23 rfl) (own_w hw 2 rfl) (by decide) (by decide)) q26a q26c (g := (mkF m 83 #[.val (.int p1), .val (.int p2), .val (.int p3), .val (.int p4), .val (.int (0 : Int32)), .val (.ref b21), .val (.int p2), .val (.int p1), .val (.int (1 : Int32)), .unset, .unset, .unset, .unset, .unset] [(.ref b21)])) rfl (by rw [hml]; rfl) (Steps.refl _) (argsL := []) (rest := []) (lenOf pd_2 rfl) rfl (by show 2 * 0 + _ ≤ _; exact Nat.le_of_eq rfl) (Jvm.hb hby at_83) (fun _ _ => ⟨rfl, rfl, (by decide : 2 + 0 ≤ _), (by decide : 18 + 0 ≤ _)⟩)
    dsimp only [Pt.U, Pt.locs, Pt.cells, Pt.slots] at X26 l26 y26 z26 st26 hQ26
    subst l26 y26 z26
    obtain ⟨rfl, N26q, Kc26, E_b21_q, F_b21_items_q, F_b21_size_q, V_b23_q⟩ := hQ26
    have N26 := Fr.app N25 N26q
    have Zs := Nat.le_trans Zs Kc26.1
    have E_b21 := E_b21_q
    have F_b21_items := F_b21_items_q
    have F_b21_size := F_b21_size_q
    have V_b23 := V_b23_q
    refine own_go (B := T26.setTop (mkF m 86 #[.val (.int p1), .val (.int p2), .val (.int p3), .val (.int p4), .val (.int (0 : Int32)), .val (.ref b21), .val (.int p2), .val (.int p1), .val (.int (1 : Int32)), .unset, .unset, .unset, .unset, .unset] [(.int ((own_upd (own_upd (fun _ => 0) 0 p1) 1 p2) 1))])) (fun t k => own_st st26 k) ?_
    refine own_go (B := T26.setTop (mkF m 88 #[.val (.int p1), .val (.int p2), .val (.int p3), .val (.int p4), .val (.int (0 : Int32)), .val (.ref b21), .val (.int p2), .val (.int p1), .val (.int (1 : Int32)), .val (.int ((own_upd (own_upd (fun _ => 0) 0 p1) 1 p2) 1)), .unset, .unset, .unset, .unset] [])) (fun t k => XS.istore X26.here hx rfl (Jvm.hb hby at_86) rfl (l' := #[.val (.int p1), .val (.int p2), .val (.int p3), .val (.int p4), .val (.int (0 : Int32)), .val (.ref b21), .val (.int p2), .val (.int p1), .val (.int (1 : Int32)), .val (.int ((own_upd (own_upd (fun _ => 0) 0 p1) 1 p2) 1)), .unset, .unset, .unset, .unset]) rfl k) ?_
    refine own_go (B := T26.setTop (mkF m 90 #[.val (.int p1), .val (.int p2), .val (.int p3), .val (.int p4), .val (.int (0 : Int32)), .val (.ref b21), .val (.int p2), .val (.int p1), .val (.int (1 : Int32)), .val (.int ((own_upd (own_upd (fun _ => 0) 0 p1) 1 p2) 1)), .unset, .unset, .unset, .unset] [(.ref b21)])) (fun t k => XS.aload X26.here hx rfl (Jvm.hb hby at_88) rfl rfl k) ?_
    obtain ⟨cq27, kq27, q27a, q27b, q27c⟩ := isOf hZ rfl E_b21
    obtain ⟨_, _, ⟨T27, La27, ka27, na27⟩, -, X27, ⟨Lc27, hQ27, l27, y27, z27⟩, st27⟩ := X26.virtualBack hx (y := (⟨"com/example/term_unifier/termunifier/IntStack", "size", "()I"⟩ : MethodName)) (z := (⟨"com/example/term_unifier/termunifier/IntStack", "size", "()I"⟩ : MethodName)) hown (mvT hZ (own_w hw 24 rfl)) (mvT hZ (own_w hw 25 rfl)) (notFace_of_selects (args := #[]) (mvT hZ (own_w hw 27 rfl))) (mvT hZ (own_w hw 27 rfl)) (mvT hZ (own_w hw 26 rfl)) (by decide) (backOf (W := 0) (rm5 l Z a0 hw [] b21 (1 : Int32) T26.heap n0 Zs F_b21_size) hZ (own_w hw 28 rfl) (own_w hw 2 rfl) (by decide) (by decide)) q27a q27c (g := (mkF m 90 #[.val (.int p1), .val (.int p2), .val (.int p3), .val (.int p4), .val (.int (0 : Int32)), .val (.ref b21), .val (.int p2), .val (.int p1), .val (.int (1 : Int32)), .val (.int ((own_upd (own_upd (fun _ => 0) 0 p1) 1 p2) 1)), .unset, .unset, .unset, .unset] [(.ref b21)])) rfl (by rw [hml]; rfl) (Steps.refl _) (argsL := []) (rest := []) (lenOf pd_2 rfl) rfl (by show 2 * 0 + _ ≤ _; exact Nat.le_of_eq rfl) (Jvm.hb hby at_90) (fun _ _ => ⟨rfl, rfl, (by decide : 2 + 0 ≤ _), (by decide : 18 + 0 ≤ _)⟩)
    dsimp only [Pt.U, Pt.locs, Pt.cells, Pt.slots] at X27 l27 y27 z27 st27 hQ27
    subst l27 y27 z27
    obtain ⟨rfl, N27q, e27⟩ := hQ27
    have N27 := Fr.app N26 N27q
    refine own_go (B := T27.setTop (mkF m 93 #[.val (.int p1), .val (.int p2), .val (.int p3), .val (.int p4), .val (.int (0 : Int32)), .val (.ref b21), .val (.int p2), .val (.int p1), .val (.int (1 : Int32)), .val (.int ((own_upd (own_upd (fun _ => 0) 0 p1) 1 p2) 1)), .unset, .unset, .unset, .unset] [(.int (1 : Int32))])) (fun t k => own_st st27 k) ?_
    refine own_go (B := T27.setTop (mkF m 95 #[.val (.int p1), .val (.int p2), .val (.int p3), .val (.int p4), .val (.int (0 : Int32)), .val (.ref b21), .val (.int p2), .val (.int p1), .val (.int (1 : Int32)), .val (.int ((own_upd (own_upd (fun _ => 0) 0 p1) 1 p2) 1)), .val (.int (1 : Int32)), .unset, .unset, .unset] [])) (fun t k => XS.istore X27.here hx rfl (Jvm.hb hby at_93) rfl (l' := #[.val (.int p1), .val (.int p2), .val (.int p3), .val (.int p4), .val (.int (0 : Int32)), .val (.ref b21), .val (.int p2), .val (.int p1), .val (.int (1 : Int32)), .val (.int ((own_upd (own_upd (fun _ => 0) 0 p1) 1 p2) 1)), .val (.int (1 : Int32)), .unset, .unset, .unset]) rfl k) ?_
    refine own_go (B := T27.setTop (mkF m 97 #[.val (.int p1), .val (.int p2), .val (.int p3), .val (.int p4), .val (.int (0 : Int32)), .val (.ref b21), .val (.int p2), .val (.int p1), .val (.int (1 : Int32)), .val (.int ((own_upd (own_upd (fun _ => 0) 0 p1) 1 p2) 1)), .val (.int (1 : Int32)), .unset, .unset, .unset] [(.ref b21)])) (fun t k => XS.aload X27.here hx rfl (Jvm.hb hby at_95) rfl rfl k) ?_
    obtain ⟨cq28, kq28, q28a, q28b, q28c⟩ := isOf hZ e27 E_b21
    obtain ⟨_, _, ⟨T28, La28, ka28, na28⟩, -, X28, ⟨Lc28, hQ28, l28, y28, z28⟩, st28⟩ := X27.virtualBack hx (y := (⟨"com/example/term_unifier/termunifier/IntStack", "pop", "()I"⟩ : MethodName)) (z := (⟨"com/example/term_unifier/termunifier/IntStack", "pop", "()I"⟩ : MethodName)) hown (mvT hZ (own_w hw 19 rfl)) (mvT hZ (own_w hw 20 rfl)) (notFace_of_selects (args := #[]) (mvT hZ (own_w hw 22 rfl))) (mvT hZ (own_w hw 22 rfl)) (mvT hZ (own_w hw 21 rfl)) (by decide) (backOf (W := 0) (rm4 l Z a0 hw [] b21 b23 (1 : Int32) (0 : Int32) 0 (own_upd (own_upd (fun _ => 0) 0 p1) 1 p2) T26.heap n0 Zs E_b21 F_b21_items F_b21_size V_b23 g_b21 ne_b21_b23 (by decide) (by decide) (by decide) (by decide)) hZ (own_w hw 23 rfl) (own_w hw 2 rfl) (by decide) (by decide)) q28a q28c (g := (mkF m 97 #[.val (.int p1), .val (.int p2), .val (.int p3), .val (.int p4), .val (.int (0 : Int32)), .val (.ref b21), .val (.int p2), .val (.int p1), .val (.int (1 : Int32)), .val (.int ((own_upd (own_upd (fun _ => 0) 0 p1) 1 p2) 1)), .val (.int (1 : Int32)), .unset, .unset, .unset] [(.ref b21)])) rfl (by rw [hml]; rfl) (Steps.refl _) (argsL := []) (rest := []) (lenOf pd_2 rfl) rfl (by show 2 * 0 + _ ≤ _; exact Nat.le_of_eq rfl) (Jvm.hb hby at_97) (fun _ _ => ⟨rfl, e27, (by decide : 2 + 0 ≤ _), (by decide : 18 + 0 ≤ _)⟩)
    dsimp only [Pt.U, Pt.locs, Pt.cells, Pt.slots] at X28 l28 y28 z28 st28 hQ28
    subst l28 y28 z28
    obtain ⟨rfl, N28q, Kc28, E_b21_q, F_b21_items_q, F_b21_size_q, V_b23_q⟩ := hQ28
    have N28 := Fr.app N27 N28q
    have Zs := Nat.le_trans Zs Kc28.1
    have E_b21 := E_b21_q
    have F_b21_items := F_b21_items_q
    have F_b21_size := F_b21_size_q
    have V_b23 := V_b23_q
    refine own_go (B := T28.setTop (mkF m 100 #[.val (.int p1), .val (.int p2), .val (.int p3), .val (.int p4), .val (.int (0 : Int32)), .val (.ref b21), .val (.int p2), .val (.int p1), .val (.int (1 : Int32)), .val (.int ((own_upd (own_upd (fun _ => 0) 0 p1) 1 p2) 1)), .val (.int (1 : Int32)), .unset, .unset, .unset] [(.int ((own_upd (own_upd (fun _ => 0) 0 p1) 1 p2) 0))])) (fun t k => own_st st28 k) ?_
    refine own_go (B := T28.setTop (mkF m 102 #[.val (.int p1), .val (.int p2), .val (.int p3), .val (.int p4), .val (.int (0 : Int32)), .val (.ref b21), .val (.int p2), .val (.int p1), .val (.int (1 : Int32)), .val (.int ((own_upd (own_upd (fun _ => 0) 0 p1) 1 p2) 1)), .val (.int (1 : Int32)), .val (.int ((own_upd (own_upd (fun _ => 0) 0 p1) 1 p2) 0)), .unset, .unset] [])) (fun t k => XS.istore X28.here hx rfl (Jvm.hb hby at_100) rfl (l' := #[.val (.int p1), .val (.int p2), .val (.int p3), .val (.int p4), .val (.int (0 : Int32)), .val (.ref b21), .val (.int p2), .val (.int p1), .val (.int (1 : Int32)), .val (.int ((own_upd (own_upd (fun _ => 0) 0 p1) 1 p2) 1)), .val (.int (1 : Int32)), .val (.int ((own_upd (own_upd (fun _ => 0) 0 p1) 1 p2) 0)), .unset, .unset]) rfl k) ?_
    refine own_go (B := T28.setTop (mkF m 104 #[.val (.int p1), .val (.int p2), .val (.int p3), .val (.int p4), .val (.int (0 : Int32)), .val (.ref b21), .val (.int p2), .val (.int p1), .val (.int (1 : Int32)), .val (.int ((own_upd (own_upd (fun _ => 0) 0 p1) 1 p2) 1)), .val (.int (1 : Int32)), .val (.int ((own_upd (own_upd (fun _ => 0) 0 p1) 1 p2) 0)), .unset, .unset] [(.ref b21)])) (fun t k => XS.aload X28.here hx rfl (Jvm.hb hby at_102) rfl rfl k) ?_
    obtain ⟨cq29, kq29, q29a, q29b, q29c⟩ := isOf hZ rfl E_b21
    obtain ⟨_, _, ⟨T29, La29, ka29, na29⟩, -, X29, ⟨Lc29, hQ29, l29, y29, z29⟩, st29⟩ := X28.virtualBack hx (y := (⟨"com/example/term_unifier/termunifier/IntStack", "size", "()I"⟩ : MethodName)) (z := (⟨"com/example/term_unifier/termunifier/IntStack", "size", "()I"⟩ : MethodName)) hown (mvT hZ (own_w hw 24 rfl)) (mvT hZ (own_w hw 25 rfl)) (notFace_of_selects (args := #[]) (mvT hZ (own_w hw 27 rfl))) (mvT hZ (own_w hw 27 rfl)) (mvT hZ (own_w hw 26 rfl)) (by decide) (backOf (W := 0) (rm5 l Z a0 hw [] b21 (0 : Int32) T28.heap n0 Zs F_b21_size) hZ (own_w hw 28 rfl) (own_w hw 2 rfl) (by decide) (by decide)) q29a q29c (g := (mkF m 104 #[.val (.int p1), .val (.int p2), .val (.int p3), .val (.int p4), .val (.int (0 : Int32)), .val (.ref b21), .val (.int p2), .val (.int p1), .val (.int (1 : Int32)), .val (.int ((own_upd (own_upd (fun _ => 0) 0 p1) 1 p2) 1)), .val (.int (1 : Int32)), .val (.int ((own_upd (own_upd (fun _ => 0) 0 p1) 1 p2) 0)), .unset, .unset] [(.ref b21)])) rfl (by rw [hml]; rfl) (Steps.refl _) (argsL := []) (rest := []) (lenOf pd_2 rfl) rfl (by show 2 * 0 + _ ≤ _; exact Nat.le_of_eq rfl) (Jvm.hb hby at_104) (fun _ _ => ⟨rfl, rfl, (by decide : 2 + 0 ≤ _), (by decide : 18 + 0 ≤ _)⟩)
    dsimp only [Pt.U, Pt.locs, Pt.cells, Pt.slots] at X29 l29 y29 z29 st29 hQ29
    subst l29 y29 z29
    obtain ⟨rfl, N29q, e29⟩ := hQ29
    have N29 := Fr.app N28 N29q
    refine own_go (B := T29.setTop (mkF m 107 #[.val (.int p1), .val (.int p2), .val (.int p3), .val (.int p4), .val (.int (0 : Int32)), .val (.ref b21), .val (.int p2), .val (.int p1), .val (.int (1 : Int32)), .val (.int ((own_upd (own_upd (fun _ => 0) 0 p1) 1 p2) 1)), .val (.int (1 : Int32)), .val (.int ((own_upd (own_upd (fun _ => 0) 0 p1) 1 p2) 0)), .unset, .unset] [(.int (0 : Int32))])) (fun t k => own_st st29 k) ?_
    refine own_go (B := T29.setTop (mkF m 109 #[.val (.int p1), .val (.int p2), .val (.int p3), .val (.int p4), .val (.int (0 : Int32)), .val (.ref b21), .val (.int p2), .val (.int p1), .val (.int (1 : Int32)), .val (.int ((own_upd (own_upd (fun _ => 0) 0 p1) 1 p2) 1)), .val (.int (1 : Int32)), .val (.int ((own_upd (own_upd (fun _ => 0) 0 p1) 1 p2) 0)), .val (.int (0 : Int32)), .unset] [])) (fun t k => XS.istore X29.here hx rfl (Jvm.hb hby at_107) rfl (l' := #[.val (.int p1), .val (.int p2), .val (.int p3), .val (.int p4), .val (.int (0 : Int32)), .val (.ref b21), .val (.int p2), .val (.int p1), .val (.int (1 : Int32)), .val (.int ((own_upd (own_upd (fun _ => 0) 0 p1) 1 p2) 1)), .val (.int (1 : Int32)), .val (.int ((own_upd (own_upd (fun _ => 0) 0 p1) 1 p2) 0)), .val (.int (0 : Int32)), .unset]) rfl k) ?_
    refine own_go (B := T29.setTop (mkF m 111 #[.val (.int p1), .val (.int p2), .val (.int p3), .val (.int p4), .val (.int (0 : Int32)), .val (.ref b21), .val (.int p2), .val (.int p1), .val (.int (1 : Int32)), .val (.int ((own_upd (own_upd (fun _ => 0) 0 p1) 1 p2) 1)), .val (.int (1 : Int32)), .val (.int ((own_upd (own_upd (fun _ => 0) 0 p1) 1 p2) 0)), .val (.int (0 : Int32)), .unset] [(.int ((own_upd (own_upd (fun _ => 0) 0 p1) 1 p2) 1))])) (fun t k => XS.iload X29.here hx rfl (Jvm.hb hby at_109) rfl k) ?_
    refine own_go (B := T29.setTop (mkF m 113 #[.val (.int p1), .val (.int p2), .val (.int p3), .val (.int p4), .val (.int (0 : Int32)), .val (.ref b21), .val (.int p2), .val (.int p1), .val (.int (1 : Int32)), .val (.int ((own_upd (own_upd (fun _ => 0) 0 p1) 1 p2) 1)), .val (.int (1 : Int32)), .val (.int ((own_upd (own_upd (fun _ => 0) 0 p1) 1 p2) 0)), .val (.int (0 : Int32)), .unset] [(.int p2), (.int ((own_upd (own_upd (fun _ => 0) 0 p1) 1 p2) 1))])) (fun t k => XS.iload X29.here hx rfl (Jvm.hb hby at_111) rfl k) ?_
    refine own_go (B := T29.setTop (mkF m 116 #[.val (.int p1), .val (.int p2), .val (.int p3), .val (.int p4), .val (.int (0 : Int32)), .val (.ref b21), .val (.int p2), .val (.int p1), .val (.int (1 : Int32)), .val (.int ((own_upd (own_upd (fun _ => 0) 0 p1) 1 p2) 1)), .val (.int (1 : Int32)), .val (.int ((own_upd (own_upd (fun _ => 0) 0 p1) 1 p2) 0)), .val (.int (0 : Int32)), .unset] [])) (fun t k => XS.icmpNo X29.here hx rfl (Jvm.hb hby at_113) rfl (teq (by rfl : ((own_upd (own_upd (fun _ => 0) 0 p1) 1 p2) 1) = p2)).2 k) ?_
    refine own_go (B := T29.setTop (mkF m 118 #[.val (.int p1), .val (.int p2), .val (.int p3), .val (.int p4), .val (.int (0 : Int32)), .val (.ref b21), .val (.int p2), .val (.int p1), .val (.int (1 : Int32)), .val (.int ((own_upd (own_upd (fun _ => 0) 0 p1) 1 p2) 1)), .val (.int (1 : Int32)), .val (.int ((own_upd (own_upd (fun _ => 0) 0 p1) 1 p2) 0)), .val (.int (0 : Int32)), .unset] [(.int (1 : Int32))])) (fun t k => XS.iload X29.here hx rfl (Jvm.hb hby at_116) rfl k) ?_
    refine own_go (B := T29.setTop (mkF m 120 #[.val (.int p1), .val (.int p2), .val (.int p3), .val (.int p4), .val (.int (0 : Int32)), .val (.ref b21), .val (.int p2), .val (.int p1), .val (.int (1 : Int32)), .val (.int ((own_upd (own_upd (fun _ => 0) 0 p1) 1 p2) 1)), .val (.int (1 : Int32)), .val (.int ((own_upd (own_upd (fun _ => 0) 0 p1) 1 p2) 0)), .val (.int (0 : Int32)), .unset] [(.int (1 : Int32)), (.int (1 : Int32))])) (fun t k => XS.iload X29.here hx rfl (Jvm.hb hby at_118) rfl k) ?_
    refine own_go (B := T29.setTop (mkF m 123 #[.val (.int p1), .val (.int p2), .val (.int p3), .val (.int p4), .val (.int (0 : Int32)), .val (.ref b21), .val (.int p2), .val (.int p1), .val (.int (1 : Int32)), .val (.int ((own_upd (own_upd (fun _ => 0) 0 p1) 1 p2) 1)), .val (.int (1 : Int32)), .val (.int ((own_upd (own_upd (fun _ => 0) 0 p1) 1 p2) 0)), .val (.int (0 : Int32)), .unset] [])) (fun t k => XS.icmpNo X29.here hx rfl (Jvm.hb hby at_120) rfl (teq (by decide : (1 : Int32) = (1 : Int32))).2 k) ?_
    refine own_go (B := T29.setTop (mkF m 125 #[.val (.int p1), .val (.int p2), .val (.int p3), .val (.int p4), .val (.int (0 : Int32)), .val (.ref b21), .val (.int p2), .val (.int p1), .val (.int (1 : Int32)), .val (.int ((own_upd (own_upd (fun _ => 0) 0 p1) 1 p2) 1)), .val (.int (1 : Int32)), .val (.int ((own_upd (own_upd (fun _ => 0) 0 p1) 1 p2) 0)), .val (.int (0 : Int32)), .unset] [(.int ((own_upd (own_upd (fun _ => 0) 0 p1) 1 p2) 0))])) (fun t k => XS.iload X29.here hx rfl (Jvm.hb hby at_123) rfl k) ?_
    refine own_go (B := T29.setTop (mkF m 127 #[.val (.int p1), .val (.int p2), .val (.int p3), .val (.int p4), .val (.int (0 : Int32)), .val (.ref b21), .val (.int p2), .val (.int p1), .val (.int (1 : Int32)), .val (.int ((own_upd (own_upd (fun _ => 0) 0 p1) 1 p2) 1)), .val (.int (1 : Int32)), .val (.int ((own_upd (own_upd (fun _ => 0) 0 p1) 1 p2) 0)), .val (.int (0 : Int32)), .unset] [(.int p1), (.int ((own_upd (own_upd (fun _ => 0) 0 p1) 1 p2) 0))])) (fun t k => XS.iload X29.here hx rfl (Jvm.hb hby at_125) rfl k) ?_
    refine own_go (B := T29.setTop (mkF m 130 #[.val (.int p1), .val (.int p2), .val (.int p3), .val (.int p4), .val (.int (0 : Int32)), .val (.ref b21), .val (.int p2), .val (.int p1), .val (.int (1 : Int32)), .val (.int ((own_upd (own_upd (fun _ => 0) 0 p1) 1 p2) 1)), .val (.int (1 : Int32)), .val (.int ((own_upd (own_upd (fun _ => 0) 0 p1) 1 p2) 0)), .val (.int (0 : Int32)), .unset] [])) (fun t k => XS.icmpNo X29.here hx rfl (Jvm.hb hby at_127) rfl (teq (by rfl : ((own_upd (own_upd (fun _ => 0) 0 p1) 1 p2) 0) = p1)).2 k) ?_
    refine own_go (B := T29.setTop (mkF m 132 #[.val (.int p1), .val (.int p2), .val (.int p3), .val (.int p4), .val (.int (0 : Int32)), .val (.ref b21), .val (.int p2), .val (.int p1), .val (.int (1 : Int32)), .val (.int ((own_upd (own_upd (fun _ => 0) 0 p1) 1 p2) 1)), .val (.int (1 : Int32)), .val (.int ((own_upd (own_upd (fun _ => 0) 0 p1) 1 p2) 0)), .val (.int (0 : Int32)), .unset] [(.int (0 : Int32))])) (fun t k => XS.iload X29.here hx rfl (Jvm.hb hby at_130) rfl k) ?_
    refine own_go (B := T29.setTop (mkF m 134 #[.val (.int p1), .val (.int p2), .val (.int p3), .val (.int p4), .val (.int (0 : Int32)), .val (.ref b21), .val (.int p2), .val (.int p1), .val (.int (1 : Int32)), .val (.int ((own_upd (own_upd (fun _ => 0) 0 p1) 1 p2) 1)), .val (.int (1 : Int32)), .val (.int ((own_upd (own_upd (fun _ => 0) 0 p1) 1 p2) 0)), .val (.int (0 : Int32)), .unset] [(.int (1 : Int32)), (.int (0 : Int32))])) (fun t k => XS.iload X29.here hx rfl (Jvm.hb hby at_132) rfl k) ?_
    refine own_go (B := T29.setTop (mkF m 135 #[.val (.int p1), .val (.int p2), .val (.int p3), .val (.int p4), .val (.int (0 : Int32)), .val (.ref b21), .val (.int p2), .val (.int p1), .val (.int (1 : Int32)), .val (.int ((own_upd (own_upd (fun _ => 0) 0 p1) 1 p2) 1)), .val (.int (1 : Int32)), .val (.int ((own_upd (own_upd (fun _ => 0) 0 p1) 1 p2) 0)), .val (.int (0 : Int32)), .unset] [(.int (1 : Int32)), (.int (1 : Int32)), (.int (0 : Int32))])) (fun t k => XS.iconst X29.here hx rfl (Jvm.hb hby at_134) k) ?_
    refine own_go (B := T29.setTop (mkF m 136 #[.val (.int p1), .val (.int p2), .val (.int p3), .val (.int p4), .val (.int (0 : Int32)), .val (.ref b21), .val (.int p2), .val (.int p1), .val (.int (1 : Int32)), .val (.int ((own_upd (own_upd (fun _ => 0) 0 p1) 1 p2) 1)), .val (.int (1 : Int32)), .val (.int ((own_upd (own_upd (fun _ => 0) 0 p1) 1 p2) 0)), .val (.int (0 : Int32)), .unset] [(.int ((1 : Int32) - (1 : Int32))), (.int (0 : Int32))])) (fun t k => XS.isub X29.here hx rfl (Jvm.hb hby at_135) rfl k) ?_
    rw [show ((1 : Int32) - (1 : Int32)) = (0 : Int32) from by decide]
    refine own_go (B := T29.setTop (mkF m 139 #[.val (.int p1), .val (.int p2), .val (.int p3), .val (.int p4), .val (.int (0 : Int32)), .val (.ref b21), .val (.int p2), .val (.int p1), .val (.int (1 : Int32)), .val (.int ((own_upd (own_upd (fun _ => 0) 0 p1) 1 p2) 1)), .val (.int (1 : Int32)), .val (.int ((own_upd (own_upd (fun _ => 0) 0 p1) 1 p2) 0)), .val (.int (0 : Int32)), .unset] [])) (fun t k => XS.icmpNo X29.here hx rfl (Jvm.hb hby at_136) rfl (teq (by decide : (0 : Int32) = (0 : Int32))).2 k) ?_
    refine own_go (B := T29.setTop (mkF m 140 #[.val (.int p1), .val (.int p2), .val (.int p3), .val (.int p4), .val (.int (0 : Int32)), .val (.ref b21), .val (.int p2), .val (.int p1), .val (.int (1 : Int32)), .val (.int ((own_upd (own_upd (fun _ => 0) 0 p1) 1 p2) 1)), .val (.int (1 : Int32)), .val (.int ((own_upd (own_upd (fun _ => 0) 0 p1) 1 p2) 0)), .val (.int (0 : Int32)), .unset] [(.int (1 : Int32))])) (fun t k => XS.iconst X29.here hx rfl (Jvm.hb hby at_139) k) ?_
    refine own_go (B := T29.setTop (mkF m 144 #[.val (.int p1), .val (.int p2), .val (.int p3), .val (.int p4), .val (.int (0 : Int32)), .val (.ref b21), .val (.int p2), .val (.int p1), .val (.int (1 : Int32)), .val (.int ((own_upd (own_upd (fun _ => 0) 0 p1) 1 p2) 1)), .val (.int (1 : Int32)), .val (.int ((own_upd (own_upd (fun _ => 0) 0 p1) 1 p2) 0)), .val (.int (0 : Int32)), .unset] [(.int (1 : Int32))])) (fun t k => XS.goto X29.here hx rfl (pc0 := 140) (pc' := 144) rfl (Jvm.hb hby at_140) (by decide) (by decide) k) ?_
    refine own_go (B := T29.setTop (mkF m 146 #[.val (.int p1), .val (.int p2), .val (.int p3), .val (.int p4), .val (.int (0 : Int32)), .val (.ref b21), .val (.int p2), .val (.int p1), .val (.int (1 : Int32)), .val (.int ((own_upd (own_upd (fun _ => 0) 0 p1) 1 p2) 1)), .val (.int (1 : Int32)), .val (.int ((own_upd (own_upd (fun _ => 0) 0 p1) 1 p2) 0)), .val (.int (0 : Int32)), .val (.int (1 : Int32))] [])) (fun t k => XS.istore X29.here hx rfl (Jvm.hb hby at_144) rfl (l' := #[.val (.int p1), .val (.int p2), .val (.int p3), .val (.int p4), .val (.int (0 : Int32)), .val (.ref b21), .val (.int p2), .val (.int p1), .val (.int (1 : Int32)), .val (.int ((own_upd (own_upd (fun _ => 0) 0 p1) 1 p2) 1)), .val (.int (1 : Int32)), .val (.int ((own_upd (own_upd (fun _ => 0) 0 p1) 1 p2) 0)), .val (.int (0 : Int32)), .val (.int (1 : Int32))]) rfl k) ?_
    refine own_go (B := T29.setTop (mkF m 148 #[.val (.int p1), .val (.int p2), .val (.int p3), .val (.int p4), .val (.int (0 : Int32)), .val (.ref b21), .val (.int p2), .val (.int p1), .val (.int (1 : Int32)), .val (.int ((own_upd (own_upd (fun _ => 0) 0 p1) 1 p2) 1)), .val (.int (1 : Int32)), .val (.int ((own_upd (own_upd (fun _ => 0) 0 p1) 1 p2) 0)), .val (.int (0 : Int32)), .val (.int (1 : Int32))] [(.int (0 : Int32))])) (fun t k => XS.iload X29.here hx rfl (Jvm.hb hby at_146) rfl k) ?_
    refine own_go (B := T29.setTop (mkF m 175 #[.val (.int p1), .val (.int p2), .val (.int p3), .val (.int p4), .val (.int (0 : Int32)), .val (.ref b21), .val (.int p2), .val (.int p1), .val (.int (1 : Int32)), .val (.int ((own_upd (own_upd (fun _ => 0) 0 p1) 1 p2) 1)), .val (.int (1 : Int32)), .val (.int ((own_upd (own_upd (fun _ => 0) 0 p1) 1 p2) 0)), .val (.int (0 : Int32)), .val (.int (1 : Int32))] [])) (fun t k => XS.ifYes X29.here hx rfl (pc0 := 148) (pc' := 175) rfl (Jvm.hb hby at_148) rfl ((if0 _ _).trans (teq (by decide : (0 : Int32) = (0 : Int32))).1) (by decide) (by decide) k) ?_
    refine own_go (B := T29.setTop (mkF m 177 #[.val (.int p1), .val (.int p2), .val (.int p3), .val (.int p4), .val (.int (0 : Int32)), .val (.ref b21), .val (.int p2), .val (.int p1), .val (.int (1 : Int32)), .val (.int ((own_upd (own_upd (fun _ => 0) 0 p1) 1 p2) 1)), .val (.int (1 : Int32)), .val (.int ((own_upd (own_upd (fun _ => 0) 0 p1) 1 p2) 0)), .val (.int (0 : Int32)), .val (.int (1 : Int32))] [(.int (1 : Int32))])) (fun t k => XS.iload X29.here hx rfl (Jvm.hb hby at_175) rfl k) ?_
    refine own_go (B := T29.setTop (mkF m 180 #[.val (.int p1), .val (.int p2), .val (.int p3), .val (.int p4), .val (.int (0 : Int32)), .val (.ref b21), .val (.int p2), .val (.int p1), .val (.int (1 : Int32)), .val (.int ((own_upd (own_upd (fun _ => 0) 0 p1) 1 p2) 1)), .val (.int (1 : Int32)), .val (.int ((own_upd (own_upd (fun _ => 0) 0 p1) 1 p2) 0)), .val (.int (0 : Int32)), .val (.int (1 : Int32))] [])) (fun t k => XS.ifNo X29.here hx rfl (Jvm.hb hby at_177) rfl ((if0 _ _).trans (feq (by decide : ¬ ((1 : Int32) = (0 : Int32)))).1) k) ?_
    refine own_go (B := T29.setTop (mkF m 182 #[.val (.int p1), .val (.int p2), .val (.int p3), .val (.int p4), .val (.int (0 : Int32)), .val (.ref b21), .val (.int p2), .val (.int p1), .val (.int (1 : Int32)), .val (.int ((own_upd (own_upd (fun _ => 0) 0 p1) 1 p2) 1)), .val (.int (1 : Int32)), .val (.int ((own_upd (own_upd (fun _ => 0) 0 p1) 1 p2) 0)), .val (.int (0 : Int32)), .val (.int (1 : Int32))] [(.ref b21)])) (fun t k => XS.aload X29.here hx rfl (Jvm.hb hby at_180) rfl rfl k) ?_
    obtain ⟨cq30, kq30, q30a, q30b, q30c⟩ := isOf hZ e29 E_b21
    obtain ⟨_, _, ⟨T30, La30, ka30, na30⟩, -, X30, ⟨Lc30, hQ30, l30, y30, z30⟩, st30⟩ := X29.virtualBack hx (y := (⟨"com/example/term_unifier/termunifier/IntStack", "isEmpty", "()Z"⟩ : MethodName)) (z := (⟨"com/example/term_unifier/termunifier/IntStack", "isEmpty", "()Z"⟩ : MethodName)) hown (mvT hZ (own_w hw 34 rfl)) (mvT hZ (own_w hw 35 rfl)) (notFace_of_selects (args := #[]) (mvT hZ (own_w hw 37 rfl))) (mvT hZ (own_w hw 37 rfl)) (mvT hZ (own_w hw 36 rfl)) (by decide) (backOf (W := 0) (rm7 l Z a0 hw [] b21 (0 : Int32) (1 : Int32) T28.heap n0 Zs F_b21_size (by decide)) hZ (own_w hw 38 rfl) (own_w hw 2 rfl) (by decide) (by decide)) q30a q30c (g := (mkF m 182 #[.val (.int p1), .val (.int p2), .val (.int p3), .val (.int p4), .val (.int (0 : Int32)), .val (.ref b21), .val (.int p2), .val (.int p1), .val (.int (1 : Int32)), .val (.int ((own_upd (own_upd (fun _ => 0) 0 p1) 1 p2) 1)), .val (.int (1 : Int32)), .val (.int ((own_upd (own_upd (fun _ => 0) 0 p1) 1 p2) 0)), .val (.int (0 : Int32)), .val (.int (1 : Int32))] [(.ref b21)])) rfl (by rw [hml]; rfl) (Steps.refl _) (argsL := []) (rest := []) (lenOf pd_3 rfl) rfl (by show 2 * 0 + _ ≤ _; exact Nat.le_of_eq rfl) (Jvm.hb hby at_182) (fun _ _ => ⟨rfl, e29, (by decide : 2 + 0 ≤ _), (by decide : 18 + 0 ≤ _)⟩)
    dsimp only [Pt.U, Pt.locs, Pt.cells, Pt.slots] at X30 l30 y30 z30 st30 hQ30
    subst l30 y30 z30
    obtain ⟨rfl, N30q, e30⟩ := hQ30
    have N30 := Fr.app N29 N30q
    refine own_go (B := T30.setTop (mkF m 185 #[.val (.int p1), .val (.int p2), .val (.int p3), .val (.int p4), .val (.int (0 : Int32)), .val (.ref b21), .val (.int p2), .val (.int p1), .val (.int (1 : Int32)), .val (.int ((own_upd (own_upd (fun _ => 0) 0 p1) 1 p2) 1)), .val (.int (1 : Int32)), .val (.int ((own_upd (own_upd (fun _ => 0) 0 p1) 1 p2) 0)), .val (.int (0 : Int32)), .val (.int (1 : Int32))] [(.int (1 : Int32))])) (fun t k => own_st st30 k) ?_
    refine own_go (B := T30.setTop (mkF m 188 #[.val (.int p1), .val (.int p2), .val (.int p3), .val (.int p4), .val (.int (0 : Int32)), .val (.ref b21), .val (.int p2), .val (.int p1), .val (.int (1 : Int32)), .val (.int ((own_upd (own_upd (fun _ => 0) 0 p1) 1 p2) 1)), .val (.int (1 : Int32)), .val (.int ((own_upd (own_upd (fun _ => 0) 0 p1) 1 p2) 0)), .val (.int (0 : Int32)), .val (.int (1 : Int32))] [])) (fun t k => XS.ifNo X30.here hx rfl (Jvm.hb hby at_185) rfl ((if0 _ _).trans (feq (by decide : ¬ ((1 : Int32) = (0 : Int32)))).1) k) ?_
    refine own_go (B := T30.setTop (mkF m 189 #[.val (.int p1), .val (.int p2), .val (.int p3), .val (.int p4), .val (.int (0 : Int32)), .val (.ref b21), .val (.int p2), .val (.int p1), .val (.int (1 : Int32)), .val (.int ((own_upd (own_upd (fun _ => 0) 0 p1) 1 p2) 1)), .val (.int (1 : Int32)), .val (.int ((own_upd (own_upd (fun _ => 0) 0 p1) 1 p2) 0)), .val (.int (0 : Int32)), .val (.int (1 : Int32))] [(.int (1 : Int32))])) (fun t k => XS.iconst X30.here hx rfl (Jvm.hb hby at_188) k) ?_
    refine own_go (B := T30.setTop (mkF m 193 #[.val (.int p1), .val (.int p2), .val (.int p3), .val (.int p4), .val (.int (0 : Int32)), .val (.ref b21), .val (.int p2), .val (.int p1), .val (.int (1 : Int32)), .val (.int ((own_upd (own_upd (fun _ => 0) 0 p1) 1 p2) 1)), .val (.int (1 : Int32)), .val (.int ((own_upd (own_upd (fun _ => 0) 0 p1) 1 p2) 0)), .val (.int (0 : Int32)), .val (.int (1 : Int32))] [(.int (1 : Int32))])) (fun t k => XS.goto X30.here hx rfl (pc0 := 189) (pc' := 193) rfl (Jvm.hb hby at_189) (by decide) (by decide) k) ?_
    refine own_go (B := T30.setTop (mkF m 195 #[.val (.int p1), .val (.int p2), .val (.int p3), .val (.int p4), .val (.int (0 : Int32)), .val (.ref b21), .val (.int p2), .val (.int p1), .val (.int (1 : Int32)), .val (.int ((own_upd (own_upd (fun _ => 0) 0 p1) 1 p2) 1)), .val (.int (1 : Int32)), .val (.int ((own_upd (own_upd (fun _ => 0) 0 p1) 1 p2) 0)), .val (.int (0 : Int32)), .val (.int (1 : Int32))] [])) (fun t k => XS.istore X30.here hx rfl (Jvm.hb hby at_193) rfl (l' := #[.val (.int p1), .val (.int p2), .val (.int p3), .val (.int p4), .val (.int (0 : Int32)), .val (.ref b21), .val (.int p2), .val (.int p1), .val (.int (1 : Int32)), .val (.int ((own_upd (own_upd (fun _ => 0) 0 p1) 1 p2) 1)), .val (.int (1 : Int32)), .val (.int ((own_upd (own_upd (fun _ => 0) 0 p1) 1 p2) 0)), .val (.int (0 : Int32)), .val (.int (1 : Int32))]) rfl k) ?_
    refine own_go (B := T30.setTop (mkF m 197 #[.val (.int p1), .val (.int p2), .val (.int p3), .val (.int p4), .val (.int (0 : Int32)), .val (.ref b21), .val (.int p2), .val (.int p1), .val (.int (1 : Int32)), .val (.int ((own_upd (own_upd (fun _ => 0) 0 p1) 1 p2) 1)), .val (.int (1 : Int32)), .val (.int ((own_upd (own_upd (fun _ => 0) 0 p1) 1 p2) 0)), .val (.int (0 : Int32)), .val (.int (1 : Int32))] [(.int (1 : Int32))])) (fun t k => XS.iload X30.here hx rfl (Jvm.hb hby at_195) rfl k) ?_
    refine own_out X30 (v := (some (.int (1 : Int32)))) (fun h => by rw [Bd.returns] at h; cases h) Bd.notSynchronized (fun fs hr => retOut X30 hx (t := .boolean) Bd.returns rfl (by first | exact Or.inl ⟨rfl, by simp, _, rfl⟩) (Jvm.hb hby at_197) hr) ?_ (by decide) (by decide)
    show own_Q0 Z p1 p2 p3 p4 h0 n0 (some (.int (1 : Int32))) T30.heap _
    rw [e30]
    exact ⟨rfl, N30⟩
  · refine own_go (B := s₁.setTop (mkF m 6 #[.val (.int p1), .val (.int p2), .val (.int p3), .val (.int p4), .unset, .unset, .unset, .unset, .unset, .unset, .unset, .unset, .unset, .unset] [])) (fun t k => XS.ifNo X0.here hx rfl (Jvm.hb hby at_3) rfl ((if0 _ _).trans (feq hc3_20).1) k) ?_
    refine own_go (B := s₁.setTop (mkF m 7 #[.val (.int p1), .val (.int p2), .val (.int p3), .val (.int p4), .unset, .unset, .unset, .unset, .unset, .unset, .unset, .unset, .unset, .unset] [(.int (1 : Int32))])) (fun t k => XS.iconst X0.here hx rfl (Jvm.hb hby at_6) k) ?_
    refine own_go (B := s₁.setTop (mkF m 11 #[.val (.int p1), .val (.int p2), .val (.int p3), .val (.int p4), .unset, .unset, .unset, .unset, .unset, .unset, .unset, .unset, .unset, .unset] [(.int (1 : Int32))])) (fun t k => XS.goto X0.here hx rfl (pc0 := 7) (pc' := 11) rfl (Jvm.hb hby at_7) (by decide) (by decide) k) ?_
    refine own_go (B := s₁.setTop (mkF m 13 #[.val (.int p1), .val (.int p2), .val (.int p3), .val (.int p4), .val (.int (1 : Int32)), .unset, .unset, .unset, .unset, .unset, .unset, .unset, .unset, .unset] [])) (fun t k => XS.istore X0.here hx rfl (Jvm.hb hby at_11) rfl (l' := #[.val (.int p1), .val (.int p2), .val (.int p3), .val (.int p4), .val (.int (1 : Int32)), .unset, .unset, .unset, .unset, .unset, .unset, .unset, .unset, .unset]) rfl k) ?_
    obtain ⟨T31, h31, X31, e31, E31, A31, D31, -, st31⟩ := newO X0 hx hZ hown (own_w hw 0 rfl) (own_w hw 1 rfl) (own_w hw 2 rfl) e0 (g := (mkF m 13 #[.val (.int p1), .val (.int p2), .val (.int p3), .val (.int p4), .val (.int (1 : Int32)), .unset, .unset, .unset, .unset, .unset, .unset, .unset, .unset, .unset] [])) rfl (Jvm.hb hby at_13) (by decide) (by decide)
    obtain ⟨b31, g31⟩ : ∃ z, z = h0.size := ⟨_, rfl⟩
    rw [← g31] at A31 D31 st31
    have g_b31 : n0 ≤ b31 := Nat.le_trans Zs (Nat.le_of_eq g31.symm)
    have Zs := Nat.le_trans Zs E31.1
    have E_b31 := A31
    have F_b31_items : Fld Z h31 b31 "com/example/term_unifier/termunifier/IntStack" "items" "[I" .null := D31 (Or.inl (own_w hw 11 rfl)) (ty := (.array .int)) (by decide)
    have F_b31_size : Fld Z h31 b31 "com/example/term_unifier/termunifier/IntStack" "size" "I" (.int (0 : Int32)) := D31 (Or.inl (own_w hw 18 rfl)) (ty := .int) (by decide)
    refine own_go (B := T31.setTop (mkF m 16 #[.val (.int p1), .val (.int p2), .val (.int p3), .val (.int p4), .val (.int (1 : Int32)), .unset, .unset, .unset, .unset, .unset, .unset, .unset, .unset, .unset] [(.ref b31)])) (fun t k => st31 _ k) ?_
    refine own_go (B := T31.setTop (mkF m 17 #[.val (.int p1), .val (.int p2), .val (.int p3), .val (.int p4), .val (.int (1 : Int32)), .unset, .unset, .unset, .unset, .unset, .unset, .unset, .unset, .unset] [(.ref b31), (.ref b31)])) (fun t k => XS.dup X31.here hx rfl (Jvm.hb hby at_16) rfl rfl k) ?_
    obtain ⟨_, _, ⟨T32, La32, ka32, na32⟩, -, X32, ⟨Lc32, hQ32, l32, y32, z32⟩, st32⟩ := X31.specialBack hx (y := (⟨"com/example/term_unifier/termunifier/IntStack", "<init>", "()V"⟩ : MethodName)) rfl hown (mvT hZ (own_w hw 3 rfl)) (mvT hZ (own_w hw 4 rfl)) (mvT hZ (own_w hw 5 rfl)) (by decide) (backOf (W := 1) (rm1 l Z a0 hw [] b31 h31 n0 Zs E_b31 F_b31_items F_b31_size g_b31) hZ (own_w hw 5 rfl) (own_w hw 2 rfl) (by decide) (by decide)) (g := (mkF m 17 #[.val (.int p1), .val (.int p2), .val (.int p3), .val (.int p4), .val (.int (1 : Int32)), .unset, .unset, .unset, .unset, .unset, .unset, .unset, .unset, .unset] [(.ref b31), (.ref b31)])) rfl (by rw [hml]; rfl) (Steps.refl _) (a := b31) (argsL := []) (rest := [(.ref b31)]) (lenOf pd_0 rfl) rfl (by show 2 * 0 + _ ≤ _; exact Nat.le_of_eq rfl) (Jvm.hb hby at_17) (fun _ _ => ⟨rfl, e31, (by decide : 1 + 1 ≤ _), (by decide : 2 + 16 ≤ _)⟩)
    dsimp only [Pt.U, Pt.locs, Pt.cells, Pt.slots] at X32 l32 y32 z32 st32 hQ32
    subst l32 y32 z32
    obtain ⟨rfl, N32q, b33, sq_b33, Kc32, E_b31_q, F_b31_items_q, F_b31_size_q, V_b33_q⟩ := hQ32
    have g_b33 : n0 ≤ b33 := Nat.le_trans Zs sq_b33
    have ne_b31_b33 : b31 ≠ b33 := Nat.ne_of_lt (Nat.lt_of_lt_of_le E_b31.lt sq_b33)
    have N32 := Fr.app N0 N32q
    have Zs := Nat.le_trans Zs Kc32.1
    have E_b31 := E_b31_q
    have F_b31_items := F_b31_items_q
    have F_b31_size := F_b31_size_q
    have V_b33 := V_b33_q
    refine own_go (B := T32.setTop (mkF m 20 #[.val (.int p1), .val (.int p2), .val (.int p3), .val (.int p4), .val (.int (1 : Int32)), .unset, .unset, .unset, .unset, .unset, .unset, .unset, .unset, .unset] [(.ref b31)])) (fun t k => own_st st32 k) ?_
    refine own_go (B := T32.setTop (mkF m 22 #[.val (.int p1), .val (.int p2), .val (.int p3), .val (.int p4), .val (.int (1 : Int32)), .val (.ref b31), .unset, .unset, .unset, .unset, .unset, .unset, .unset, .unset] [])) (fun t k => XS.astore X32.here hx rfl (Jvm.hb hby at_20) rfl rfl (l' := #[.val (.int p1), .val (.int p2), .val (.int p3), .val (.int p4), .val (.int (1 : Int32)), .val (.ref b31), .unset, .unset, .unset, .unset, .unset, .unset, .unset, .unset]) rfl k) ?_
    refine own_go (B := T32.setTop (mkF m 24 #[.val (.int p1), .val (.int p2), .val (.int p3), .val (.int p4), .val (.int (1 : Int32)), .val (.ref b31), .unset, .unset, .unset, .unset, .unset, .unset, .unset, .unset] [(.ref b31)])) (fun t k => XS.aload X32.here hx rfl (Jvm.hb hby at_22) rfl rfl k) ?_
    refine own_go (B := T32.setTop (mkF m 25 #[.val (.int p1), .val (.int p2), .val (.int p3), .val (.int p4), .val (.int (1 : Int32)), .val (.ref b31), .unset, .unset, .unset, .unset, .unset, .unset, .unset, .unset] [(.int p1), (.ref b31)])) (fun t k => XS.iloadN X32.here hx rfl (Jvm.hb hby at_24) rfl k) ?_
    obtain ⟨cq34, kq34, q34a, q34b, q34c⟩ := isOf hZ rfl E_b31
    obtain ⟨_, _, ⟨T34, La34, ka34, na34⟩, -, X34, ⟨Lc34, hQ34, l34, y34, z34⟩, st34⟩ := X32.virtualBack hx (y := (⟨"com/example/term_unifier/termunifier/IntStack", "push", "(I)V"⟩ : MethodName)) (z := (⟨"com/example/term_unifier/termunifier/IntStack", "push", "(I)V"⟩ : MethodName)) hown (mvT hZ (own_w hw 12 rfl)) (mvT hZ (own_w hw 13 rfl)) (notFace_of_selects (args := #[]) (mvT hZ (own_w hw 15 rfl))) (mvT hZ (own_w hw 15 rfl)) (mvT hZ (own_w hw 14 rfl)) (by decide) (backOf (W := 0) (rm3 l Z a0 hw [] b31 p1 b33 (0 : Int32) (1 : Int32) 0 (fun _ => 0) T32.heap n0 Zs E_b31 F_b31_items F_b31_size V_b33 g_b31 g_b33 ne_b31_b33 (by decide) (by decide) (by decide) (by decide) (by decide)) hZ (own_w hw 16 rfl) (own_w hw 2 rfl) (by decide) (by decide)) q34a q34c (g := (mkF m 25 #[.val (.int p1), .val (.int p2), .val (.int p3), .val (.int p4), .val (.int (1 : Int32)), .val (.ref b31), .unset, .unset, .unset, .unset, .unset, .unset, .unset, .unset] [(.int p1), (.ref b31)])) rfl (by rw [hml]; rfl) (Steps.refl _) (argsL := [(.int p1)]) (rest := []) (lenOf pd_1 rfl) rfl (by show 2 * 0 + _ ≤ _; exact Nat.le_of_eq rfl) (Jvm.hb hby at_25) (fun _ _ => ⟨rfl, rfl, (by decide : 2 + 0 ≤ _), (by decide : 18 + 0 ≤ _)⟩)
    dsimp only [Pt.U, Pt.locs, Pt.cells, Pt.slots] at X34 l34 y34 z34 st34 hQ34
    subst l34 y34 z34
    obtain ⟨rfl, N34q, Kc34, E_b31_q, F_b31_items_q, F_b31_size_q, V_b33_q⟩ := hQ34
    have N34 := Fr.app N32 N34q
    have Zs := Nat.le_trans Zs Kc34.1
    have E_b31 := E_b31_q
    have F_b31_items := F_b31_items_q
    have F_b31_size := F_b31_size_q
    have V_b33 := V_b33_q
    refine own_go (B := T34.setTop (mkF m 28 #[.val (.int p1), .val (.int p2), .val (.int p3), .val (.int p4), .val (.int (1 : Int32)), .val (.ref b31), .unset, .unset, .unset, .unset, .unset, .unset, .unset, .unset] [])) (fun t k => own_st st34 k) ?_
    refine own_go (B := T34.setTop (mkF m 30 #[.val (.int p1), .val (.int p2), .val (.int p3), .val (.int p4), .val (.int (1 : Int32)), .val (.ref b31), .unset, .unset, .unset, .unset, .unset, .unset, .unset, .unset] [(.ref b31)])) (fun t k => XS.aload X34.here hx rfl (Jvm.hb hby at_28) rfl rfl k) ?_
    refine own_go (B := T34.setTop (mkF m 31 #[.val (.int p1), .val (.int p2), .val (.int p3), .val (.int p4), .val (.int (1 : Int32)), .val (.ref b31), .unset, .unset, .unset, .unset, .unset, .unset, .unset, .unset] [(.int p2), (.ref b31)])) (fun t k => XS.iloadN X34.here hx rfl (Jvm.hb hby at_30) rfl k) ?_
    obtain ⟨cq35, kq35, q35a, q35b, q35c⟩ := isOf hZ rfl E_b31
    obtain ⟨_, _, ⟨T35, La35, ka35, na35⟩, -, X35, ⟨Lc35, hQ35, l35, y35, z35⟩, st35⟩ := X34.virtualBack hx (y := (⟨"com/example/term_unifier/termunifier/IntStack", "push", "(I)V"⟩ : MethodName)) (z := (⟨"com/example/term_unifier/termunifier/IntStack", "push", "(I)V"⟩ : MethodName)) hown (mvT hZ (own_w hw 12 rfl)) (mvT hZ (own_w hw 13 rfl)) (notFace_of_selects (args := #[]) (mvT hZ (own_w hw 15 rfl))) (mvT hZ (own_w hw 15 rfl)) (mvT hZ (own_w hw 14 rfl)) (by decide) (backOf (W := 0) (rm3 l Z a0 hw [] b31 p2 b33 (1 : Int32) (2 : Int32) 1 (own_upd (fun _ => 0) 0 p1) T34.heap n0 Zs E_b31 F_b31_items F_b31_size V_b33 g_b31 g_b33 ne_b31_b33 (by decide) (by decide) (by decide) (by decide) (by decide)) hZ (own_w hw 16 rfl) (own_w hw 2 rfl) (by decide) (by decide)) q35a q35c (g := (mkF m 31 #[.val (.int p1), .val (.int p2), .val (.int p3), .val (.int p4), .val (.int (1 : Int32)), .val (.ref b31), .unset, .unset, .unset, .unset, .unset, .unset, .unset, .unset] [(.int p2), (.ref b31)])) rfl (by rw [hml]; rfl) (Steps.refl _) (argsL := [(.int p2)]) (rest := []) (lenOf pd_1 rfl) rfl (by show 2 * 0 + _ ≤ _; exact Nat.le_of_eq rfl) (Jvm.hb hby at_31) (fun _ _ => ⟨rfl, rfl, (by decide : 2 + 0 ≤ _), (by decide : 18 + 0 ≤ _)⟩)
    dsimp only [Pt.U, Pt.locs, Pt.cells, Pt.slots] at X35 l35 y35 z35 st35 hQ35
    subst l35 y35 z35
    obtain ⟨rfl, N35q, Kc35, E_b31_q, F_b31_items_q, F_b31_size_q, V_b33_q⟩ := hQ35
    have N35 := Fr.app N34 N35q
    have Zs := Nat.le_trans Zs Kc35.1
    have E_b31 := E_b31_q
    have F_b31_items := F_b31_items_q
    have F_b31_size := F_b31_size_q
    have V_b33 := V_b33_q
    refine own_go (B := T35.setTop (mkF m 34 #[.val (.int p1), .val (.int p2), .val (.int p3), .val (.int p4), .val (.int (1 : Int32)), .val (.ref b31), .unset, .unset, .unset, .unset, .unset, .unset, .unset, .unset] [])) (fun t k => own_st st35 k) ?_
    refine own_go (B := T35.setTop (mkF m 36 #[.val (.int p1), .val (.int p2), .val (.int p3), .val (.int p4), .val (.int (1 : Int32)), .val (.ref b31), .unset, .unset, .unset, .unset, .unset, .unset, .unset, .unset] [(.int (1 : Int32))])) (fun t k => XS.iload X35.here hx rfl (Jvm.hb hby at_34) rfl k) ?_
    refine own_go (B := T35.setTop (mkF m 39 #[.val (.int p1), .val (.int p2), .val (.int p3), .val (.int p4), .val (.int (1 : Int32)), .val (.ref b31), .unset, .unset, .unset, .unset, .unset, .unset, .unset, .unset] [])) (fun t k => XS.ifNo X35.here hx rfl (Jvm.hb hby at_36) rfl ((if0 _ _).trans (feq (by decide : ¬ ((1 : Int32) = (0 : Int32)))).1) k) ?_
    refine own_go (B := T35.setTop (mkF m 41 #[.val (.int p1), .val (.int p2), .val (.int p3), .val (.int p4), .val (.int (1 : Int32)), .val (.ref b31), .unset, .unset, .unset, .unset, .unset, .unset, .unset, .unset] [(.ref b31)])) (fun t k => XS.aload X35.here hx rfl (Jvm.hb hby at_39) rfl rfl k) ?_
    refine own_go (B := T35.setTop (mkF m 42 #[.val (.int p1), .val (.int p2), .val (.int p3), .val (.int p4), .val (.int (1 : Int32)), .val (.ref b31), .unset, .unset, .unset, .unset, .unset, .unset, .unset, .unset] [(.int p3), (.ref b31)])) (fun t k => XS.iloadN X35.here hx rfl (Jvm.hb hby at_41) rfl k) ?_
    obtain ⟨cq36, kq36, q36a, q36b, q36c⟩ := isOf hZ rfl E_b31
    obtain ⟨_, _, ⟨T36, La36, ka36, na36⟩, -, X36, ⟨Lc36, hQ36, l36, y36, z36⟩, st36⟩ := X35.virtualBack hx (y := (⟨"com/example/term_unifier/termunifier/IntStack", "push", "(I)V"⟩ : MethodName)) (z := (⟨"com/example/term_unifier/termunifier/IntStack", "push", "(I)V"⟩ : MethodName)) hown (mvT hZ (own_w hw 12 rfl)) (mvT hZ (own_w hw 13 rfl)) (notFace_of_selects (args := #[]) (mvT hZ (own_w hw 15 rfl))) (mvT hZ (own_w hw 15 rfl)) (mvT hZ (own_w hw 14 rfl)) (by decide) (backOf (W := 0) (rm3 l Z a0 hw [] b31 p3 b33 (2 : Int32) (3 : Int32) 2 (own_upd (own_upd (fun _ => 0) 0 p1) 1 p2) T35.heap n0 Zs E_b31 F_b31_items F_b31_size V_b33 g_b31 g_b33 ne_b31_b33 (by decide) (by decide) (by decide) (by decide) (by decide)) hZ (own_w hw 16 rfl) (own_w hw 2 rfl) (by decide) (by decide)) q36a q36c (g := (mkF m 42 #[.val (.int p1), .val (.int p2), .val (.int p3), .val (.int p4), .val (.int (1 : Int32)), .val (.ref b31), .unset, .unset, .unset, .unset, .unset, .unset, .unset, .unset] [(.int p3), (.ref b31)])) rfl (by rw [hml]; rfl) (Steps.refl _) (argsL := [(.int p3)]) (rest := []) (lenOf pd_1 rfl) rfl (by show 2 * 0 + _ ≤ _; exact Nat.le_of_eq rfl) (Jvm.hb hby at_42) (fun _ _ => ⟨rfl, rfl, (by decide : 2 + 0 ≤ _), (by decide : 18 + 0 ≤ _)⟩)
    dsimp only [Pt.U, Pt.locs, Pt.cells, Pt.slots] at X36 l36 y36 z36 st36 hQ36
    subst l36 y36 z36
    obtain ⟨rfl, N36q, Kc36, E_b31_q, F_b31_items_q, F_b31_size_q, V_b33_q⟩ := hQ36
    have N36 := Fr.app N35 N36q
    have Zs := Nat.le_trans Zs Kc36.1
    have E_b31 := E_b31_q
    have F_b31_items := F_b31_items_q
    have F_b31_size := F_b31_size_q
    have V_b33 := V_b33_q
    refine own_go (B := T36.setTop (mkF m 45 #[.val (.int p1), .val (.int p2), .val (.int p3), .val (.int p4), .val (.int (1 : Int32)), .val (.ref b31), .unset, .unset, .unset, .unset, .unset, .unset, .unset, .unset] [])) (fun t k => own_st st36 k) ?_
    refine own_go (B := T36.setTop (mkF m 47 #[.val (.int p1), .val (.int p2), .val (.int p3), .val (.int p4), .val (.int (1 : Int32)), .val (.ref b31), .unset, .unset, .unset, .unset, .unset, .unset, .unset, .unset] [(.int (1 : Int32))])) (fun t k => XS.iload X36.here hx rfl (Jvm.hb hby at_45) rfl k) ?_
    refine own_go (B := T36.setTop (mkF m 50 #[.val (.int p1), .val (.int p2), .val (.int p3), .val (.int p4), .val (.int (1 : Int32)), .val (.ref b31), .unset, .unset, .unset, .unset, .unset, .unset, .unset, .unset] [])) (fun t k => XS.ifNo X36.here hx rfl (Jvm.hb hby at_47) rfl ((if0 _ _).trans (feq (by decide : ¬ ((1 : Int32) = (0 : Int32)))).1) k) ?_
    refine own_go (B := T36.setTop (mkF m 51 #[.val (.int p1), .val (.int p2), .val (.int p3), .val (.int p4), .val (.int (1 : Int32)), .val (.ref b31), .unset, .unset, .unset, .unset, .unset, .unset, .unset, .unset] [(.int p3)])) (fun t k => XS.iloadN X36.here hx rfl (Jvm.hb hby at_50) rfl k) ?_
    refine own_go (B := T36.setTop (mkF m 55 #[.val (.int p1), .val (.int p2), .val (.int p3), .val (.int p4), .val (.int (1 : Int32)), .val (.ref b31), .unset, .unset, .unset, .unset, .unset, .unset, .unset, .unset] [(.int p3)])) (fun t k => XS.goto X36.here hx rfl (pc0 := 51) (pc' := 55) rfl (Jvm.hb hby at_51) (by decide) (by decide) k) ?_
    refine own_go (B := T36.setTop (mkF m 57 #[.val (.int p1), .val (.int p2), .val (.int p3), .val (.int p4), .val (.int (1 : Int32)), .val (.ref b31), .val (.int p3), .unset, .unset, .unset, .unset, .unset, .unset, .unset] [])) (fun t k => XS.istore X36.here hx rfl (Jvm.hb hby at_55) rfl (l' := #[.val (.int p1), .val (.int p2), .val (.int p3), .val (.int p4), .val (.int (1 : Int32)), .val (.ref b31), .val (.int p3), .unset, .unset, .unset, .unset, .unset, .unset, .unset]) rfl k) ?_
    refine own_go (B := T36.setTop (mkF m 59 #[.val (.int p1), .val (.int p2), .val (.int p3), .val (.int p4), .val (.int (1 : Int32)), .val (.ref b31), .val (.int p3), .unset, .unset, .unset, .unset, .unset, .unset, .unset] [(.int (1 : Int32))])) (fun t k => XS.iload X36.here hx rfl (Jvm.hb hby at_57) rfl k) ?_
    refine own_go (B := T36.setTop (mkF m 62 #[.val (.int p1), .val (.int p2), .val (.int p3), .val (.int p4), .val (.int (1 : Int32)), .val (.ref b31), .val (.int p3), .unset, .unset, .unset, .unset, .unset, .unset, .unset] [])) (fun t k => XS.ifNo X36.here hx rfl (Jvm.hb hby at_59) rfl ((if0 _ _).trans (feq (by decide : ¬ ((1 : Int32) = (0 : Int32)))).1) k) ?_
    refine own_go (B := T36.setTop (mkF m 63 #[.val (.int p1), .val (.int p2), .val (.int p3), .val (.int p4), .val (.int (1 : Int32)), .val (.ref b31), .val (.int p3), .unset, .unset, .unset, .unset, .unset, .unset, .unset] [(.int p2)])) (fun t k => XS.iloadN X36.here hx rfl (Jvm.hb hby at_62) rfl k) ?_
    refine own_go (B := T36.setTop (mkF m 67 #[.val (.int p1), .val (.int p2), .val (.int p3), .val (.int p4), .val (.int (1 : Int32)), .val (.ref b31), .val (.int p3), .unset, .unset, .unset, .unset, .unset, .unset, .unset] [(.int p2)])) (fun t k => XS.goto X36.here hx rfl (pc0 := 63) (pc' := 67) rfl (Jvm.hb hby at_63) (by decide) (by decide) k) ?_
    refine own_go (B := T36.setTop (mkF m 69 #[.val (.int p1), .val (.int p2), .val (.int p3), .val (.int p4), .val (.int (1 : Int32)), .val (.ref b31), .val (.int p3), .val (.int p2), .unset, .unset, .unset, .unset, .unset, .unset] [])) (fun t k => XS.istore X36.here hx rfl (Jvm.hb hby at_67) rfl (l' := #[.val (.int p1), .val (.int p2), .val (.int p3), .val (.int p4), .val (.int (1 : Int32)), .val (.ref b31), .val (.int p3), .val (.int p2), .unset, .unset, .unset, .unset, .unset, .unset]) rfl k) ?_
    refine own_go (B := T36.setTop (mkF m 71 #[.val (.int p1), .val (.int p2), .val (.int p3), .val (.int p4), .val (.int (1 : Int32)), .val (.ref b31), .val (.int p3), .val (.int p2), .unset, .unset, .unset, .unset, .unset, .unset] [(.int (1 : Int32))])) (fun t k => XS.iload X36.here hx rfl (Jvm.hb hby at_69) rfl k) ?_
    refine own_go (B := T36.setTop (mkF m 74 #[.val (.int p1), .val (.int p2), .val (.int p3), .val (.int p4), .val (.int (1 : Int32)), .val (.ref b31), .val (.int p3), .val (.int p2), .unset, .unset, .unset, .unset, .unset, .unset] [])) (fun t k => XS.ifNo X36.here hx rfl (Jvm.hb hby at_71) rfl ((if0 _ _).trans (feq (by decide : ¬ ((1 : Int32) = (0 : Int32)))).1) k) ?_
    refine own_go (B := T36.setTop (mkF m 75 #[.val (.int p1), .val (.int p2), .val (.int p3), .val (.int p4), .val (.int (1 : Int32)), .val (.ref b31), .val (.int p3), .val (.int p2), .unset, .unset, .unset, .unset, .unset, .unset] [(.int (2 : Int32))])) (fun t k => XS.iconst X36.here hx rfl (Jvm.hb hby at_74) k) ?_
    refine own_go (B := T36.setTop (mkF m 79 #[.val (.int p1), .val (.int p2), .val (.int p3), .val (.int p4), .val (.int (1 : Int32)), .val (.ref b31), .val (.int p3), .val (.int p2), .unset, .unset, .unset, .unset, .unset, .unset] [(.int (2 : Int32))])) (fun t k => XS.goto X36.here hx rfl (pc0 := 75) (pc' := 79) rfl (Jvm.hb hby at_75) (by decide) (by decide) k) ?_
    refine own_go (B := T36.setTop (mkF m 81 #[.val (.int p1), .val (.int p2), .val (.int p3), .val (.int p4), .val (.int (1 : Int32)), .val (.ref b31), .val (.int p3), .val (.int p2), .val (.int (2 : Int32)), .unset, .unset, .unset, .unset, .unset] [])) (fun t k => XS.istore X36.here hx rfl (Jvm.hb hby at_79) rfl (l' := #[.val (.int p1), .val (.int p2), .val (.int p3), .val (.int p4), .val (.int (1 : Int32)), .val (.ref b31), .val (.int p3), .val (.int p2), .val (.int (2 : Int32)), .unset, .unset, .unset, .unset, .unset]) rfl k) ?_
    refine own_go (B := T36.setTop (mkF m 83 #[.val (.int p1), .val (.int p2), .val (.int p3), .val (.int p4), .val (.int (1 : Int32)), .val (.ref b31), .val (.int p3), .val (.int p2), .val (.int (2 : Int32)), .unset, .unset, .unset, .unset, .unset] [(.ref b31)])) (fun t k => XS.aload X36.here hx rfl (Jvm.hb hby at_81) rfl rfl k) ?_
    obtain ⟨cq37, kq37, q37a, q37b, q37c⟩ := isOf hZ rfl E_b31
    obtain ⟨_, _, ⟨T37, La37, ka37, na37⟩, -, X37, ⟨Lc37, hQ37, l37, y37, z37⟩, st37⟩ := X36.virtualBack hx (y := (⟨"com/example/term_unifier/termunifier/IntStack", "pop", "()I"⟩ : MethodName)) (z := (⟨"com/example/term_unifier/termunifier/IntStack", "pop", "()I"⟩ : MethodName)) hown (mvT hZ (own_w hw 19 rfl)) (mvT hZ (own_w hw 20 rfl)) (notFace_of_selects (args := #[]) (mvT hZ (own_w hw 22 rfl))) (mvT hZ (own_w hw 22 rfl)) (mvT hZ (own_w hw 21 rfl)) (by decide) (backOf (W := 0) (rm4 l Z a0 hw [] b31 b33 (3 : Int32) (2 : Int32) 2 (own_upd (own_upd (own_upd (fun _ => 0) 0 p1) 1 p2) 2 p3) T36.heap n0 Zs E_b31 F_b31_items F_b31_size V_b33 g_b31 ne_b31_b33 (by decide) (by decide) (by decide) (by decide)) hZ (own_w hw 23 rfl) (own_w hw 2 rfl) (by decide) (by decide)) q37a q37c (g := (mkF m 83 #[.val (.int p1), .val (.int p2), .val (.int p3), .val (.int p4), .val (.int (1 : Int32)), .val (.ref b31), .val (.int p3), .val (.int p2), .val (.int (2 : Int32)), .unset, .unset, .unset, .unset, .unset] [(.ref b31)])) rfl (by rw [hml]; rfl) (Steps.refl _) (argsL := []) (rest := []) (lenOf pd_2 rfl) rfl (by show 2 * 0 + _ ≤ _; exact Nat.le_of_eq rfl) (Jvm.hb hby at_83) (fun _ _ => ⟨rfl, rfl, (by decide : 2 + 0 ≤ _), (by decide : 18 + 0 ≤ _)⟩)
    dsimp only [Pt.U, Pt.locs, Pt.cells, Pt.slots] at X37 l37 y37 z37 st37 hQ37
    subst l37 y37 z37
    obtain ⟨rfl, N37q, Kc37, E_b31_q, F_b31_items_q, F_b31_size_q, V_b33_q⟩ := hQ37
    have N37 := Fr.app N36 N37q
    have Zs := Nat.le_trans Zs Kc37.1
    have E_b31 := E_b31_q
    have F_b31_items := F_b31_items_q
    have F_b31_size := F_b31_size_q
    have V_b33 := V_b33_q
    refine own_go (B := T37.setTop (mkF m 86 #[.val (.int p1), .val (.int p2), .val (.int p3), .val (.int p4), .val (.int (1 : Int32)), .val (.ref b31), .val (.int p3), .val (.int p2), .val (.int (2 : Int32)), .unset, .unset, .unset, .unset, .unset] [(.int ((own_upd (own_upd (own_upd (fun _ => 0) 0 p1) 1 p2) 2 p3) 2))])) (fun t k => own_st st37 k) ?_
    refine own_go (B := T37.setTop (mkF m 88 #[.val (.int p1), .val (.int p2), .val (.int p3), .val (.int p4), .val (.int (1 : Int32)), .val (.ref b31), .val (.int p3), .val (.int p2), .val (.int (2 : Int32)), .val (.int ((own_upd (own_upd (own_upd (fun _ => 0) 0 p1) 1 p2) 2 p3) 2)), .unset, .unset, .unset, .unset] [])) (fun t k => XS.istore X37.here hx rfl (Jvm.hb hby at_86) rfl (l' := #[.val (.int p1), .val (.int p2), .val (.int p3), .val (.int p4), .val (.int (1 : Int32)), .val (.ref b31), .val (.int p3), .val (.int p2), .val (.int (2 : Int32)), .val (.int ((own_upd (own_upd (own_upd (fun _ => 0) 0 p1) 1 p2) 2 p3) 2)), .unset, .unset, .unset, .unset]) rfl k) ?_
    refine own_go (B := T37.setTop (mkF m 90 #[.val (.int p1), .val (.int p2), .val (.int p3), .val (.int p4), .val (.int (1 : Int32)), .val (.ref b31), .val (.int p3), .val (.int p2), .val (.int (2 : Int32)), .val (.int ((own_upd (own_upd (own_upd (fun _ => 0) 0 p1) 1 p2) 2 p3) 2)), .unset, .unset, .unset, .unset] [(.ref b31)])) (fun t k => XS.aload X37.here hx rfl (Jvm.hb hby at_88) rfl rfl k) ?_
    obtain ⟨cq38, kq38, q38a, q38b, q38c⟩ := isOf hZ rfl E_b31
    obtain ⟨_, _, ⟨T38, La38, ka38, na38⟩, -, X38, ⟨Lc38, hQ38, l38, y38, z38⟩, st38⟩ := X37.virtualBack hx (y := (⟨"com/example/term_unifier/termunifier/IntStack", "size", "()I"⟩ : MethodName)) (z := (⟨"com/example/term_unifier/termunifier/IntStack", "size", "()I"⟩ : MethodName)) hown (mvT hZ (own_w hw 24 rfl)) (mvT hZ (own_w hw 25 rfl)) (notFace_of_selects (args := #[]) (mvT hZ (own_w hw 27 rfl))) (mvT hZ (own_w hw 27 rfl)) (mvT hZ (own_w hw 26 rfl)) (by decide) (backOf (W := 0) (rm5 l Z a0 hw [] b31 (2 : Int32) T37.heap n0 Zs F_b31_size) hZ (own_w hw 28 rfl) (own_w hw 2 rfl) (by decide) (by decide)) q38a q38c (g := (mkF m 90 #[.val (.int p1), .val (.int p2), .val (.int p3), .val (.int p4), .val (.int (1 : Int32)), .val (.ref b31), .val (.int p3), .val (.int p2), .val (.int (2 : Int32)), .val (.int ((own_upd (own_upd (own_upd (fun _ => 0) 0 p1) 1 p2) 2 p3) 2)), .unset, .unset, .unset, .unset] [(.ref b31)])) rfl (by rw [hml]; rfl) (Steps.refl _) (argsL := []) (rest := []) (lenOf pd_2 rfl) rfl (by show 2 * 0 + _ ≤ _; exact Nat.le_of_eq rfl) (Jvm.hb hby at_90) (fun _ _ => ⟨rfl, rfl, (by decide : 2 + 0 ≤ _), (by decide : 18 + 0 ≤ _)⟩)
    dsimp only [Pt.U, Pt.locs, Pt.cells, Pt.slots] at X38 l38 y38 z38 st38 hQ38
    subst l38 y38 z38
    obtain ⟨rfl, N38q, e38⟩ := hQ38
    have N38 := Fr.app N37 N38q
    refine own_go (B := T38.setTop (mkF m 93 #[.val (.int p1), .val (.int p2), .val (.int p3), .val (.int p4), .val (.int (1 : Int32)), .val (.ref b31), .val (.int p3), .val (.int p2), .val (.int (2 : Int32)), .val (.int ((own_upd (own_upd (own_upd (fun _ => 0) 0 p1) 1 p2) 2 p3) 2)), .unset, .unset, .unset, .unset] [(.int (2 : Int32))])) (fun t k => own_st st38 k) ?_
    refine own_go (B := T38.setTop (mkF m 95 #[.val (.int p1), .val (.int p2), .val (.int p3), .val (.int p4), .val (.int (1 : Int32)), .val (.ref b31), .val (.int p3), .val (.int p2), .val (.int (2 : Int32)), .val (.int ((own_upd (own_upd (own_upd (fun _ => 0) 0 p1) 1 p2) 2 p3) 2)), .val (.int (2 : Int32)), .unset, .unset, .unset] [])) (fun t k => XS.istore X38.here hx rfl (Jvm.hb hby at_93) rfl (l' := #[.val (.int p1), .val (.int p2), .val (.int p3), .val (.int p4), .val (.int (1 : Int32)), .val (.ref b31), .val (.int p3), .val (.int p2), .val (.int (2 : Int32)), .val (.int ((own_upd (own_upd (own_upd (fun _ => 0) 0 p1) 1 p2) 2 p3) 2)), .val (.int (2 : Int32)), .unset, .unset, .unset]) rfl k) ?_
    refine own_go (B := T38.setTop (mkF m 97 #[.val (.int p1), .val (.int p2), .val (.int p3), .val (.int p4), .val (.int (1 : Int32)), .val (.ref b31), .val (.int p3), .val (.int p2), .val (.int (2 : Int32)), .val (.int ((own_upd (own_upd (own_upd (fun _ => 0) 0 p1) 1 p2) 2 p3) 2)), .val (.int (2 : Int32)), .unset, .unset, .unset] [(.ref b31)])) (fun t k => XS.aload X38.here hx rfl (Jvm.hb hby at_95) rfl rfl k) ?_
    obtain ⟨cq39, kq39, q39a, q39b, q39c⟩ := isOf hZ e38 E_b31
    obtain ⟨_, _, ⟨T39, La39, ka39, na39⟩, -, X39, ⟨Lc39, hQ39, l39, y39, z39⟩, st39⟩ := X38.virtualBack hx (y := (⟨"com/example/term_unifier/termunifier/IntStack", "pop", "()I"⟩ : MethodName)) (z := (⟨"com/example/term_unifier/termunifier/IntStack", "pop", "()I"⟩ : MethodName)) hown (mvT hZ (own_w hw 19 rfl)) (mvT hZ (own_w hw 20 rfl)) (notFace_of_selects (args := #[]) (mvT hZ (own_w hw 22 rfl))) (mvT hZ (own_w hw 22 rfl)) (mvT hZ (own_w hw 21 rfl)) (by decide) (backOf (W := 0) (rm4 l Z a0 hw [] b31 b33 (2 : Int32) (1 : Int32) 1 (own_upd (own_upd (own_upd (fun _ => 0) 0 p1) 1 p2) 2 p3) T37.heap n0 Zs E_b31 F_b31_items F_b31_size V_b33 g_b31 ne_b31_b33 (by decide) (by decide) (by decide) (by decide)) hZ (own_w hw 23 rfl) (own_w hw 2 rfl) (by decide) (by decide)) q39a q39c (g := (mkF m 97 #[.val (.int p1), .val (.int p2), .val (.int p3), .val (.int p4), .val (.int (1 : Int32)), .val (.ref b31), .val (.int p3), .val (.int p2), .val (.int (2 : Int32)), .val (.int ((own_upd (own_upd (own_upd (fun _ => 0) 0 p1) 1 p2) 2 p3) 2)), .val (.int (2 : Int32)), .unset, .unset, .unset] [(.ref b31)])) rfl (by rw [hml]; rfl) (Steps.refl _) (argsL := []) (rest := []) (lenOf pd_2 rfl) rfl (by show 2 * 0 + _ ≤ _; exact Nat.le_of_eq rfl) (Jvm.hb hby at_97) (fun _ _ => ⟨rfl, e38, (by decide : 2 + 0 ≤ _), (by decide : 18 + 0 ≤ _)⟩)
    dsimp only [Pt.U, Pt.locs, Pt.cells, Pt.slots] at X39 l39 y39 z39 st39 hQ39
    subst l39 y39 z39
    obtain ⟨rfl, N39q, Kc39, E_b31_q, F_b31_items_q, F_b31_size_q, V_b33_q⟩ := hQ39
    have N39 := Fr.app N38 N39q
    have Zs := Nat.le_trans Zs Kc39.1
    have E_b31 := E_b31_q
    have F_b31_items := F_b31_items_q
    have F_b31_size := F_b31_size_q
    have V_b33 := V_b33_q
    refine own_go (B := T39.setTop (mkF m 100 #[.val (.int p1), .val (.int p2), .val (.int p3), .val (.int p4), .val (.int (1 : Int32)), .val (.ref b31), .val (.int p3), .val (.int p2), .val (.int (2 : Int32)), .val (.int ((own_upd (own_upd (own_upd (fun _ => 0) 0 p1) 1 p2) 2 p3) 2)), .val (.int (2 : Int32)), .unset, .unset, .unset] [(.int ((own_upd (own_upd (own_upd (fun _ => 0) 0 p1) 1 p2) 2 p3) 1))])) (fun t k => own_st st39 k) ?_
    refine own_go (B := T39.setTop (mkF m 102 #[.val (.int p1), .val (.int p2), .val (.int p3), .val (.int p4), .val (.int (1 : Int32)), .val (.ref b31), .val (.int p3), .val (.int p2), .val (.int (2 : Int32)), .val (.int ((own_upd (own_upd (own_upd (fun _ => 0) 0 p1) 1 p2) 2 p3) 2)), .val (.int (2 : Int32)), .val (.int ((own_upd (own_upd (own_upd (fun _ => 0) 0 p1) 1 p2) 2 p3) 1)), .unset, .unset] [])) (fun t k => XS.istore X39.here hx rfl (Jvm.hb hby at_100) rfl (l' := #[.val (.int p1), .val (.int p2), .val (.int p3), .val (.int p4), .val (.int (1 : Int32)), .val (.ref b31), .val (.int p3), .val (.int p2), .val (.int (2 : Int32)), .val (.int ((own_upd (own_upd (own_upd (fun _ => 0) 0 p1) 1 p2) 2 p3) 2)), .val (.int (2 : Int32)), .val (.int ((own_upd (own_upd (own_upd (fun _ => 0) 0 p1) 1 p2) 2 p3) 1)), .unset, .unset]) rfl k) ?_
    refine own_go (B := T39.setTop (mkF m 104 #[.val (.int p1), .val (.int p2), .val (.int p3), .val (.int p4), .val (.int (1 : Int32)), .val (.ref b31), .val (.int p3), .val (.int p2), .val (.int (2 : Int32)), .val (.int ((own_upd (own_upd (own_upd (fun _ => 0) 0 p1) 1 p2) 2 p3) 2)), .val (.int (2 : Int32)), .val (.int ((own_upd (own_upd (own_upd (fun _ => 0) 0 p1) 1 p2) 2 p3) 1)), .unset, .unset] [(.ref b31)])) (fun t k => XS.aload X39.here hx rfl (Jvm.hb hby at_102) rfl rfl k) ?_
    obtain ⟨cq40, kq40, q40a, q40b, q40c⟩ := isOf hZ rfl E_b31
    obtain ⟨_, _, ⟨T40, La40, ka40, na40⟩, -, X40, ⟨Lc40, hQ40, l40, y40, z40⟩, st40⟩ := X39.virtualBack hx (y := (⟨"com/example/term_unifier/termunifier/IntStack", "size", "()I"⟩ : MethodName)) (z := (⟨"com/example/term_unifier/termunifier/IntStack", "size", "()I"⟩ : MethodName)) hown (mvT hZ (own_w hw 24 rfl)) (mvT hZ (own_w hw 25 rfl)) (notFace_of_selects (args := #[]) (mvT hZ (own_w hw 27 rfl))) (mvT hZ (own_w hw 27 rfl)) (mvT hZ (own_w hw 26 rfl)) (by decide) (backOf (W := 0) (rm5 l Z a0 hw [] b31 (1 : Int32) T39.heap n0 Zs F_b31_size) hZ (own_w hw 28 rfl) (own_w hw 2 rfl) (by decide) (by decide)) q40a q40c (g := (mkF m 104 #[.val (.int p1), .val (.int p2), .val (.int p3), .val (.int p4), .val (.int (1 : Int32)), .val (.ref b31), .val (.int p3), .val (.int p2), .val (.int (2 : Int32)), .val (.int ((own_upd (own_upd (own_upd (fun _ => 0) 0 p1) 1 p2) 2 p3) 2)), .val (.int (2 : Int32)), .val (.int ((own_upd (own_upd (own_upd (fun _ => 0) 0 p1) 1 p2) 2 p3) 1)), .unset, .unset] [(.ref b31)])) rfl (by rw [hml]; rfl) (Steps.refl _) (argsL := []) (rest := []) (lenOf pd_2 rfl) rfl (by show 2 * 0 + _ ≤ _; exact Nat.le_of_eq rfl) (Jvm.hb hby at_104) (fun _ _ => ⟨rfl, rfl, (by decide : 2 + 0 ≤ _), (by decide : 18 + 0 ≤ _)⟩)
    dsimp only [Pt.U, Pt.locs, Pt.cells, Pt.slots] at X40 l40 y40 z40 st40 hQ40
    subst l40 y40 z40
    obtain ⟨rfl, N40q, e40⟩ := hQ40
    have N40 := Fr.app N39 N40q
    refine own_go (B := T40.setTop (mkF m 107 #[.val (.int p1), .val (.int p2), .val (.int p3), .val (.int p4), .val (.int (1 : Int32)), .val (.ref b31), .val (.int p3), .val (.int p2), .val (.int (2 : Int32)), .val (.int ((own_upd (own_upd (own_upd (fun _ => 0) 0 p1) 1 p2) 2 p3) 2)), .val (.int (2 : Int32)), .val (.int ((own_upd (own_upd (own_upd (fun _ => 0) 0 p1) 1 p2) 2 p3) 1)), .unset, .unset] [(.int (1 : Int32))])) (fun t k => own_st st40 k) ?_
    refine own_go (B := T40.setTop (mkF m 109 #[.val (.int p1), .val (.int p2), .val (.int p3), .val (.int p4), .val (.int (1 : Int32)), .val (.ref b31), .val (.int p3), .val (.int p2), .val (.int (2 : Int32)), .val (.int ((own_upd (own_upd (own_upd (fun _ => 0) 0 p1) 1 p2) 2 p3) 2)), .val (.int (2 : Int32)), .val (.int ((own_upd (own_upd (own_upd (fun _ => 0) 0 p1) 1 p2) 2 p3) 1)), .val (.int (1 : Int32)), .unset] [])) (fun t k => XS.istore X40.here hx rfl (Jvm.hb hby at_107) rfl (l' := #[.val (.int p1), .val (.int p2), .val (.int p3), .val (.int p4), .val (.int (1 : Int32)), .val (.ref b31), .val (.int p3), .val (.int p2), .val (.int (2 : Int32)), .val (.int ((own_upd (own_upd (own_upd (fun _ => 0) 0 p1) 1 p2) 2 p3) 2)), .val (.int (2 : Int32)), .val (.int ((own_upd (own_upd (own_upd (fun _ => 0) 0 p1) 1 p2) 2 p3) 1)), .val (.int (1 : Int32)), .unset]) rfl k) ?_
    refine own_go (B := T40.setTop (mkF m 111 #[.val (.int p1), .val (.int p2), .val (.int p3), .val (.int p4), .val (.int (1 : Int32)), .val (.ref b31), .val (.int p3), .val (.int p2), .val (.int (2 : Int32)), .val (.int ((own_upd (own_upd (own_upd (fun _ => 0) 0 p1) 1 p2) 2 p3) 2)), .val (.int (2 : Int32)), .val (.int ((own_upd (own_upd (own_upd (fun _ => 0) 0 p1) 1 p2) 2 p3) 1)), .val (.int (1 : Int32)), .unset] [(.int ((own_upd (own_upd (own_upd (fun _ => 0) 0 p1) 1 p2) 2 p3) 2))])) (fun t k => XS.iload X40.here hx rfl (Jvm.hb hby at_109) rfl k) ?_
    refine own_go (B := T40.setTop (mkF m 113 #[.val (.int p1), .val (.int p2), .val (.int p3), .val (.int p4), .val (.int (1 : Int32)), .val (.ref b31), .val (.int p3), .val (.int p2), .val (.int (2 : Int32)), .val (.int ((own_upd (own_upd (own_upd (fun _ => 0) 0 p1) 1 p2) 2 p3) 2)), .val (.int (2 : Int32)), .val (.int ((own_upd (own_upd (own_upd (fun _ => 0) 0 p1) 1 p2) 2 p3) 1)), .val (.int (1 : Int32)), .unset] [(.int p3), (.int ((own_upd (own_upd (own_upd (fun _ => 0) 0 p1) 1 p2) 2 p3) 2))])) (fun t k => XS.iload X40.here hx rfl (Jvm.hb hby at_111) rfl k) ?_
    refine own_go (B := T40.setTop (mkF m 116 #[.val (.int p1), .val (.int p2), .val (.int p3), .val (.int p4), .val (.int (1 : Int32)), .val (.ref b31), .val (.int p3), .val (.int p2), .val (.int (2 : Int32)), .val (.int ((own_upd (own_upd (own_upd (fun _ => 0) 0 p1) 1 p2) 2 p3) 2)), .val (.int (2 : Int32)), .val (.int ((own_upd (own_upd (own_upd (fun _ => 0) 0 p1) 1 p2) 2 p3) 1)), .val (.int (1 : Int32)), .unset] [])) (fun t k => XS.icmpNo X40.here hx rfl (Jvm.hb hby at_113) rfl (teq (by rfl : ((own_upd (own_upd (own_upd (fun _ => 0) 0 p1) 1 p2) 2 p3) 2) = p3)).2 k) ?_
    refine own_go (B := T40.setTop (mkF m 118 #[.val (.int p1), .val (.int p2), .val (.int p3), .val (.int p4), .val (.int (1 : Int32)), .val (.ref b31), .val (.int p3), .val (.int p2), .val (.int (2 : Int32)), .val (.int ((own_upd (own_upd (own_upd (fun _ => 0) 0 p1) 1 p2) 2 p3) 2)), .val (.int (2 : Int32)), .val (.int ((own_upd (own_upd (own_upd (fun _ => 0) 0 p1) 1 p2) 2 p3) 1)), .val (.int (1 : Int32)), .unset] [(.int (2 : Int32))])) (fun t k => XS.iload X40.here hx rfl (Jvm.hb hby at_116) rfl k) ?_
    refine own_go (B := T40.setTop (mkF m 120 #[.val (.int p1), .val (.int p2), .val (.int p3), .val (.int p4), .val (.int (1 : Int32)), .val (.ref b31), .val (.int p3), .val (.int p2), .val (.int (2 : Int32)), .val (.int ((own_upd (own_upd (own_upd (fun _ => 0) 0 p1) 1 p2) 2 p3) 2)), .val (.int (2 : Int32)), .val (.int ((own_upd (own_upd (own_upd (fun _ => 0) 0 p1) 1 p2) 2 p3) 1)), .val (.int (1 : Int32)), .unset] [(.int (2 : Int32)), (.int (2 : Int32))])) (fun t k => XS.iload X40.here hx rfl (Jvm.hb hby at_118) rfl k) ?_
    refine own_go (B := T40.setTop (mkF m 123 #[.val (.int p1), .val (.int p2), .val (.int p3), .val (.int p4), .val (.int (1 : Int32)), .val (.ref b31), .val (.int p3), .val (.int p2), .val (.int (2 : Int32)), .val (.int ((own_upd (own_upd (own_upd (fun _ => 0) 0 p1) 1 p2) 2 p3) 2)), .val (.int (2 : Int32)), .val (.int ((own_upd (own_upd (own_upd (fun _ => 0) 0 p1) 1 p2) 2 p3) 1)), .val (.int (1 : Int32)), .unset] [])) (fun t k => XS.icmpNo X40.here hx rfl (Jvm.hb hby at_120) rfl (teq (by decide : (2 : Int32) = (2 : Int32))).2 k) ?_
    refine own_go (B := T40.setTop (mkF m 125 #[.val (.int p1), .val (.int p2), .val (.int p3), .val (.int p4), .val (.int (1 : Int32)), .val (.ref b31), .val (.int p3), .val (.int p2), .val (.int (2 : Int32)), .val (.int ((own_upd (own_upd (own_upd (fun _ => 0) 0 p1) 1 p2) 2 p3) 2)), .val (.int (2 : Int32)), .val (.int ((own_upd (own_upd (own_upd (fun _ => 0) 0 p1) 1 p2) 2 p3) 1)), .val (.int (1 : Int32)), .unset] [(.int ((own_upd (own_upd (own_upd (fun _ => 0) 0 p1) 1 p2) 2 p3) 1))])) (fun t k => XS.iload X40.here hx rfl (Jvm.hb hby at_123) rfl k) ?_
    refine own_go (B := T40.setTop (mkF m 127 #[.val (.int p1), .val (.int p2), .val (.int p3), .val (.int p4), .val (.int (1 : Int32)), .val (.ref b31), .val (.int p3), .val (.int p2), .val (.int (2 : Int32)), .val (.int ((own_upd (own_upd (own_upd (fun _ => 0) 0 p1) 1 p2) 2 p3) 2)), .val (.int (2 : Int32)), .val (.int ((own_upd (own_upd (own_upd (fun _ => 0) 0 p1) 1 p2) 2 p3) 1)), .val (.int (1 : Int32)), .unset] [(.int p2), (.int ((own_upd (own_upd (own_upd (fun _ => 0) 0 p1) 1 p2) 2 p3) 1))])) (fun t k => XS.iload X40.here hx rfl (Jvm.hb hby at_125) rfl k) ?_
    refine own_go (B := T40.setTop (mkF m 130 #[.val (.int p1), .val (.int p2), .val (.int p3), .val (.int p4), .val (.int (1 : Int32)), .val (.ref b31), .val (.int p3), .val (.int p2), .val (.int (2 : Int32)), .val (.int ((own_upd (own_upd (own_upd (fun _ => 0) 0 p1) 1 p2) 2 p3) 2)), .val (.int (2 : Int32)), .val (.int ((own_upd (own_upd (own_upd (fun _ => 0) 0 p1) 1 p2) 2 p3) 1)), .val (.int (1 : Int32)), .unset] [])) (fun t k => XS.icmpNo X40.here hx rfl (Jvm.hb hby at_127) rfl (teq (by rfl : ((own_upd (own_upd (own_upd (fun _ => 0) 0 p1) 1 p2) 2 p3) 1) = p2)).2 k) ?_
    refine own_go (B := T40.setTop (mkF m 132 #[.val (.int p1), .val (.int p2), .val (.int p3), .val (.int p4), .val (.int (1 : Int32)), .val (.ref b31), .val (.int p3), .val (.int p2), .val (.int (2 : Int32)), .val (.int ((own_upd (own_upd (own_upd (fun _ => 0) 0 p1) 1 p2) 2 p3) 2)), .val (.int (2 : Int32)), .val (.int ((own_upd (own_upd (own_upd (fun _ => 0) 0 p1) 1 p2) 2 p3) 1)), .val (.int (1 : Int32)), .unset] [(.int (1 : Int32))])) (fun t k => XS.iload X40.here hx rfl (Jvm.hb hby at_130) rfl k) ?_
    refine own_go (B := T40.setTop (mkF m 134 #[.val (.int p1), .val (.int p2), .val (.int p3), .val (.int p4), .val (.int (1 : Int32)), .val (.ref b31), .val (.int p3), .val (.int p2), .val (.int (2 : Int32)), .val (.int ((own_upd (own_upd (own_upd (fun _ => 0) 0 p1) 1 p2) 2 p3) 2)), .val (.int (2 : Int32)), .val (.int ((own_upd (own_upd (own_upd (fun _ => 0) 0 p1) 1 p2) 2 p3) 1)), .val (.int (1 : Int32)), .unset] [(.int (2 : Int32)), (.int (1 : Int32))])) (fun t k => XS.iload X40.here hx rfl (Jvm.hb hby at_132) rfl k) ?_
    refine own_go (B := T40.setTop (mkF m 135 #[.val (.int p1), .val (.int p2), .val (.int p3), .val (.int p4), .val (.int (1 : Int32)), .val (.ref b31), .val (.int p3), .val (.int p2), .val (.int (2 : Int32)), .val (.int ((own_upd (own_upd (own_upd (fun _ => 0) 0 p1) 1 p2) 2 p3) 2)), .val (.int (2 : Int32)), .val (.int ((own_upd (own_upd (own_upd (fun _ => 0) 0 p1) 1 p2) 2 p3) 1)), .val (.int (1 : Int32)), .unset] [(.int (1 : Int32)), (.int (2 : Int32)), (.int (1 : Int32))])) (fun t k => XS.iconst X40.here hx rfl (Jvm.hb hby at_134) k) ?_
    refine own_go (B := T40.setTop (mkF m 136 #[.val (.int p1), .val (.int p2), .val (.int p3), .val (.int p4), .val (.int (1 : Int32)), .val (.ref b31), .val (.int p3), .val (.int p2), .val (.int (2 : Int32)), .val (.int ((own_upd (own_upd (own_upd (fun _ => 0) 0 p1) 1 p2) 2 p3) 2)), .val (.int (2 : Int32)), .val (.int ((own_upd (own_upd (own_upd (fun _ => 0) 0 p1) 1 p2) 2 p3) 1)), .val (.int (1 : Int32)), .unset] [(.int ((2 : Int32) - (1 : Int32))), (.int (1 : Int32))])) (fun t k => XS.isub X40.here hx rfl (Jvm.hb hby at_135) rfl k) ?_
    rw [show ((2 : Int32) - (1 : Int32)) = (1 : Int32) from by decide]
    refine own_go (B := T40.setTop (mkF m 139 #[.val (.int p1), .val (.int p2), .val (.int p3), .val (.int p4), .val (.int (1 : Int32)), .val (.ref b31), .val (.int p3), .val (.int p2), .val (.int (2 : Int32)), .val (.int ((own_upd (own_upd (own_upd (fun _ => 0) 0 p1) 1 p2) 2 p3) 2)), .val (.int (2 : Int32)), .val (.int ((own_upd (own_upd (own_upd (fun _ => 0) 0 p1) 1 p2) 2 p3) 1)), .val (.int (1 : Int32)), .unset] [])) (fun t k => XS.icmpNo X40.here hx rfl (Jvm.hb hby at_136) rfl (teq (by decide : (1 : Int32) = (1 : Int32))).2 k) ?_
    refine own_go (B := T40.setTop (mkF m 140 #[.val (.int p1), .val (.int p2), .val (.int p3), .val (.int p4), .val (.int (1 : Int32)), .val (.ref b31), .val (.int p3), .val (.int p2), .val (.int (2 : Int32)), .val (.int ((own_upd (own_upd (own_upd (fun _ => 0) 0 p1) 1 p2) 2 p3) 2)), .val (.int (2 : Int32)), .val (.int ((own_upd (own_upd (own_upd (fun _ => 0) 0 p1) 1 p2) 2 p3) 1)), .val (.int (1 : Int32)), .unset] [(.int (1 : Int32))])) (fun t k => XS.iconst X40.here hx rfl (Jvm.hb hby at_139) k) ?_
    refine own_go (B := T40.setTop (mkF m 144 #[.val (.int p1), .val (.int p2), .val (.int p3), .val (.int p4), .val (.int (1 : Int32)), .val (.ref b31), .val (.int p3), .val (.int p2), .val (.int (2 : Int32)), .val (.int ((own_upd (own_upd (own_upd (fun _ => 0) 0 p1) 1 p2) 2 p3) 2)), .val (.int (2 : Int32)), .val (.int ((own_upd (own_upd (own_upd (fun _ => 0) 0 p1) 1 p2) 2 p3) 1)), .val (.int (1 : Int32)), .unset] [(.int (1 : Int32))])) (fun t k => XS.goto X40.here hx rfl (pc0 := 140) (pc' := 144) rfl (Jvm.hb hby at_140) (by decide) (by decide) k) ?_
    refine own_go (B := T40.setTop (mkF m 146 #[.val (.int p1), .val (.int p2), .val (.int p3), .val (.int p4), .val (.int (1 : Int32)), .val (.ref b31), .val (.int p3), .val (.int p2), .val (.int (2 : Int32)), .val (.int ((own_upd (own_upd (own_upd (fun _ => 0) 0 p1) 1 p2) 2 p3) 2)), .val (.int (2 : Int32)), .val (.int ((own_upd (own_upd (own_upd (fun _ => 0) 0 p1) 1 p2) 2 p3) 1)), .val (.int (1 : Int32)), .val (.int (1 : Int32))] [])) (fun t k => XS.istore X40.here hx rfl (Jvm.hb hby at_144) rfl (l' := #[.val (.int p1), .val (.int p2), .val (.int p3), .val (.int p4), .val (.int (1 : Int32)), .val (.ref b31), .val (.int p3), .val (.int p2), .val (.int (2 : Int32)), .val (.int ((own_upd (own_upd (own_upd (fun _ => 0) 0 p1) 1 p2) 2 p3) 2)), .val (.int (2 : Int32)), .val (.int ((own_upd (own_upd (own_upd (fun _ => 0) 0 p1) 1 p2) 2 p3) 1)), .val (.int (1 : Int32)), .val (.int (1 : Int32))]) rfl k) ?_
    refine own_go (B := T40.setTop (mkF m 148 #[.val (.int p1), .val (.int p2), .val (.int p3), .val (.int p4), .val (.int (1 : Int32)), .val (.ref b31), .val (.int p3), .val (.int p2), .val (.int (2 : Int32)), .val (.int ((own_upd (own_upd (own_upd (fun _ => 0) 0 p1) 1 p2) 2 p3) 2)), .val (.int (2 : Int32)), .val (.int ((own_upd (own_upd (own_upd (fun _ => 0) 0 p1) 1 p2) 2 p3) 1)), .val (.int (1 : Int32)), .val (.int (1 : Int32))] [(.int (1 : Int32))])) (fun t k => XS.iload X40.here hx rfl (Jvm.hb hby at_146) rfl k) ?_
    refine own_go (B := T40.setTop (mkF m 151 #[.val (.int p1), .val (.int p2), .val (.int p3), .val (.int p4), .val (.int (1 : Int32)), .val (.ref b31), .val (.int p3), .val (.int p2), .val (.int (2 : Int32)), .val (.int ((own_upd (own_upd (own_upd (fun _ => 0) 0 p1) 1 p2) 2 p3) 2)), .val (.int (2 : Int32)), .val (.int ((own_upd (own_upd (own_upd (fun _ => 0) 0 p1) 1 p2) 2 p3) 1)), .val (.int (1 : Int32)), .val (.int (1 : Int32))] [])) (fun t k => XS.ifNo X40.here hx rfl (Jvm.hb hby at_148) rfl ((if0 _ _).trans (feq (by decide : ¬ ((1 : Int32) = (0 : Int32)))).1) k) ?_
    refine own_go (B := T40.setTop (mkF m 153 #[.val (.int p1), .val (.int p2), .val (.int p3), .val (.int p4), .val (.int (1 : Int32)), .val (.ref b31), .val (.int p3), .val (.int p2), .val (.int (2 : Int32)), .val (.int ((own_upd (own_upd (own_upd (fun _ => 0) 0 p1) 1 p2) 2 p3) 2)), .val (.int (2 : Int32)), .val (.int ((own_upd (own_upd (own_upd (fun _ => 0) 0 p1) 1 p2) 2 p3) 1)), .val (.int (1 : Int32)), .val (.int (1 : Int32))] [(.int (1 : Int32))])) (fun t k => XS.iload X40.here hx rfl (Jvm.hb hby at_151) rfl k) ?_
    refine own_go (B := T40.setTop (mkF m 156 #[.val (.int p1), .val (.int p2), .val (.int p3), .val (.int p4), .val (.int (1 : Int32)), .val (.ref b31), .val (.int p3), .val (.int p2), .val (.int (2 : Int32)), .val (.int ((own_upd (own_upd (own_upd (fun _ => 0) 0 p1) 1 p2) 2 p3) 2)), .val (.int (2 : Int32)), .val (.int ((own_upd (own_upd (own_upd (fun _ => 0) 0 p1) 1 p2) 2 p3) 1)), .val (.int (1 : Int32)), .val (.int (1 : Int32))] [])) (fun t k => XS.ifNo X40.here hx rfl (Jvm.hb hby at_153) rfl ((if0 _ _).trans (feq (by decide : ¬ ((1 : Int32) = (0 : Int32)))).1) k) ?_
    refine own_go (B := T40.setTop (mkF m 158 #[.val (.int p1), .val (.int p2), .val (.int p3), .val (.int p4), .val (.int (1 : Int32)), .val (.ref b31), .val (.int p3), .val (.int p2), .val (.int (2 : Int32)), .val (.int ((own_upd (own_upd (own_upd (fun _ => 0) 0 p1) 1 p2) 2 p3) 2)), .val (.int (2 : Int32)), .val (.int ((own_upd (own_upd (own_upd (fun _ => 0) 0 p1) 1 p2) 2 p3) 1)), .val (.int (1 : Int32)), .val (.int (1 : Int32))] [(.ref b31)])) (fun t k => XS.aload X40.here hx rfl (Jvm.hb hby at_156) rfl rfl k) ?_
    obtain ⟨cq41, kq41, q41a, q41b, q41c⟩ := isOf hZ e40 E_b31
    obtain ⟨_, _, ⟨T41, La41, ka41, na41⟩, -, X41, ⟨Lc41, hQ41, l41, y41, z41⟩, st41⟩ := X40.virtualBack hx (y := (⟨"com/example/term_unifier/termunifier/IntStack", "peek", "()I"⟩ : MethodName)) (z := (⟨"com/example/term_unifier/termunifier/IntStack", "peek", "()I"⟩ : MethodName)) hown (mvT hZ (own_w hw 29 rfl)) (mvT hZ (own_w hw 30 rfl)) (notFace_of_selects (args := #[]) (mvT hZ (own_w hw 32 rfl))) (mvT hZ (own_w hw 32 rfl)) (mvT hZ (own_w hw 31 rfl)) (by decide) (backOf (W := 0) (rm6 l Z a0 hw [] b31 b33 (1 : Int32) 0 (own_upd (own_upd (own_upd (fun _ => 0) 0 p1) 1 p2) 2 p3) T39.heap n0 Zs F_b31_items F_b31_size V_b33 (by decide) (by decide) (by decide)) hZ (own_w hw 33 rfl) (own_w hw 2 rfl) (by decide) (by decide)) q41a q41c (g := (mkF m 158 #[.val (.int p1), .val (.int p2), .val (.int p3), .val (.int p4), .val (.int (1 : Int32)), .val (.ref b31), .val (.int p3), .val (.int p2), .val (.int (2 : Int32)), .val (.int ((own_upd (own_upd (own_upd (fun _ => 0) 0 p1) 1 p2) 2 p3) 2)), .val (.int (2 : Int32)), .val (.int ((own_upd (own_upd (own_upd (fun _ => 0) 0 p1) 1 p2) 2 p3) 1)), .val (.int (1 : Int32)), .val (.int (1 : Int32))] [(.ref b31)])) rfl (by rw [hml]; rfl) (Steps.refl _) (argsL := []) (rest := []) (lenOf pd_2 rfl) rfl (by show 2 * 0 + _ ≤ _; exact Nat.le_of_eq rfl) (Jvm.hb hby at_158) (fun _ _ => ⟨rfl, e40, (by decide : 2 + 0 ≤ _), (by decide : 18 + 0 ≤ _)⟩)
    dsimp only [Pt.U, Pt.locs, Pt.cells, Pt.slots] at X41 l41 y41 z41 st41 hQ41
    subst l41 y41 z41
    obtain ⟨rfl, N41q, e41⟩ := hQ41
    have N41 := Fr.app N40 N41q
    refine own_go (B := T41.setTop (mkF m 161 #[.val (.int p1), .val (.int p2), .val (.int p3), .val (.int p4), .val (.int (1 : Int32)), .val (.ref b31), .val (.int p3), .val (.int p2), .val (.int (2 : Int32)), .val (.int ((own_upd (own_upd (own_upd (fun _ => 0) 0 p1) 1 p2) 2 p3) 2)), .val (.int (2 : Int32)), .val (.int ((own_upd (own_upd (own_upd (fun _ => 0) 0 p1) 1 p2) 2 p3) 1)), .val (.int (1 : Int32)), .val (.int (1 : Int32))] [(.int ((own_upd (own_upd (own_upd (fun _ => 0) 0 p1) 1 p2) 2 p3) 0))])) (fun t k => own_st st41 k) ?_
    refine own_go (B := T41.setTop (mkF m 162 #[.val (.int p1), .val (.int p2), .val (.int p3), .val (.int p4), .val (.int (1 : Int32)), .val (.ref b31), .val (.int p3), .val (.int p2), .val (.int (2 : Int32)), .val (.int ((own_upd (own_upd (own_upd (fun _ => 0) 0 p1) 1 p2) 2 p3) 2)), .val (.int (2 : Int32)), .val (.int ((own_upd (own_upd (own_upd (fun _ => 0) 0 p1) 1 p2) 2 p3) 1)), .val (.int (1 : Int32)), .val (.int (1 : Int32))] [(.int p1), (.int ((own_upd (own_upd (own_upd (fun _ => 0) 0 p1) 1 p2) 2 p3) 0))])) (fun t k => XS.iloadN X41.here hx rfl (Jvm.hb hby at_161) rfl k) ?_
    refine own_go (B := T41.setTop (mkF m 165 #[.val (.int p1), .val (.int p2), .val (.int p3), .val (.int p4), .val (.int (1 : Int32)), .val (.ref b31), .val (.int p3), .val (.int p2), .val (.int (2 : Int32)), .val (.int ((own_upd (own_upd (own_upd (fun _ => 0) 0 p1) 1 p2) 2 p3) 2)), .val (.int (2 : Int32)), .val (.int ((own_upd (own_upd (own_upd (fun _ => 0) 0 p1) 1 p2) 2 p3) 1)), .val (.int (1 : Int32)), .val (.int (1 : Int32))] [])) (fun t k => XS.icmpNo X41.here hx rfl (Jvm.hb hby at_162) rfl (teq (by rfl : ((own_upd (own_upd (own_upd (fun _ => 0) 0 p1) 1 p2) 2 p3) 0) = p1)).2 k) ?_
    refine own_go (B := T41.setTop (mkF m 166 #[.val (.int p1), .val (.int p2), .val (.int p3), .val (.int p4), .val (.int (1 : Int32)), .val (.ref b31), .val (.int p3), .val (.int p2), .val (.int (2 : Int32)), .val (.int ((own_upd (own_upd (own_upd (fun _ => 0) 0 p1) 1 p2) 2 p3) 2)), .val (.int (2 : Int32)), .val (.int ((own_upd (own_upd (own_upd (fun _ => 0) 0 p1) 1 p2) 2 p3) 1)), .val (.int (1 : Int32)), .val (.int (1 : Int32))] [(.int (1 : Int32))])) (fun t k => XS.iconst X41.here hx rfl (Jvm.hb hby at_165) k) ?_
    refine own_go (B := T41.setTop (mkF m 170 #[.val (.int p1), .val (.int p2), .val (.int p3), .val (.int p4), .val (.int (1 : Int32)), .val (.ref b31), .val (.int p3), .val (.int p2), .val (.int (2 : Int32)), .val (.int ((own_upd (own_upd (own_upd (fun _ => 0) 0 p1) 1 p2) 2 p3) 2)), .val (.int (2 : Int32)), .val (.int ((own_upd (own_upd (own_upd (fun _ => 0) 0 p1) 1 p2) 2 p3) 1)), .val (.int (1 : Int32)), .val (.int (1 : Int32))] [(.int (1 : Int32))])) (fun t k => XS.goto X41.here hx rfl (pc0 := 166) (pc' := 170) rfl (Jvm.hb hby at_166) (by decide) (by decide) k) ?_
    refine own_go (B := T41.setTop (mkF m 172 #[.val (.int p1), .val (.int p2), .val (.int p3), .val (.int p4), .val (.int (1 : Int32)), .val (.ref b31), .val (.int p3), .val (.int p2), .val (.int (2 : Int32)), .val (.int ((own_upd (own_upd (own_upd (fun _ => 0) 0 p1) 1 p2) 2 p3) 2)), .val (.int (2 : Int32)), .val (.int ((own_upd (own_upd (own_upd (fun _ => 0) 0 p1) 1 p2) 2 p3) 1)), .val (.int (1 : Int32)), .val (.int (1 : Int32))] [])) (fun t k => XS.istore X41.here hx rfl (Jvm.hb hby at_170) rfl (l' := #[.val (.int p1), .val (.int p2), .val (.int p3), .val (.int p4), .val (.int (1 : Int32)), .val (.ref b31), .val (.int p3), .val (.int p2), .val (.int (2 : Int32)), .val (.int ((own_upd (own_upd (own_upd (fun _ => 0) 0 p1) 1 p2) 2 p3) 2)), .val (.int (2 : Int32)), .val (.int ((own_upd (own_upd (own_upd (fun _ => 0) 0 p1) 1 p2) 2 p3) 1)), .val (.int (1 : Int32)), .val (.int (1 : Int32))]) rfl k) ?_
    refine own_go (B := T41.setTop (mkF m 195 #[.val (.int p1), .val (.int p2), .val (.int p3), .val (.int p4), .val (.int (1 : Int32)), .val (.ref b31), .val (.int p3), .val (.int p2), .val (.int (2 : Int32)), .val (.int ((own_upd (own_upd (own_upd (fun _ => 0) 0 p1) 1 p2) 2 p3) 2)), .val (.int (2 : Int32)), .val (.int ((own_upd (own_upd (own_upd (fun _ => 0) 0 p1) 1 p2) 2 p3) 1)), .val (.int (1 : Int32)), .val (.int (1 : Int32))] [])) (fun t k => XS.goto X41.here hx rfl (pc0 := 172) (pc' := 195) rfl (Jvm.hb hby at_172) (by decide) (by decide) k) ?_
    refine own_go (B := T41.setTop (mkF m 197 #[.val (.int p1), .val (.int p2), .val (.int p3), .val (.int p4), .val (.int (1 : Int32)), .val (.ref b31), .val (.int p3), .val (.int p2), .val (.int (2 : Int32)), .val (.int ((own_upd (own_upd (own_upd (fun _ => 0) 0 p1) 1 p2) 2 p3) 2)), .val (.int (2 : Int32)), .val (.int ((own_upd (own_upd (own_upd (fun _ => 0) 0 p1) 1 p2) 2 p3) 1)), .val (.int (1 : Int32)), .val (.int (1 : Int32))] [(.int (1 : Int32))])) (fun t k => XS.iload X41.here hx rfl (Jvm.hb hby at_195) rfl k) ?_
    refine own_out X41 (v := (some (.int (1 : Int32)))) (fun h => by rw [Bd.returns] at h; cases h) Bd.notSynchronized (fun fs hr => retOut X41 hx (t := .boolean) Bd.returns rfl (by first | exact Or.inl ⟨rfl, by simp, _, rfl⟩) (Jvm.hb hby at_197) hr) ?_ (by decide) (by decide)
    show own_Q0 Z p1 p2 p3 p4 h0 n0 (some (.int (1 : Int32))) T41.heap _
    rw [e41]
    exact ⟨rfl, N41⟩
set_option maxRecDepth 65536 in
set_option maxHeartbeats 40000000 in
theorem comes_1 {Post : Tables → Env → Array Value → State → Outcome → State → Prop} (hpost : ∀ tb e args s v u, (limb_1_1.after args s (.returned v) u = true ∧ limb_1_2.after args s (.returned v) u = true ∧ True) → FrameEnd s (.returned v) u (Jvm.fieldLocs frame_1_writes args s ++ Jvm.arrayLocs frame_1_arrays args s ++ Jvm.staticLocs frame_1_statics s) 16 128 → Post tb e args s (.returned v) u) :
    ArmFor flags0 classFile x code maxLocals ret World_1 tables_1 room_1 Calls_1 rest_1 Pre_1 Post := by
  intro l hfl _ _ p e ha hc hk s m args below hf hA hF happ hP
  obtain ⟨hcalls, hrest, hpre⟩ := hP
  obtain ⟨-, -, -, hnamed, -, -, -, hat⟩ := (Spec.applies_iff hf).mp happ
  obtain ⟨hg, hn⟩ := and_e (Cond.before_iff.mp (show (Jvm.Cond.and given_1 narrow_1).before args s = true from hpre))
  obtain ⟨g1a, g1b⟩ := and_e hg
  obtain ⟨g2a, g2b⟩ := and_e g1b
  obtain ⟨g3a, g3b⟩ := and_e g2b
  obtain ⟨g4a, g4b⟩ := and_e g3b
  obtain ⟨w0, w1, w2, w3, rfl⟩ : ∃ w0 w1 w2 w3 : Value, args = #[w0, w1, w2, w3] := by
    have hs : args.size = 4 := by simpa [Cond.value, given_1] using g1a
    obtain ⟨L⟩ := args
    match L, hs with
    | [w0, w1, w2, w3], _ => exact ⟨w0, w1, w2, w3, rfl⟩
  have hw := fun d (hd : d ∈ tables_1) => atoms_spec (ws := Jvm.Cond.code x code maxLocals ret :: tables_1) hat d (List.mem_cons_of_mem _ hd)
  obtain ⟨i0, ei0⟩ := is_v g2a
  obtain rfl : w0 = (.int i0) := Option.some.inj ei0
  obtain ⟨i1, ei1⟩ := is_v g3a
  obtain rfl : w1 = (.int i1) := Option.some.inj ei1
  obtain ⟨i2, ei2⟩ := is_v g4a
  obtain rfl : w2 = (.int i2) := Option.some.inj ei2
  obtain ⟨i3, ei3⟩ := is_v g4b
  obtain rfl : w3 = (.int i3) := Option.some.inj ei3
  obtain ⟨n, o, h1, h2, h3, _, L, rfl, ⟨rfl, N⟩, hq⟩ := rm0 l s _ hw tables_1 i0 i1 i2 i3 s.heap s.heap.size (Nat.le_refl _) p e ha hc hk s m _ below hf ((Spec.applies_iff_loose hf).mp happ).1 ⟨rfl, State.Warmed39.refl s, rfl⟩ trivial
  refine ⟨n, _, h1, h2, h3, hpost _ _ _ _ _ _ ⟨Cond.after_iff.mpr rfl, Cond.after_iff.mpr (eq_i res_at (Term.int_eval (1)) rfl), trivial⟩ ⟨hq.1, hq.2.1, (hq.2.2.sift fun y hy => Or.inr (N y hy)).mono (by decide) (by decide)⟩⟩
theorem main_1_1 : Claimed_1_1 := comes_1 fun _ _ _ _ _ _ h hF => ⟨h.1, hF⟩
theorem main_1_2 : Claimed_1_2 := comes_1 fun _ _ _ _ _ _ h hF => ⟨h.2.1, hF⟩
end Jvm.Pilot.@@N@@
namespace Jvm.Pilot.@@N@@
open Jvm Jvm.ClassFile Sem Op Lib Jvm.Free Jvm.Stand Jvm.Pilot.@@N@@.Jvm.D
/-! MADE BY PROGRAM (witnessworld.py) out of the Statement's table words and the real class files: 9 classes; the members and pool entries that the words name. The judged class is class 1, her method 1. -/
namespace start1
open Jvm.ClassFile
def u (s : String) : CpInfo := .utf8 (stringToUtf16 s)
/-- a pool by its gaps: so many unusable entries, then the entry; so many at the end -/
def gap : Nat → List CpInfo → List CpInfo
  | 0, r => r
  | n + 1, r => .unusable :: gap n r
def poolList (es : List (Nat × CpInfo)) (last : Nat) : List CpInfo := es.foldr (fun e r => gap e.1 (e.2 :: r)) (gap last [])
def pool (es : List (Nat × CpInfo)) (last : Nat) : Array CpInfo := ⟨poolList es last⟩
def fileOf (pool : Array CpInfo) (this : Nat) (attrs : Array Attribute := #[]) (ms : Array MethodInfo := #[]) (fl : Nat := 33) (sup : Nat := 0) (ifs : Array Nat := #[]) (fds : Array FieldInfo := #[]) : ClassFile where
  minorVersion := 0
  majorVersion := 65
  constantPool := pool
  accessFlags := fl
  thisClass := this
  superClass := sup
  interfaces := ifs
  fields := fds
  methods := ms
  attributes := attrs
def plain (name : String) (sup : Option ClassId) : Class where
  name := name
  kind := .ordinary
  loader := none
  accessFlags := 33
  super := sup
  interfaces := #[]
  cf := none
  fields := #[]
  methods := #[]
  instanceTypes := #[]
  staticTypes := #[]
  resolved := #[]
  callSites := []
  init := .initialized
  statics := none
  mirror := none

def pool0 : Array CpInfo := pool [(5, u "<init>"), (0, u "()V"), (1, .class_ 10), (1, u "java/lang/Object")] 113

def k0c0 : Code := { maxStack := 0, maxLocals := 1, code := object_method_1_code, exceptionTable := #[], attributes := #[] }
def k0m0 : Method := { name := "<init>", desc := "()V", sig := { parameters := [], returnType := none }, accessFlags := 1, code := some k0c0 }
/-- java/lang/Object -/
def k0 : Class := { plain "java/lang/Object" none with
  accessFlags := 33
  interfaces := #[]
  cf := some (fileOf pool0 8 #[] #[{ accessFlags := 1, nameIndex := 5, descriptorIndex := 6, attributes := #[] }] 33 0 #[] #[])
  fields := #[]
  methods := #[k0m0]
  instanceTypes := #[]
  staticTypes := #[]
  resolved := Array.replicate 124 none
  statics := none }

def pool1 : Array CpInfo := pool [(2, .class_ 4), (0, .nameAndType 5 6), (0, u "java/lang/Object"), (0, u "<init>"), (0, u "()V"), (0, .class_ 8), (0, u "com/example/term_unifier/termunifier/IntStack"), (0, .methodref 7 3), (0, .methodref 7 11), (0, .nameAndType 12 13), (0, u "push"), (0, u "(I)V"), (0, .methodref 7 15), (0, .nameAndType 16 17), (0, u "pop"), (0, u "()I"), (0, .methodref 7 19), (0, .nameAndType 20 17), (0, u "size"), (0, .methodref 7 22), (0, .nameAndType 23 17), (0, u "peek"), (0, .methodref 7 25), (0, .nameAndType 26 27), (0, u "isEmpty"), (0, u "()Z"), (0, .class_ 29), (0, u "com/example/term_unifier/termunifier/IntStackPopPinLaw"), (2, u "law"), (0, u "(IIII)Z")] 3

def k1m0 : Method := { name := "<init>", desc := "()V", sig := { parameters := [], returnType := none }, accessFlags := 1, code := none }
def k1c1 : Code := { maxStack := 3, maxLocals := 14, code := code, exceptionTable := #[], attributes := #[] }
def k1m1 : Method := { name := "law", desc := "(IIII)Z", sig := { parameters := [.int, .int, .int, .int], returnType := some .boolean }, accessFlags := 9, code := some k1c1 }
/-- com/example/term_unifier/termunifier/IntStackPopPinLaw -/
def k1 : Class := { plain "com/example/term_unifier/termunifier/IntStackPopPinLaw" (some 0) with
  accessFlags := 49
  interfaces := #[]
  cf := some (fileOf pool1 28 #[] #[{ accessFlags := 1, nameIndex := 5, descriptorIndex := 6, attributes := #[] }, { accessFlags := 9, nameIndex := 32, descriptorIndex := 33, attributes := #[] }] 49 2 #[] #[])
  fields := #[]
  methods := #[k1m0, k1m1]
  instanceTypes := #[]
  staticTypes := #[]
  resolved := Array.replicate 37 none
  statics := none }

def pool2 : Array CpInfo := pool [(1, .methodref 2 3), (0, .class_ 4), (0, .nameAndType 5 6), (0, u "java/lang/Object"), (0, u "<init>"), (0, u "()V"), (0, .fieldref 8 9), (0, .class_ 10), (0, .nameAndType 11 12), (0, u "com/example/term_unifier/termunifier/IntStack"), (0, u "items"), (0, u "[I"), (0, .fieldref 8 14), (0, .nameAndType 15 16), (0, u "size"), (0, u "I"), (14, u "push"), (0, u "(I)V"), (1, u "pop"), (0, u "()I"), (0, u "peek"), (2, u "isEmpty"), (0, u "()Z")] 2

def k2c0 : Code := { maxStack := 2, maxLocals := 1, code := prog_11_method_1_code, exceptionTable := #[], attributes := #[] }
def k2m0 : Method := { name := "<init>", desc := "()V", sig := { parameters := [], returnType := none }, accessFlags := 0, code := some k2c0 }
def k2c1 : Code := { maxStack := 4, maxLocals := 2, code := prog_11_method_2_code, exceptionTable := #[], attributes := #[] }
def k2m1 : Method := { name := "push", desc := "(I)V", sig := { parameters := [.int], returnType := none }, accessFlags := 0, code := some k2c1 }
def k2c2 : Code := { maxStack := 3, maxLocals := 1, code := prog_11_method_3_code, exceptionTable := #[], attributes := #[] }
def k2m2 : Method := { name := "pop", desc := "()I", sig := { parameters := [], returnType := some .int }, accessFlags := 0, code := some k2c2 }
def k2c3 : Code := { maxStack := 3, maxLocals := 1, code := prog_11_method_4_code, exceptionTable := #[], attributes := #[] }
def k2m3 : Method := { name := "peek", desc := "()I", sig := { parameters := [], returnType := some .int }, accessFlags := 0, code := some k2c3 }
def k2c4 : Code := { maxStack := 1, maxLocals := 1, code := prog_11_method_6_code, exceptionTable := #[], attributes := #[] }
def k2m4 : Method := { name := "size", desc := "()I", sig := { parameters := [], returnType := some .int }, accessFlags := 0, code := some k2c4 }
def k2c5 : Code := { maxStack := 1, maxLocals := 1, code := prog_11_method_7_code, exceptionTable := #[], attributes := #[] }
def k2m5 : Method := { name := "isEmpty", desc := "()Z", sig := { parameters := [], returnType := some .boolean }, accessFlags := 0, code := some k2c5 }
/-- com/example/term_unifier/termunifier/IntStack -/
def k2 : Class := { plain "com/example/term_unifier/termunifier/IntStack" (some 0) with
  accessFlags := 32
  interfaces := #[]
  cf := some (fileOf pool2 8 #[] #[{ accessFlags := 0, nameIndex := 5, descriptorIndex := 6, attributes := #[] }, { accessFlags := 0, nameIndex := 31, descriptorIndex := 32, attributes := #[] }, { accessFlags := 0, nameIndex := 34, descriptorIndex := 35, attributes := #[] }, { accessFlags := 0, nameIndex := 36, descriptorIndex := 35, attributes := #[] }, { accessFlags := 0, nameIndex := 15, descriptorIndex := 35, attributes := #[] }, { accessFlags := 0, nameIndex := 39, descriptorIndex := 40, attributes := #[] }] 32 2 #[] #[{ accessFlags := 2, nameIndex := 11, descriptorIndex := 12, attributes := #[] }, { accessFlags := 2, nameIndex := 15, descriptorIndex := 16, attributes := #[] }])
  fields := #[{ name := "items", type := (.array .int), accessFlags := 2, slot := 0, constantValue := 0 }, { name := "size", type := .int, accessFlags := 2, slot := 1, constantValue := 0 }]
  methods := #[k2m0, k2m1, k2m2, k2m3, k2m4, k2m5]
  instanceTypes := #[(.array .int), .int]
  staticTypes := #[]
  resolved := Array.replicate 43 none
  statics := none }

def pool3 : Array CpInfo := pool [(1, u "java/lang/Cloneable"), (0, .class_ 1), (0, u "java/lang/Object"), (0, .class_ 3)] 3

/-- java/lang/Cloneable -/
def k3 : Class := { plain "java/lang/Cloneable" (some 0) with
  accessFlags := 1537
  interfaces := #[]
  cf := some (fileOf pool3 2 #[] #[] 1537 4 #[] #[])
  fields := #[]
  methods := #[]
  instanceTypes := #[]
  staticTypes := #[]
  resolved := Array.replicate 8 none
  statics := none }

def pool4 : Array CpInfo := pool [(1, u "java/io/Serializable"), (0, .class_ 1), (0, u "java/lang/Object"), (0, .class_ 3)] 3

/-- java/io/Serializable -/
def k4 : Class := { plain "java/io/Serializable" (some 0) with
  accessFlags := 1537
  interfaces := #[]
  cf := some (fileOf pool4 2 #[] #[] 1537 4 #[] #[])
  fields := #[]
  methods := #[]
  instanceTypes := #[]
  staticTypes := #[]
  resolved := Array.replicate 8 none
  statics := none }

/-- the primitive byte -/
def k5 : Class := { plain "byte" none with kind := .primitive 'B', accessFlags := 0x411 }
/-- [B -/
def k6 : Class := { plain "[B" (some 0) with kind := .array 5 .byte, interfaces := #[3, 4], accessFlags := 1041 }

/-- the primitive int -/
def k7 : Class := { plain "int" none with kind := .primitive 'I', accessFlags := 0x411 }
/-- [I -/
def k8 : Class := { plain "[I" (some 0) with kind := .array 7 .int, interfaces := #[3, 4], accessFlags := 1041 }

def heap : Heap := #[]
def classes : Array Class := #[k0, k1, k2, k3, k4, k5, k6, k7, k8]
def interned : List (Array UInt16 × Addr) := []
def slotsUsed : Nat := 0
def theMethod : MethodId := ⟨1, 1⟩
def args0 : Array Value := #[.int 5, .int 5, .int 5, .int 5]
def aboutOver (below : List Frame) : State where
  vm := { classes := classes, interned := interned.toArray }
  heap := heap
  slotsUsed := slotsUsed
  threads := #[{ frames := .invoking theMethod args0 :: below }]
def below0 : List Frame := [.native { method := ⟨0, 0⟩, args := #[] }]
def about1 : State := aboutOver below0
def p0 : Program := .bare "" "" ""
def e0 : Env := launch0.env 0 0 0
theorem w_frames : about1.frames = Frame.invoking theMethod args0 :: below0 := rfl
set_option maxRecDepth 65536 in
theorem w_args : argsFit about1.vm theMethod args0 = true := by decide +kernel
set_option maxRecDepth 65536 in
theorem w_heap : heapFits about1 = true := by decide +kernel
set_option maxRecDepth 65536 in
theorem w_runnable : about1.curStatus? = some .runnable := by decide +kernel
set_option maxRecDepth 65536 in
theorem w_alone : about1.alone = true := by decide +kernel
set_option maxRecDepth 65536 in
theorem w_named : about1.methodNamed? x = some theMethod := by decide +kernel
set_option maxRecDepth 65536 in
theorem w_hears : about1.hears theMethod below0 = true := by decide +kernel
set_option maxRecDepth 65536 in
theorem w_ripe : about1.ripe theMethod args0 below0 = true := by decide +kernel
theorem w_running : about1.status = .running := rfl
set_option maxRecDepth 65536 in
theorem w_room : about1.hasRoom e0.platform room_1 = true :=
  launch0.hasRoom_least _ room_1 (by decide +kernel) (by decide +kernel) (by decide +kernel) (by decide +kernel) (by decide +kernel) (by decide +kernel)
theorem allAtoms_all (ts : List Jvm.Cond) (a : Array Jvm.Value) (st : Jvm.State) : (allAtoms ts).before a st = ts.all (fun c => c.before a st) := by
  induction ts with
  | nil => rfl
  | cons c t ih =>
    show (Jvm.Cond.and c (allAtoms t)).before a st = _
    rw [Jvm.Cond.before_and, ih, List.all_cons]
def words1 : List Jvm.Cond := Jvm.Cond.code x code maxLocals ret :: tables_1
/-- a 'code' word, met by the world's own term for the bytes: nothing is compared byte by byte -/
theorem code_word {y : MethodName} {bytes : ByteArray} {mx : Nat} {rt : Option FieldType} {a : Array Value} {s : State} {m : MethodId} {meth : Method} {c : Code} (h1 : s.methodNamed? y = some m) (h2 : s.vm.method? m = some meth) (h3 : meth.code = some c) (h4 : c.code = bytes)
    (h5 : (c.maxLocals == mx && c.exceptionTable.isEmpty && decide (c.maxStack ≤ mostOperands) && decide (meth.sig.returnType = rt) && !meth.locks && decide (parseMethodDescriptor y.desc = some meth.sig)) = true) : (Jvm.Cond.code y bytes mx rt).before a s = true := by
  simp only [Bool.and_eq_true, beq_iff_eq, Bool.not_eq_true', decide_eq_true_eq] at h5
  obtain ⟨⟨⟨⟨⟨g1, g2⟩, g3⟩, g4⟩, g5⟩, g6⟩ := h5
  simp [Cond.before, Cond.holds, Cond.value, h1, h2, h3, h4, g1, g2, g3, g4, g5, g6]
def isCode : Jvm.Cond → Bool
  | .code _ _ _ _ => true
  | _ => false
theorem all_split {L : List Jvm.Cond} {P : Jvm.Cond → Bool} (h1 : L.all (fun c => isCode c || P c) = true) (h2 : ∀ c ∈ L.filter isCode, P c = true) : L.all P = true := by
  refine List.all_eq_true.mpr fun c hc => ?_
  have h := List.all_eq_true.mp h1 c hc
  rcases Bool.eq_false_or_eq_true (isCode c) with hi | hi
  · exact h2 c (List.mem_filter.mpr ⟨hc, hi⟩)
  · simpa [hi] using h
set_option maxRecDepth 65536 in
theorem w_c0 : (Jvm.Cond.code x code maxLocals ret).before args0 about1 = true := code_word (m := ⟨1, 1⟩) (meth := k1m1) (c := k1c1) (by decide +kernel) rfl rfl rfl (by decide +kernel)
set_option maxRecDepth 65536 in
theorem w_c1 : (Jvm.Cond.code ({ cls := "com/example/term_unifier/termunifier/IntStack", name := "<init>", desc := "()V" } : Jvm.MethodName) prog_11_method_1_code (1 : Nat) (Option.none : Option Jvm.ClassFile.FieldType)).before args0 about1 = true := code_word (m := ⟨2, 0⟩) (meth := k2m0) (c := k2c0) (by decide +kernel) rfl rfl rfl (by decide +kernel)
set_option maxRecDepth 65536 in
theorem w_c2 : (Jvm.Cond.code ({ cls := "java/lang/Object", name := "<init>", desc := "()V" } : Jvm.MethodName) object_method_1_code (1 : Nat) (Option.none : Option Jvm.ClassFile.FieldType)).before args0 about1 = true := code_word (m := ⟨0, 0⟩) (meth := k0m0) (c := k0c0) (by decide +kernel) rfl rfl rfl (by decide +kernel)
set_option maxRecDepth 65536 in
theorem w_c3 : (Jvm.Cond.code ({ cls := "com/example/term_unifier/termunifier/IntStack", name := "push", desc := "(I)V" } : Jvm.MethodName) prog_11_method_2_code (2 : Nat) (Option.none : Option Jvm.ClassFile.FieldType)).before args0 about1 = true := code_word (m := ⟨2, 1⟩) (meth := k2m1) (c := k2c1) (by decide +kernel) rfl rfl rfl (by decide +kernel)
set_option maxRecDepth 65536 in
theorem w_c4 : (Jvm.Cond.code ({ cls := "com/example/term_unifier/termunifier/IntStack", name := "pop", desc := "()I" } : Jvm.MethodName) prog_11_method_3_code (1 : Nat) (Option.some Jvm.ClassFile.FieldType.int)).before args0 about1 = true := code_word (m := ⟨2, 2⟩) (meth := k2m2) (c := k2c2) (by decide +kernel) rfl rfl rfl (by decide +kernel)
set_option maxRecDepth 65536 in
theorem w_c5 : (Jvm.Cond.code ({ cls := "com/example/term_unifier/termunifier/IntStack", name := "size", desc := "()I" } : Jvm.MethodName) prog_11_method_6_code (1 : Nat) (Option.some Jvm.ClassFile.FieldType.int)).before args0 about1 = true := code_word (m := ⟨2, 4⟩) (meth := k2m4) (c := k2c4) (by decide +kernel) rfl rfl rfl (by decide +kernel)
set_option maxRecDepth 65536 in
theorem w_c6 : (Jvm.Cond.code ({ cls := "com/example/term_unifier/termunifier/IntStack", name := "peek", desc := "()I" } : Jvm.MethodName) prog_11_method_4_code (1 : Nat) (Option.some Jvm.ClassFile.FieldType.int)).before args0 about1 = true := code_word (m := ⟨2, 3⟩) (meth := k2m3) (c := k2c3) (by decide +kernel) rfl rfl rfl (by decide +kernel)
set_option maxRecDepth 65536 in
theorem w_c7 : (Jvm.Cond.code ({ cls := "com/example/term_unifier/termunifier/IntStack", name := "isEmpty", desc := "()Z" } : Jvm.MethodName) prog_11_method_7_code (1 : Nat) (Option.some Jvm.ClassFile.FieldType.boolean)).before args0 about1 = true := code_word (m := ⟨2, 5⟩) (meth := k2m5) (c := k2c5) (by decide +kernel) rfl rfl rfl (by decide +kernel)
def codes1 : List Jvm.Cond := [Jvm.Cond.code x code maxLocals ret, Jvm.Cond.code ({ cls := "com/example/term_unifier/termunifier/IntStack", name := "<init>", desc := "()V" } : Jvm.MethodName) prog_11_method_1_code (1 : Nat) (Option.none : Option Jvm.ClassFile.FieldType), Jvm.Cond.code ({ cls := "java/lang/Object", name := "<init>", desc := "()V" } : Jvm.MethodName) object_method_1_code (1 : Nat) (Option.none : Option Jvm.ClassFile.FieldType), Jvm.Cond.code ({ cls := "com/example/term_unifier/termunifier/IntStack", name := "push", desc := "(I)V" } : Jvm.MethodName) prog_11_method_2_code (2 : Nat) (Option.none : Option Jvm.ClassFile.FieldType), Jvm.Cond.code ({ cls := "com/example/term_unifier/termunifier/IntStack", name := "pop", desc := "()I" } : Jvm.MethodName) prog_11_method_3_code (1 : Nat) (Option.some Jvm.ClassFile.FieldType.int), Jvm.Cond.code ({ cls := "com/example/term_unifier/termunifier/IntStack", name := "size", desc := "()I" } : Jvm.MethodName) prog_11_method_6_code (1 : Nat) (Option.some Jvm.ClassFile.FieldType.int), Jvm.Cond.code ({ cls := "com/example/term_unifier/termunifier/IntStack", name := "peek", desc := "()I" } : Jvm.MethodName) prog_11_method_4_code (1 : Nat) (Option.some Jvm.ClassFile.FieldType.int), Jvm.Cond.code ({ cls := "com/example/term_unifier/termunifier/IntStack", name := "isEmpty", desc := "()Z" } : Jvm.MethodName) prog_11_method_7_code (1 : Nat) (Option.some Jvm.ClassFile.FieldType.boolean)]
set_option maxRecDepth 65536 in
theorem codes_eq : words1.filter isCode = codes1 := rfl
theorem w_codes : ∀ c ∈ words1.filter isCode, c.before args0 about1 = true := by
  rw [codes_eq]
  intro c hc
  simp only [codes1, List.mem_cons, List.not_mem_nil, or_false] at hc
  rcases hc with rfl | rfl | rfl | rfl | rfl | rfl | rfl | rfl
  · exact w_c0
  · exact w_c1
  · exact w_c2
  · exact w_c3
  · exact w_c4
  · exact w_c5
  · exact w_c6
  · exact w_c7
set_option maxRecDepth 65536 in
theorem w_t1 : (words1.take 24).all (fun c => isCode c || c.before args0 about1) = true := by decide +kernel
set_option maxRecDepth 65536 in
theorem w_t2 : (words1.drop 24).all (fun c => isCode c || c.before args0 about1) = true := by decide +kernel
theorem w_tables : (allAtoms (Jvm.Cond.code x code maxLocals ret :: tables_1)).before args0 about1 = true := by
  rw [allAtoms_all]
  show words1.all (fun c => c.before args0 about1) = true
  refine all_split ?_ w_codes
  rw [← List.take_append_drop 24 words1, List.all_append, w_t1, w_t2]
  rfl
set_option maxRecDepth 65536 in
theorem w_case : (Jvm.Cond.and given_1 narrow_1).before args0 about1 = true := by decide +kernel
theorem w_applies : (headSpec (Jvm.Cond.code x code maxLocals ret :: tables_1) room_1).applies x e0.platform about1 = true :=
  (Spec.applies_iff w_frames).mpr ⟨w_running, w_runnable, w_alone, w_named, w_hears, w_ripe, w_room, w_tables⟩
theorem atStart : AtStart classFile x code maxLocals ret World_1 tables_1 room_1 Calls_1 rest_1 Pre_1 launch0 p0 e0 about1 theMethod args0 below0 :=
  ⟨lists_1, trivial, launch0.admits_env _ _ _, launch0.least_env, fairChoices_fair.cas, fairChoices_fair.clock, w_frames, w_args, w_heap, w_applies, trivial, trivial, w_case⟩
end start1
theorem witness_1 : WitnessClaimed_1 := ⟨start1.p0, start1.e0, start1.about1, start1.theMethod, start1.args0, start1.below0, start1.atStart⟩
end Jvm.Pilot.@@N@@
