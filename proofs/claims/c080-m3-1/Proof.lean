import JvmDerived
import JvmDerived.Pilot.@@N@@Statement
import JvmDerived.Pilot.@@N@@Code
set_option linter.unusedVariables false
set_option linter.unusedSimpArgs false
namespace Jvm.Pilot.@@N@@
open Jvm Jvm.ClassFile Sem Op Lib Jvm.Free Jvm.Stand Jvm.LawKit Jvm.RoadKit Bundle Jvm.Pilot.@@N@@.Jvm.D
section Own
variable {p : Program} {l : Launch} {e : Env} {R : Room} {s : State} {m : MethodId} {args : Array Value} {below : List Frame} {meth : Method} {c : Code} {T : State} {locs : List Loc} {cells slots : Nat} {Z : State} {h h' : Heap} {a b : Addr}
/-- from A the run comes to its return, and Q holds there -/
def own_Goes (p : Program) (e : Env) (below : List Frame) (s : State) (Q : Option Value → Heap → List Loc → Prop) (kc ks : Nat) (A : State) : Prop :=
  ∃ s₂ o, Steps p.tables e below A s₂ ∧ s₂.status = .running ∧ Ended s₂ below o ∧ ∃ v L, o = .returned v ∧ Q v s₂.heap L ∧ FrameEnd s o s₂ L kc ks
theorem own_go {Q : Option Value → Heap → List Loc → Prop} {kc ks : Nat} {A B : State} (st : ∀ t, Steps p.tables e below B t → Steps p.tables e below A t) (k : own_Goes p e below s Q kc ks B) : own_Goes p e below s Q kc ks A := by
  obtain ⟨s2, o, h1, h2⟩ := k
  exact ⟨s2, o, st _ h1, h2⟩
theorem own_w {a0 : Array Value} {Z : State} (hw : ∀ d ∈ tables_1, d.before a0 Z = true) (i : Nat) {d : Jvm.Cond} (h : tables_1[i]? = some d) : d.before a0 Z = true := hw d (List.mem_of_getElem? h)
theorem own_selP {y y' : MethodName} (hs : (Cond.selects y'.cls y' y').before args s = true) (he : y.cls = y'.cls) (hpriv : s.PrivateAt y) (hinst : (Cond.instanceMethod y).before args s = true) (hy : y.cls ≠ "java/lang/invoke/MethodHandle" ∧ y.cls ≠ "java/lang/invoke/VarHandle") : (Cond.selects y.cls y y).before args s = true := by
  obtain ⟨c2, r2, m2, q1, q2, q3, q4, kP, hkP, hkPi⟩ := Cond.selects_spec hs
  exact selects_self_of_private (by rw [he]; exact findClass_of_methodNamed q3) hkP hkPi hpriv hinst hy
theorem own_st {tb : Tables} {A B t : State} (h1 : Steps tb e below A B) (k : Steps tb e below B t) : Steps tb e below A t := h1.trans k
theorem own_out {Q : Option Value → Heap → List Loc → Prop} {kc ks : Nat} {A : State} (X : Stand p l e R s m args below meth c T locs cells slots) {v : Option Value} (hv : meth.sig.returnType = none → v = none) (hlk : meth.locks = false)
    (st : ∀ fs, (∀ (f : JFrame) (acts : List Action), f.method = m → f.locked = none → f.entered = [] → (doReturn e (T.setTop f) acts v).1 = T.setFrames fs) → Steps p.tables e below A (T.setFrames fs))
    (hq : Q v T.heap locs) (hc : cells ≤ kc) (hs : slots ≤ ks) : own_Goes p e below s Q kc ks A := by
  obtain ⟨fs, hr, hrun, hended, hW, hsame⟩ := X.leave hv hlk
  exact ⟨_, _, st fs hr, hrun, hended, _, _, rfl, hq, ⟨_, rfl⟩, hW, hsame.mono hc hs⟩
theorem own_irem {tb : Tables} [Ours tb] {T target : State} {g : JFrame} (h : At T m c below) (hx : tb.exec = Jvm.exec) (hg : g.method = m) {x y : Int32} {rest : List Value} (hd : decode c.code g.pc = .ok (.irem, 1)) (hs : g.stack = .int y :: .int x :: rest) (hy : y ≠ 0)
    (hr : Steps tb e below (T.setTop { g with pc := g.pc + 1, stack := .int (x % y) :: rest }) target) : Steps tb e below (T.setTop g) target := XS.irem h hx hg hd hs hy (by rw [irem_eq_mod]; exact hr)
theorem own_lrem {tb : Tables} [Ours tb] {T target : State} {g : JFrame} (h : At T m c below) (hx : tb.exec = Jvm.exec) (hg : g.method = m) {x y : Int64} {rest : List Value} (hd : decode c.code g.pc = .ok (.lrem, 1)) (hs : g.stack = .long y :: .long x :: rest) (hy : y ≠ 0)
    (hr : Steps tb e below (T.setTop { g with pc := g.pc + 1, stack := .long (x % y) :: rest }) target) : Steps tb e below (T.setTop g) target := XS.lrem h hx hg hd hs hy (by rw [lrem_mod]; exact hr)
/-- an array of ints (bytes, booleans): its length, and what each place holds -/
def own_IA (Z : State) (h : Heap) (a : Addr) (ty : FieldType) (n : Nat) (f : Nat → Int32) : Prop := ∃ c : Cell, Arr Z h a c ty ∧ c.slots.size = n ∧ ∀ i, i < n → c.slots[i]? = some (.int (f i))
/-- an array of longs -/
def own_LA (Z : State) (h : Heap) (a : Addr) (n : Nat) (f : Nat → Int64) : Prop := ∃ c : Cell, Arr Z h a c .long ∧ c.slots.size = n ∧ ∀ i, i < n → c.slots[i]? = some (.long (f i))
def own_upd {α : Type} (f : Nat → α) (j : Nat) (x : α) (i : Nat) : α := if i = j then x else f i
theorem own_upd_hit {α : Type} (f : Nat → α) (j : Nat) (x : α) : own_upd f j x j = x := if_pos rfl
theorem own_upd_miss {α : Type} (f : Nat → α) {i j : Nat} (x : α) (q : i ≠ j) : own_upd f j x i = f i := if_neg q
section Arrays
variable {ty : FieldType} {n : Nat} {f : Nat → Int32} {fl : Nat → Int64} {sl : Nat} {v : Value} {ws : List Addr}
theorem own_IA.lt (F : own_IA Z h a ty n f) : a < h.size := by obtain ⟨c, A, -⟩ := F; exact A.lt
theorem own_LA.lt (F : own_LA Z h a n fl) : a < h.size := by obtain ⟨c, A, -⟩ := F; exact A.lt
theorem own_IA.ext (F : own_IA Z h a ty n f) (E : Ext h h') : own_IA Z h' a ty n f := by obtain ⟨c, A, r⟩ := F; exact ⟨c, A.ext E, r⟩
theorem own_LA.ext (F : own_LA Z h a n fl) (E : Ext h h') : own_LA Z h' a n fl := by obtain ⟨c, A, r⟩ := F; exact ⟨c, A.ext E, r⟩
theorem own_IA.other (F : own_IA Z h b ty n f) (W : Wr h h' a sl v) (q : b ≠ a) : own_IA Z h' b ty n f := by obtain ⟨c, A, r⟩ := F; exact ⟨c, A.other W q, r⟩
theorem own_LA.other (F : own_LA Z h b n fl) (W : Wr h h' a sl v) (q : b ≠ a) : own_LA Z h' b n fl := by obtain ⟨c, A, r⟩ := F; exact ⟨c, A.other W q, r⟩
theorem own_IA.keep (F : own_IA Z h a ty n f) (K : Keep h h' ws) (q : a ∉ ws) : own_IA Z h' a ty n f := by obtain ⟨c, A, r⟩ := F; exact ⟨c, ⟨K.2.1 a c A.1 q, A.2⟩, r⟩
theorem own_LA.keep (F : own_LA Z h a n fl) (K : Keep h h' ws) (q : a ∉ ws) : own_LA Z h' a n fl := by obtain ⟨c, A, r⟩ := F; exact ⟨c, ⟨K.2.1 a c A.1 q, A.2⟩, r⟩
theorem own_IA.cong {g : Nat → Int32} (F : own_IA Z h a ty n f) (q : ∀ i, i < n → f i = g i) : own_IA Z h a ty n g := by obtain ⟨c, A, r, u⟩ := F; exact ⟨c, A, r, fun i hi => by rw [u i hi, q i hi]⟩
theorem own_LA.cong {g : Nat → Int64} (F : own_LA Z h a n fl) (q : ∀ i, i < n → fl i = g i) : own_LA Z h a n g := by obtain ⟨c, A, r, u⟩ := F; exact ⟨c, A, r, fun i hi => by rw [u i hi, q i hi]⟩
theorem own_in {cl : Cell} {j : Int32} {k : Nat} (S : cl.slots.size = n) (h1 : ¬ j < 0) (hk : j.toNatClampNeg = k) (h2 : k < n) : ¬ (j < 0 ∨ cl.slots.size ≤ j.toNatClampNeg) := by
  rintro (q | q)
  · exact h1 q
  · rw [S, hk] at q; exact absurd h2 (Nat.not_lt.mpr q)
theorem own_set {cl : Cell} {k : Nat} (S : cl.slots.size = n) (h2 : k < n) (v : Value) (i : Nat) : (cl.setSlot k v).slots[i]? = if i = k then some v else cl.slots[i]? := by
  by_cases q : i = k
  · subst q; rw [if_pos rfl]; exact Array.getElem?_setIfInBounds_self_of_lt (by rw [S]; exact h2)
  · rw [if_neg q]; exact Array.getElem?_setIfInBounds_ne (fun z => q z.symm)
theorem own_Inew {k : ClassId} {z : Int32} (A : Arr Z h a (newA k ty z) ty) (hz : z.toNatClampNeg = n) (hd : defaultValue ty = .int 0) : own_IA Z h a ty n (fun _ => 0) := by
  refine ⟨_, A, by rw [sz_new, hz], fun i hi => ?_⟩
  show (Array.replicate z.toNatClampNeg (defaultValue ty))[i]? = _
  rw [hz, hd, Array.getElem?_replicate, if_pos hi]
theorem own_Lnew {k : ClassId} {z : Int32} (A : Arr Z h a (newA k .long z) .long) (hz : z.toNatClampNeg = n) : own_LA Z h a n (fun _ => 0) := by
  refine ⟨_, A, by rw [sz_new, hz], fun i hi => ?_⟩
  show (Array.replicate z.toNatClampNeg (defaultValue .long))[i]? = _
  rw [hz, Array.getElem?_replicate, if_pos hi]; rfl
theorem own_iaload (X : Stand p l e R s m args below meth c T locs cells slots) (hx : p.tables.exec = Jvm.exec) (hZ : Z.Warmed39 s.vm) (eT : T.heap = h) (V : own_IA Z h a .int n f) {j : Int32} {k : Nat} (h1 : ¬ j < 0) (hk : j.toNatClampNeg = k) (h2 : k < n) {pc : Nat} {Ls : Array Slot} {rest : List Value} (hd : decode c.code pc = .ok (.iaload, 1)) (t : State)
    (kk : Steps p.tables e below (T.setTop (mkF m (pc + 1) Ls (.int (f k) :: rest))) t) : Steps p.tables e below (T.setTop (mkF m pc Ls (.int j :: .ref a :: rest))) t := by
  obtain ⟨cl, A, S, H⟩ := V
  exact X.iaload hx (j := j) (v := .int (f k)) (by rw [eT]; exact A.1) (State.isArrayOf_alike hZ.alike A.2.1) A.2.2 (own_in S h1 hk h2) (by rw [hk]; exact H _ h2) (g := mkF m pc Ls (.int j :: .ref a :: rest)) rfl rfl hd t kk
theorem own_baload (X : Stand p l e R s m args below meth c T locs cells slots) (hx : p.tables.exec = Jvm.exec) (hZ : Z.Warmed39 s.vm) (eT : T.heap = h) (V : own_IA Z h a .byte n f) {j : Int32} {k : Nat} (h1 : ¬ j < 0) (hk : j.toNatClampNeg = k) (h2 : k < n) {pc : Nat} {Ls : Array Slot} {rest : List Value} (hd : decode c.code pc = .ok (.baload, 1)) (t : State)
    (kk : Steps p.tables e below (T.setTop (mkF m (pc + 1) Ls (.int (f k) :: rest))) t) : Steps p.tables e below (T.setTop (mkF m pc Ls (.int j :: .ref a :: rest))) t := by
  obtain ⟨cl, A, S, H⟩ := V
  exact X.baloadBytes hx (j := j) (v := .int (f k)) (by rw [eT]; exact A.1) (State.isArrayOf_alike hZ.alike A.2.1) A.2.2 (own_in S h1 hk h2) (by rw [hk]; exact H _ h2) (g := mkF m pc Ls (.int j :: .ref a :: rest)) rfl rfl hd t kk
theorem own_laload (X : Stand p l e R s m args below meth c T locs cells slots) (hx : p.tables.exec = Jvm.exec) (hZ : Z.Warmed39 s.vm) (eT : T.heap = h) (V : own_LA Z h a n fl) {j : Int32} {k : Nat} (h1 : ¬ j < 0) (hk : j.toNatClampNeg = k) (h2 : k < n) {pc : Nat} {Ls : Array Slot} {rest : List Value} (hd : decode c.code pc = .ok (.laload, 1)) (t : State)
    (kk : Steps p.tables e below (T.setTop (mkF m (pc + 1) Ls (.long (fl k) :: rest))) t) : Steps p.tables e below (T.setTop (mkF m pc Ls (.int j :: .ref a :: rest))) t := by
  obtain ⟨cl, A, S, H⟩ := V
  exact X.laload hx (j := j) (v := .long (fl k)) (by rw [eT]; exact A.1) (State.isArrayOf_alike hZ.alike A.2.1) A.2.2 (own_in S h1 hk h2) (by rw [hk]; exact H _ h2) (g := mkF m pc Ls (.int j :: .ref a :: rest)) rfl rfl hd t kk
theorem own_alen (X : Stand p l e R s m args below meth c T locs cells slots) (hx : p.tables.exec = Jvm.exec) (hZ : Z.Warmed39 s.vm) (eT : T.heap = h) (V : own_IA Z h a ty n f) {z : Int32} (hl : n.toInt32 = z) {pc : Nat} {Ls : Array Slot} {rest : List Value} (hd : decode c.code pc = .ok (.arraylength, 1)) (t : State)
    (kk : Steps p.tables e below (T.setTop (mkF m (pc + 1) Ls (.int z :: rest))) t) : Steps p.tables e below (T.setTop (mkF m pc Ls (.ref a :: rest))) t := by
  obtain ⟨cl, A, S, H⟩ := V
  exact X.arraylength hx (by rw [eT]; exact A.1) (State.isArrayOf_alike hZ.alike A.2.1) (g := mkF m pc Ls (.ref a :: rest)) rfl rfl hd t (by rw [S, hl]; exact kk)
theorem own_alenL (X : Stand p l e R s m args below meth c T locs cells slots) (hx : p.tables.exec = Jvm.exec) (hZ : Z.Warmed39 s.vm) (eT : T.heap = h) (V : own_LA Z h a n fl) {z : Int32} (hl : n.toInt32 = z) {pc : Nat} {Ls : Array Slot} {rest : List Value} (hd : decode c.code pc = .ok (.arraylength, 1)) (t : State)
    (kk : Steps p.tables e below (T.setTop (mkF m (pc + 1) Ls (.int z :: rest))) t) : Steps p.tables e below (T.setTop (mkF m pc Ls (.ref a :: rest))) t := by
  obtain ⟨cl, A, S, H⟩ := V
  exact X.arraylength hx (by rw [eT]; exact A.1) (State.isArrayOf_alike hZ.alike A.2.1) (g := mkF m pc Ls (.ref a :: rest)) rfl rfl hd t (by rw [S, hl]; exact kk)
theorem own_iastore (X : Stand p l e R s m args below meth c T locs cells slots) (hx : p.tables.exec = Jvm.exec) (hZ : Z.Warmed39 s.vm) (eT : T.heap = h) (V : own_IA Z h a .int n f) {j x : Int32} {k : Nat} (h1 : ¬ j < 0) (hk : j.toNatClampNeg = k) (h2 : k < n) {g : JFrame} (hg : g.method = m) {rest : List Value} (hs : g.stack = .int x :: .int j :: .ref a :: rest) (hd : decode c.code g.pc = .ok (.iastore, 1)) :
    ∃ T' h', Stand p l e R s m args below meth c T' (locs ++ [⟨a, k⟩]) cells slots ∧ T'.heap = h' ∧ Wr h h' a k (.int x) ∧ own_IA Z h' a .int n (own_upd f k x) ∧ ∀ target, Steps p.tables e below (T'.setTop { g with pc := g.pc + 1, stack := rest }) target → Steps p.tables e below (T.setTop g) target := by
  obtain ⟨cl, A, S, H⟩ := V
  obtain ⟨T', h', X', e', W, st⟩ := stI X hx hZ eT A (own_in S h1 hk h2) hg hs hd
  rw [hk] at X' W
  refine ⟨T', h', X', e', W, ⟨_, A.same W, by rw [sz_set, S], fun i hi => ?_⟩, st⟩
  rw [own_set S h2]; unfold own_upd
  by_cases q : i = k
  · rw [if_pos q, if_pos q]
  · rw [if_neg q, if_neg q]; exact H i hi
theorem own_bastore (X : Stand p l e R s m args below meth c T locs cells slots) (hx : p.tables.exec = Jvm.exec) (hZ : Z.Warmed39 s.vm) (eT : T.heap = h) (V : own_IA Z h a .byte n f) {j x : Int32} {k : Nat} (h1 : ¬ j < 0) (hk : j.toNatClampNeg = k) (h2 : k < n) {g : JFrame} (hg : g.method = m) {rest : List Value} (hs : g.stack = .int x :: .int j :: .ref a :: rest) (hd : decode c.code g.pc = .ok (.bastore, 1)) :
    ∃ T' h', Stand p l e R s m args below meth c T' (locs ++ [⟨a, k⟩]) cells slots ∧ T'.heap = h' ∧ Wr h h' a k (.int x.toInt8.toInt32) ∧ own_IA Z h' a .byte n (own_upd f k x.toInt8.toInt32) ∧ ∀ target, Steps p.tables e below (T'.setTop { g with pc := g.pc + 1, stack := rest }) target → Steps p.tables e below (T.setTop g) target := by
  obtain ⟨cl, A, S, H⟩ := V
  obtain ⟨T', h', X', e', W, st⟩ := stB X hx hZ eT A (own_in S h1 hk h2) hg hs hd
  rw [hk] at X' W
  refine ⟨T', h', X', e', W, ⟨_, A.same W, by rw [sz_set, S], fun i hi => ?_⟩, st⟩
  rw [own_set S h2]; unfold own_upd
  by_cases q : i = k
  · rw [if_pos q, if_pos q]; rfl
  · rw [if_neg q, if_neg q]; exact H i hi
theorem own_lastore (X : Stand p l e R s m args below meth c T locs cells slots) (hx : p.tables.exec = Jvm.exec) (hZ : Z.Warmed39 s.vm) (eT : T.heap = h) (V : own_LA Z h a n fl) {j : Int32} {x : Int64} {k : Nat} (h1 : ¬ j < 0) (hk : j.toNatClampNeg = k) (h2 : k < n) {g : JFrame} (hg : g.method = m) {rest : List Value} (hs : g.stack = .long x :: .int j :: .ref a :: rest) (hd : decode c.code g.pc = .ok (.lastore, 1)) :
    ∃ T' h', Stand p l e R s m args below meth c T' (locs ++ [⟨a, k⟩]) cells slots ∧ T'.heap = h' ∧ Wr h h' a k (.long x) ∧ own_LA Z h' a n (own_upd fl k x) ∧ ∀ target, Steps p.tables e below (T'.setTop { g with pc := g.pc + 1, stack := rest }) target → Steps p.tables e below (T.setTop g) target := by
  obtain ⟨cl, A, S, H⟩ := V
  obtain ⟨T', h', X', e', W, st⟩ := stJ X hx hZ eT A (own_in S h1 hk h2) hg hs hd
  rw [hk] at X' W
  refine ⟨T', h', X', e', W, ⟨_, A.same W, by rw [sz_set, S], fun i hi => ?_⟩, st⟩
  rw [own_set S h2]; unfold own_upd
  by_cases q : i = k
  · rw [if_pos q, if_pos q]
  · rw [if_neg q, if_neg q]; exact H i hi
theorem own_clone (X : Stand p l e R s m args below meth c T locs cells slots) (hx : p.tables.exec = Jvm.exec) (hZ : Z.Warmed39 s.vm) {a0 : Array Value} {own ad : String} {index : Nat} (hown : s.vm.findClass own = some m.cls)
    (w1 : (Cond.methodLink own index ⟨ad, "clone", "()Ljava/lang/Object;"⟩).before a0 Z = true) (w2 : (Cond.sameMethod ad "java/lang/Object" "clone" "()Ljava/lang/Object;").before a0 Z = true) (w3 : (Cond.native ⟨"java/lang/Object", "clone", "()Ljava/lang/Object;"⟩).before a0 Z = true)
    (w4 : (Cond.instanceMethod ⟨"java/lang/Object", "clone", "()Ljava/lang/Object;"⟩).before a0 Z = true) (w5 : (Cond.selects ad ⟨ad, "clone", "()Ljava/lang/Object;"⟩ ⟨"java/lang/Object", "clone", "()Ljava/lang/Object;"⟩).before a0 Z = true) (w6 : (Cond.castable ad "java/lang/Cloneable").before a0 Z = true)
    (eT : T.heap = h) (V : own_IA Z h a .int n f) (E : Exa Z h a ad) {g : JFrame} (hg : g.method = m) (hsize : g.locals.size = c.maxLocals) {rest : List Value} (hst : g.stack = .ref a :: rest) (hd : decode c.code g.pc = .ok (.invokevirtual index, 3))
    (hf : 1 ≤ R.frames) {W cap : Nat} (hW : 2 * g.monitorRoom + (rest.map fun v => v.category).sum ≤ W) (hl : W + 14 ≤ R.locals) (hcap : n ≤ cap) (hc : cells + 1 ≤ R.cells) (hsl : slots + cap ≤ R.slots) :
    ∃ T' h', Stand p l e R s m args below meth c T' locs (cells + 1) (slots + cap) ∧ T'.heap = h' ∧ Ext h h' ∧ own_IA Z h' h.size .int n f ∧ Exa Z h' h.size ad ∧
      ∀ target, Steps p.tables e below (T'.setTop { g with pc := g.pc + 3, stack := .ref h.size :: rest }) target → Steps p.tables e below (T.setTop g) target := by
  obtain ⟨cl, A, S, H⟩ := V
  have FC : FitC Z cl := fitC_of A fun i hi v hv => by rw [H i (by rw [← S]; exact hi)] at hv; cases hv; rfl
  obtain ⟨T', h', X', e', ex, A', E', st⟩ := cloneA X hx hZ hown w1 w2 w3 w4 w5 w6 eT A E FC hg hsize hst hd hf hW hl (by rw [S]; exact hcap) hc hsl
  exact ⟨T', h', X', e', ex, ⟨cloneOf cl, A', S, H⟩, E', st⟩
end Arrays
end Own
def own_f1 (sl : Int64) (tb : Int64) : Int64 := ((((20 : Int64) + ((9 : Int64) * sl)) + tb) + (4 : Int64))
theorem pn_com_example_branchwise_branchwise_DictionaryFile : plainName "com/example/branchwise/branchwise/DictionaryFile" = true := by first | (simp [plainName, overriddenIn]; done) | decide +kernel
theorem d1_0 : decode prog_11_method_2_code 0 = .ok (.ldc2_w 11, 3) := by decide +kernel
theorem d1_3 : decode prog_11_method_2_code 3 = .ok (.ldc2_w 13, 3) := by decide +kernel
theorem d1_6 : decode prog_11_method_2_code 6 = .ok (.lload_n 0, 1) := by decide +kernel
theorem d1_7 : decode prog_11_method_2_code 7 = .ok (.lmul, 1) := by decide +kernel
theorem d1_8 : decode prog_11_method_2_code 8 = .ok (.ladd, 1) := by decide +kernel
theorem d1_9 : decode prog_11_method_2_code 9 = .ok (.lload_n 2, 1) := by decide +kernel
theorem d1_10 : decode prog_11_method_2_code 10 = .ok (.ladd, 1) := by decide +kernel
theorem d1_11 : decode prog_11_method_2_code 11 = .ok (.ldc2_w 15, 3) := by decide +kernel
theorem d1_14 : decode prog_11_method_2_code 14 = .ok (.ladd, 1) := by decide +kernel
theorem d1_15 : decode prog_11_method_2_code 15 = .ok (.lreturn, 1) := by decide +kernel
theorem ef_1 (m : MethodId) (x0 : Int64) (x1 : Int64) : entryFrame m #[(.long x0), (.long x1)] 4 = mkF m 0 #[.val (.long x0), .second, .val (.long x1), .second] [] := by first | (simp [entryFrame, mkF, argsToLocals, Value.category]; done) | rfl
def own_Q1 (Z : State) (sl : Int64) (tb : Int64) (h0 : Heap) (n0 : Nat) (v : Option Value) (h : Heap) (L : List Loc) : Prop := v = some (.long (own_f1 sl tb)) ∧ Fr n0 L ∧ h = h0
set_option maxRecDepth 65536 in
set_option maxHeartbeats 40000000 in
theorem rm1 (l : Launch) (Z : State) (a0 : Array Value) (hw : ∀ d ∈ tables_1, d.before a0 Z = true) (ws : List Jvm.Cond) (sl : Int64) (tb : Int64) (h0 : Heap) (n0 : Nat) (Z0 : n0 ≤ h0.size)  :
    MetFree l (⟨"com/example/branchwise/branchwise/DictionaryFile", "size", "(JJ)J"⟩ : MethodName) (head1 (Jvm.Cond.code (⟨"com/example/branchwise/branchwise/DictionaryFile", "size", "(JJ)J"⟩ : MethodName) prog_11_method_2_code 4 (some .long) :: ws) ({ frames := 0, cells := 0, slots := 0, locals := 0 } : Room)) (fun a U => a = #[(.long sl), (.long tb)] ∧ Z.Warmed39 U.vm ∧ U.heap = h0) (fun _ _ _ _ _ => True) (fun _ U o U' => ∃ v L, o = .returned v ∧ own_Q1 Z sl tb h0 n0 v U'.heap L ∧ FrameEnd U o U' L ({ frames := 0, cells := 0, slots := 0, locals := 0 } : Room).cells ({ frames := 0, cells := 0, slots := 0, locals := 0 } : Room).slots) := by
  refine MetFree.of_bodySF (plainFor_of_name pn_com_example_branchwise_branchwise_DictionaryFile) hisR ?_
  intro p e s m args below meth c s₁ Bd hml0 hP hK
  obtain ⟨rfl, hZ, hh⟩ := hP
  have hx := Bd.exec
  have hby := Bd.bytes
  have hml : c.maxLocals = 4 := hml0
  have hown : s.vm.findClass "com/example/branchwise/branchwise/DictionaryFile" = some m.cls := findClass_of_methodNamed Bd.named
  have hnm := (name_of_methodNamed Bd.named Bd.method).1
  have X0 : Stand p l e ({ frames := 0, cells := 0, slots := 0, locals := 0 } : Room) s m #[(.long sl), (.long tb)] below meth c s₁ [] 0 0 := Stand.of_body Bd
  have e0 : s₁.heap = h0 := by rw [← hh, Bd.state]; rfl
  have N0 := Fr.nil n0
  have Zs := Z0
  show own_Goes p e below s (own_Q1 Z sl tb h0 n0) ({ frames := 0, cells := 0, slots := 0, locals := 0 } : Room).cells ({ frames := 0, cells := 0, slots := 0, locals := 0 } : Room).slots _
  refine own_go (B := s₁.setTop (mkF m 0 #[.val (.long sl), .second, .val (.long tb), .second] [])) (fun t k => castTop (ef_1 m sl tb) k) ?_
  refine own_go (B := s₁.setTop (mkF m 3 #[.val (.long sl), .second, .val (.long tb), .second] [(.long (20 : Int64))])) (fun t k => X0.ldc2Long hx hown (mvT hZ (own_w hw 6 rfl)) (g := (mkF m 0 #[.val (.long sl), .second, .val (.long tb), .second] [])) rfl (hb hby d1_0) _ k) ?_
  refine own_go (B := s₁.setTop (mkF m 6 #[.val (.long sl), .second, .val (.long tb), .second] [(.long (9 : Int64)), (.long (20 : Int64))])) (fun t k => X0.ldc2Long hx hown (mvT hZ (own_w hw 7 rfl)) (g := (mkF m 3 #[.val (.long sl), .second, .val (.long tb), .second] [(.long (20 : Int64))])) rfl (hb hby d1_3) _ k) ?_
  refine own_go (B := s₁.setTop (mkF m 7 #[.val (.long sl), .second, .val (.long tb), .second] [(.long sl), (.long (9 : Int64)), (.long (20 : Int64))])) (fun t k => XS.lloadN X0.here hx rfl (hb hby d1_6) rfl k) ?_
  refine own_go (B := s₁.setTop (mkF m 8 #[.val (.long sl), .second, .val (.long tb), .second] [(.long ((9 : Int64) * sl)), (.long (20 : Int64))])) (fun t k => XS.lmul X0.here hx rfl (hb hby d1_7) rfl k) ?_
  refine own_go (B := s₁.setTop (mkF m 9 #[.val (.long sl), .second, .val (.long tb), .second] [(.long ((20 : Int64) + ((9 : Int64) * sl)))])) (fun t k => XS.ladd X0.here hx rfl (hb hby d1_8) rfl k) ?_
  refine own_go (B := s₁.setTop (mkF m 10 #[.val (.long sl), .second, .val (.long tb), .second] [(.long tb), (.long ((20 : Int64) + ((9 : Int64) * sl)))])) (fun t k => XS.lloadN X0.here hx rfl (hb hby d1_9) rfl k) ?_
  refine own_go (B := s₁.setTop (mkF m 11 #[.val (.long sl), .second, .val (.long tb), .second] [(.long (((20 : Int64) + ((9 : Int64) * sl)) + tb))])) (fun t k => XS.ladd X0.here hx rfl (hb hby d1_10) rfl k) ?_
  refine own_go (B := s₁.setTop (mkF m 14 #[.val (.long sl), .second, .val (.long tb), .second] [(.long (4 : Int64)), (.long (((20 : Int64) + ((9 : Int64) * sl)) + tb))])) (fun t k => X0.ldc2Long hx hown (mvT hZ (own_w hw 8 rfl)) (g := (mkF m 11 #[.val (.long sl), .second, .val (.long tb), .second] [(.long (((20 : Int64) + ((9 : Int64) * sl)) + tb))])) rfl (hb hby d1_11) _ k) ?_
  refine own_go (B := s₁.setTop (mkF m 15 #[.val (.long sl), .second, .val (.long tb), .second] [(.long ((((20 : Int64) + ((9 : Int64) * sl)) + tb) + (4 : Int64)))])) (fun t k => XS.ladd X0.here hx rfl (hb hby d1_14) rfl k) ?_
  refine own_out X0 (v := (some (.long ((((20 : Int64) + ((9 : Int64) * sl)) + tb) + (4 : Int64))))) (fun h => by rw [Bd.returns] at h; cases h) Bd.notSynchronized (fun fs hr => retOut X0 hx (t := .long) Bd.returns rfl (Or.inr (Or.inl ⟨rfl, rfl, _, rfl⟩)) (hb hby d1_15) hr) ?_ (by decide) (by decide)
  show own_Q1 Z sl tb h0 n0 (some (.long ((((20 : Int64) + ((9 : Int64) * sl)) + tb) + (4 : Int64)))) s₁.heap _
  rw [e0]
  exact ⟨congrArg (fun z => some (Value.long z)) (rfl), N0, rfl⟩
theorem own_e1 (a b : Int64) : own_f1 a b = (((((((20 : Int64) + a) + ((4 : Int64) * a)) + ((4 : Int64) * a)) + b) + (4 : Int64))) := by
  unfold own_f1; grind
theorem own_e2 (a b c d : Int64) : own_f1 (a + c) (b + d) = ((own_f1 a b + own_f1 c d) - own_f1 (0 : Int64) (0 : Int64)) := by
  unfold own_f1; grind
theorem pn_com_example_branchwise_branchwise_DictionaryFileSizePinLaw : plainName "com/example/branchwise/branchwise/DictionaryFileSizePinLaw" = true := by first | (simp [plainName, overriddenIn]; done) | decide +kernel
theorem pd_0 : parseMethodDescriptor "(JJ)J" = some ⟨[.long, .long], some .long⟩ := by decide +kernel
theorem ef_0 (m : MethodId) (x0 : Int64) (x1 : Int64) (x2 : Int64) (x3 : Int64) : entryFrame m #[(.long x0), (.long x1), (.long x2), (.long x3)] maxLocals = mkF m 0 #[.val (.long x0), .second, .val (.long x1), .second, .val (.long x2), .second, .val (.long x3), .second, .unset, .unset, .unset, .unset, .unset, .unset, .unset, .unset, .unset, .unset, .unset, .unset, .unset, .unset, .unset, .unset, .unset] [] := by first | (simp [entryFrame, mkF, argsToLocals, Value.category, maxLocals]; done) | rfl
def own_Q0 (Z : State) (q1 : Int64) (q2 : Int64) (q3 : Int64) (q4 : Int64) (h0 : Heap) (n0 : Nat) (v : Option Value) (h : Heap) (L : List Loc) : Prop := v = some (.int 1) ∧ Fr n0 L
set_option maxRecDepth 65536 in
set_option maxHeartbeats 40000000 in
theorem rm0 (l : Launch) (Z : State) (a0 : Array Value) (hw : ∀ d ∈ tables_1, d.before a0 Z = true) (ws : List Jvm.Cond) (q1 : Int64) (q2 : Int64) (q3 : Int64) (q4 : Int64) (h0 : Heap) (n0 : Nat) (Z0 : n0 ≤ h0.size)  :
    MetFree l x (head1 (Jvm.Cond.code x code maxLocals ret :: ws) room_1) (fun a U => a = #[(.long q1), (.long q2), (.long q3), (.long q4)] ∧ Z.Warmed39 U.vm ∧ U.heap = h0) (fun _ _ _ _ _ => True) (fun _ U o U' => ∃ v L, o = .returned v ∧ own_Q0 Z q1 q2 q3 q4 h0 n0 v U'.heap L ∧ FrameEnd U o U' L room_1.cells room_1.slots) := by
  refine MetFree.of_bodySF (plainFor_of_name pn_com_example_branchwise_branchwise_DictionaryFileSizePinLaw) hisR ?_
  intro p e s m args below meth c s₁ Bd hml0 hP hK
  obtain ⟨rfl, hZ, hh⟩ := hP
  have hx := Bd.exec
  have hby := Bd.bytes
  have hml : c.maxLocals = 25 := hml0
  have hown : s.vm.findClass "com/example/branchwise/branchwise/DictionaryFileSizePinLaw" = some m.cls := findClass_of_methodNamed Bd.named
  have hnm := (name_of_methodNamed Bd.named Bd.method).1
  have X0 : Stand p l e room_1 s m #[(.long q1), (.long q2), (.long q3), (.long q4)] below meth c s₁ [] 0 0 := Stand.of_body Bd
  have e0 : s₁.heap = h0 := by rw [← hh, Bd.state]; rfl
  have N0 := Fr.nil n0
  have Zs := Z0
  show own_Goes p e below s (own_Q0 Z q1 q2 q3 q4 h0 n0) room_1.cells room_1.slots _
  refine own_go (B := s₁.setTop (mkF m 0 #[.val (.long q1), .second, .val (.long q2), .second, .val (.long q3), .second, .val (.long q4), .second, .unset, .unset, .unset, .unset, .unset, .unset, .unset, .unset, .unset, .unset, .unset, .unset, .unset, .unset, .unset, .unset, .unset] [])) (fun t k => castTop (ef_0 m q1 q2 q3 q4) k) ?_
  refine own_go (B := s₁.setTop (mkF m 3 #[.val (.long q1), .second, .val (.long q2), .second, .val (.long q3), .second, .val (.long q4), .second, .unset, .unset, .unset, .unset, .unset, .unset, .unset, .unset, .unset, .unset, .unset, .unset, .unset, .unset, .unset, .unset, .unset] [(.long (20 : Int64))])) (fun t k => X0.ldc2Long hx hown (mvT hZ (own_w hw 0 rfl)) (g := (mkF m 0 #[.val (.long q1), .second, .val (.long q2), .second, .val (.long q3), .second, .val (.long q4), .second, .unset, .unset, .unset, .unset, .unset, .unset, .unset, .unset, .unset, .unset, .unset, .unset, .unset, .unset, .unset, .unset, .unset] [])) rfl (hb hby at_0) _ k) ?_
  refine own_go (B := s₁.setTop (mkF m 4 #[.val (.long q1), .second, .val (.long q2), .second, .val (.long q3), .second, .val (.long q4), .second, .unset, .unset, .unset, .unset, .unset, .unset, .unset, .unset, .unset, .unset, .unset, .unset, .unset, .unset, .unset, .unset, .unset] [(.long q1), (.long (20 : Int64))])) (fun t k => XS.lloadN X0.here hx rfl (hb hby at_3) rfl k) ?_
  refine own_go (B := s₁.setTop (mkF m 5 #[.val (.long q1), .second, .val (.long q2), .second, .val (.long q3), .second, .val (.long q4), .second, .unset, .unset, .unset, .unset, .unset, .unset, .unset, .unset, .unset, .unset, .unset, .unset, .unset, .unset, .unset, .unset, .unset] [(.long ((20 : Int64) + q1))])) (fun t k => XS.ladd X0.here hx rfl (hb hby at_4) rfl k) ?_
  refine own_go (B := s₁.setTop (mkF m 7 #[.val (.long q1), .second, .val (.long q2), .second, .val (.long q3), .second, .val (.long q4), .second, .val (.long ((20 : Int64) + q1)), .second, .unset, .unset, .unset, .unset, .unset, .unset, .unset, .unset, .unset, .unset, .unset, .unset, .unset, .unset, .unset] [])) (fun t k => XS.lstore X0.here hx rfl (hb hby at_5) rfl (l' := #[.val (.long q1), .second, .val (.long q2), .second, .val (.long q3), .second, .val (.long q4), .second, .val (.long ((20 : Int64) + q1)), .second, .unset, .unset, .unset, .unset, .unset, .unset, .unset, .unset, .unset, .unset, .unset, .unset, .unset, .unset, .unset]) rfl k) ?_
  refine own_go (B := s₁.setTop (mkF m 9 #[.val (.long q1), .second, .val (.long q2), .second, .val (.long q3), .second, .val (.long q4), .second, .val (.long ((20 : Int64) + q1)), .second, .unset, .unset, .unset, .unset, .unset, .unset, .unset, .unset, .unset, .unset, .unset, .unset, .unset, .unset, .unset] [(.long ((20 : Int64) + q1))])) (fun t k => XS.lload X0.here hx rfl (hb hby at_7) rfl k) ?_
  refine own_go (B := s₁.setTop (mkF m 12 #[.val (.long q1), .second, .val (.long q2), .second, .val (.long q3), .second, .val (.long q4), .second, .val (.long ((20 : Int64) + q1)), .second, .unset, .unset, .unset, .unset, .unset, .unset, .unset, .unset, .unset, .unset, .unset, .unset, .unset, .unset, .unset] [(.long (4 : Int64)), (.long ((20 : Int64) + q1))])) (fun t k => X0.ldc2Long hx hown (mvT hZ (own_w hw 1 rfl)) (g := (mkF m 9 #[.val (.long q1), .second, .val (.long q2), .second, .val (.long q3), .second, .val (.long q4), .second, .val (.long ((20 : Int64) + q1)), .second, .unset, .unset, .unset, .unset, .unset, .unset, .unset, .unset, .unset, .unset, .unset, .unset, .unset, .unset, .unset] [(.long ((20 : Int64) + q1))])) rfl (hb hby at_9) _ k) ?_
  refine own_go (B := s₁.setTop (mkF m 13 #[.val (.long q1), .second, .val (.long q2), .second, .val (.long q3), .second, .val (.long q4), .second, .val (.long ((20 : Int64) + q1)), .second, .unset, .unset, .unset, .unset, .unset, .unset, .unset, .unset, .unset, .unset, .unset, .unset, .unset, .unset, .unset] [(.long q1), (.long (4 : Int64)), (.long ((20 : Int64) + q1))])) (fun t k => XS.lloadN X0.here hx rfl (hb hby at_12) rfl k) ?_
  refine own_go (B := s₁.setTop (mkF m 14 #[.val (.long q1), .second, .val (.long q2), .second, .val (.long q3), .second, .val (.long q4), .second, .val (.long ((20 : Int64) + q1)), .second, .unset, .unset, .unset, .unset, .unset, .unset, .unset, .unset, .unset, .unset, .unset, .unset, .unset, .unset, .unset] [(.long ((4 : Int64) * q1)), (.long ((20 : Int64) + q1))])) (fun t k => XS.lmul X0.here hx rfl (hb hby at_13) rfl k) ?_
  refine own_go (B := s₁.setTop (mkF m 15 #[.val (.long q1), .second, .val (.long q2), .second, .val (.long q3), .second, .val (.long q4), .second, .val (.long ((20 : Int64) + q1)), .second, .unset, .unset, .unset, .unset, .unset, .unset, .unset, .unset, .unset, .unset, .unset, .unset, .unset, .unset, .unset] [(.long (((20 : Int64) + q1) + ((4 : Int64) * q1)))])) (fun t k => XS.ladd X0.here hx rfl (hb hby at_14) rfl k) ?_
  refine own_go (B := s₁.setTop (mkF m 17 #[.val (.long q1), .second, .val (.long q2), .second, .val (.long q3), .second, .val (.long q4), .second, .val (.long ((20 : Int64) + q1)), .second, .val (.long (((20 : Int64) + q1) + ((4 : Int64) * q1))), .second, .unset, .unset, .unset, .unset, .unset, .unset, .unset, .unset, .unset, .unset, .unset, .unset, .unset] [])) (fun t k => XS.lstore X0.here hx rfl (hb hby at_15) rfl (l' := #[.val (.long q1), .second, .val (.long q2), .second, .val (.long q3), .second, .val (.long q4), .second, .val (.long ((20 : Int64) + q1)), .second, .val (.long (((20 : Int64) + q1) + ((4 : Int64) * q1))), .second, .unset, .unset, .unset, .unset, .unset, .unset, .unset, .unset, .unset, .unset, .unset, .unset, .unset]) rfl k) ?_
  refine own_go (B := s₁.setTop (mkF m 19 #[.val (.long q1), .second, .val (.long q2), .second, .val (.long q3), .second, .val (.long q4), .second, .val (.long ((20 : Int64) + q1)), .second, .val (.long (((20 : Int64) + q1) + ((4 : Int64) * q1))), .second, .unset, .unset, .unset, .unset, .unset, .unset, .unset, .unset, .unset, .unset, .unset, .unset, .unset] [(.long (((20 : Int64) + q1) + ((4 : Int64) * q1)))])) (fun t k => XS.lload X0.here hx rfl (hb hby at_17) rfl k) ?_
  refine own_go (B := s₁.setTop (mkF m 22 #[.val (.long q1), .second, .val (.long q2), .second, .val (.long q3), .second, .val (.long q4), .second, .val (.long ((20 : Int64) + q1)), .second, .val (.long (((20 : Int64) + q1) + ((4 : Int64) * q1))), .second, .unset, .unset, .unset, .unset, .unset, .unset, .unset, .unset, .unset, .unset, .unset, .unset, .unset] [(.long (4 : Int64)), (.long (((20 : Int64) + q1) + ((4 : Int64) * q1)))])) (fun t k => X0.ldc2Long hx hown (mvT hZ (own_w hw 1 rfl)) (g := (mkF m 19 #[.val (.long q1), .second, .val (.long q2), .second, .val (.long q3), .second, .val (.long q4), .second, .val (.long ((20 : Int64) + q1)), .second, .val (.long (((20 : Int64) + q1) + ((4 : Int64) * q1))), .second, .unset, .unset, .unset, .unset, .unset, .unset, .unset, .unset, .unset, .unset, .unset, .unset, .unset] [(.long (((20 : Int64) + q1) + ((4 : Int64) * q1)))])) rfl (hb hby at_19) _ k) ?_
  refine own_go (B := s₁.setTop (mkF m 23 #[.val (.long q1), .second, .val (.long q2), .second, .val (.long q3), .second, .val (.long q4), .second, .val (.long ((20 : Int64) + q1)), .second, .val (.long (((20 : Int64) + q1) + ((4 : Int64) * q1))), .second, .unset, .unset, .unset, .unset, .unset, .unset, .unset, .unset, .unset, .unset, .unset, .unset, .unset] [(.long q1), (.long (4 : Int64)), (.long (((20 : Int64) + q1) + ((4 : Int64) * q1)))])) (fun t k => XS.lloadN X0.here hx rfl (hb hby at_22) rfl k) ?_
  refine own_go (B := s₁.setTop (mkF m 24 #[.val (.long q1), .second, .val (.long q2), .second, .val (.long q3), .second, .val (.long q4), .second, .val (.long ((20 : Int64) + q1)), .second, .val (.long (((20 : Int64) + q1) + ((4 : Int64) * q1))), .second, .unset, .unset, .unset, .unset, .unset, .unset, .unset, .unset, .unset, .unset, .unset, .unset, .unset] [(.long ((4 : Int64) * q1)), (.long (((20 : Int64) + q1) + ((4 : Int64) * q1)))])) (fun t k => XS.lmul X0.here hx rfl (hb hby at_23) rfl k) ?_
  refine own_go (B := s₁.setTop (mkF m 25 #[.val (.long q1), .second, .val (.long q2), .second, .val (.long q3), .second, .val (.long q4), .second, .val (.long ((20 : Int64) + q1)), .second, .val (.long (((20 : Int64) + q1) + ((4 : Int64) * q1))), .second, .unset, .unset, .unset, .unset, .unset, .unset, .unset, .unset, .unset, .unset, .unset, .unset, .unset] [(.long ((((20 : Int64) + q1) + ((4 : Int64) * q1)) + ((4 : Int64) * q1)))])) (fun t k => XS.ladd X0.here hx rfl (hb hby at_24) rfl k) ?_
  refine own_go (B := s₁.setTop (mkF m 27 #[.val (.long q1), .second, .val (.long q2), .second, .val (.long q3), .second, .val (.long q4), .second, .val (.long ((20 : Int64) + q1)), .second, .val (.long (((20 : Int64) + q1) + ((4 : Int64) * q1))), .second, .val (.long ((((20 : Int64) + q1) + ((4 : Int64) * q1)) + ((4 : Int64) * q1))), .second, .unset, .unset, .unset, .unset, .unset, .unset, .unset, .unset, .unset, .unset, .unset] [])) (fun t k => XS.lstore X0.here hx rfl (hb hby at_25) rfl (l' := #[.val (.long q1), .second, .val (.long q2), .second, .val (.long q3), .second, .val (.long q4), .second, .val (.long ((20 : Int64) + q1)), .second, .val (.long (((20 : Int64) + q1) + ((4 : Int64) * q1))), .second, .val (.long ((((20 : Int64) + q1) + ((4 : Int64) * q1)) + ((4 : Int64) * q1))), .second, .unset, .unset, .unset, .unset, .unset, .unset, .unset, .unset, .unset, .unset, .unset]) rfl k) ?_
  refine own_go (B := s₁.setTop (mkF m 29 #[.val (.long q1), .second, .val (.long q2), .second, .val (.long q3), .second, .val (.long q4), .second, .val (.long ((20 : Int64) + q1)), .second, .val (.long (((20 : Int64) + q1) + ((4 : Int64) * q1))), .second, .val (.long ((((20 : Int64) + q1) + ((4 : Int64) * q1)) + ((4 : Int64) * q1))), .second, .unset, .unset, .unset, .unset, .unset, .unset, .unset, .unset, .unset, .unset, .unset] [(.long ((((20 : Int64) + q1) + ((4 : Int64) * q1)) + ((4 : Int64) * q1)))])) (fun t k => XS.lload X0.here hx rfl (hb hby at_27) rfl k) ?_
  refine own_go (B := s₁.setTop (mkF m 30 #[.val (.long q1), .second, .val (.long q2), .second, .val (.long q3), .second, .val (.long q4), .second, .val (.long ((20 : Int64) + q1)), .second, .val (.long (((20 : Int64) + q1) + ((4 : Int64) * q1))), .second, .val (.long ((((20 : Int64) + q1) + ((4 : Int64) * q1)) + ((4 : Int64) * q1))), .second, .unset, .unset, .unset, .unset, .unset, .unset, .unset, .unset, .unset, .unset, .unset] [(.long q2), (.long ((((20 : Int64) + q1) + ((4 : Int64) * q1)) + ((4 : Int64) * q1)))])) (fun t k => XS.lloadN X0.here hx rfl (hb hby at_29) rfl k) ?_
  refine own_go (B := s₁.setTop (mkF m 31 #[.val (.long q1), .second, .val (.long q2), .second, .val (.long q3), .second, .val (.long q4), .second, .val (.long ((20 : Int64) + q1)), .second, .val (.long (((20 : Int64) + q1) + ((4 : Int64) * q1))), .second, .val (.long ((((20 : Int64) + q1) + ((4 : Int64) * q1)) + ((4 : Int64) * q1))), .second, .unset, .unset, .unset, .unset, .unset, .unset, .unset, .unset, .unset, .unset, .unset] [(.long (((((20 : Int64) + q1) + ((4 : Int64) * q1)) + ((4 : Int64) * q1)) + q2))])) (fun t k => XS.ladd X0.here hx rfl (hb hby at_30) rfl k) ?_
  refine own_go (B := s₁.setTop (mkF m 33 #[.val (.long q1), .second, .val (.long q2), .second, .val (.long q3), .second, .val (.long q4), .second, .val (.long ((20 : Int64) + q1)), .second, .val (.long (((20 : Int64) + q1) + ((4 : Int64) * q1))), .second, .val (.long ((((20 : Int64) + q1) + ((4 : Int64) * q1)) + ((4 : Int64) * q1))), .second, .val (.long (((((20 : Int64) + q1) + ((4 : Int64) * q1)) + ((4 : Int64) * q1)) + q2)), .second, .unset, .unset, .unset, .unset, .unset, .unset, .unset, .unset, .unset] [])) (fun t k => XS.lstore X0.here hx rfl (hb hby at_31) rfl (l' := #[.val (.long q1), .second, .val (.long q2), .second, .val (.long q3), .second, .val (.long q4), .second, .val (.long ((20 : Int64) + q1)), .second, .val (.long (((20 : Int64) + q1) + ((4 : Int64) * q1))), .second, .val (.long ((((20 : Int64) + q1) + ((4 : Int64) * q1)) + ((4 : Int64) * q1))), .second, .val (.long (((((20 : Int64) + q1) + ((4 : Int64) * q1)) + ((4 : Int64) * q1)) + q2)), .second, .unset, .unset, .unset, .unset, .unset, .unset, .unset, .unset, .unset]) rfl k) ?_
  refine own_go (B := s₁.setTop (mkF m 35 #[.val (.long q1), .second, .val (.long q2), .second, .val (.long q3), .second, .val (.long q4), .second, .val (.long ((20 : Int64) + q1)), .second, .val (.long (((20 : Int64) + q1) + ((4 : Int64) * q1))), .second, .val (.long ((((20 : Int64) + q1) + ((4 : Int64) * q1)) + ((4 : Int64) * q1))), .second, .val (.long (((((20 : Int64) + q1) + ((4 : Int64) * q1)) + ((4 : Int64) * q1)) + q2)), .second, .unset, .unset, .unset, .unset, .unset, .unset, .unset, .unset, .unset] [(.long (((((20 : Int64) + q1) + ((4 : Int64) * q1)) + ((4 : Int64) * q1)) + q2))])) (fun t k => XS.lload X0.here hx rfl (hb hby at_33) rfl k) ?_
  refine own_go (B := s₁.setTop (mkF m 38 #[.val (.long q1), .second, .val (.long q2), .second, .val (.long q3), .second, .val (.long q4), .second, .val (.long ((20 : Int64) + q1)), .second, .val (.long (((20 : Int64) + q1) + ((4 : Int64) * q1))), .second, .val (.long ((((20 : Int64) + q1) + ((4 : Int64) * q1)) + ((4 : Int64) * q1))), .second, .val (.long (((((20 : Int64) + q1) + ((4 : Int64) * q1)) + ((4 : Int64) * q1)) + q2)), .second, .unset, .unset, .unset, .unset, .unset, .unset, .unset, .unset, .unset] [(.long (4 : Int64)), (.long (((((20 : Int64) + q1) + ((4 : Int64) * q1)) + ((4 : Int64) * q1)) + q2))])) (fun t k => X0.ldc2Long hx hown (mvT hZ (own_w hw 1 rfl)) (g := (mkF m 35 #[.val (.long q1), .second, .val (.long q2), .second, .val (.long q3), .second, .val (.long q4), .second, .val (.long ((20 : Int64) + q1)), .second, .val (.long (((20 : Int64) + q1) + ((4 : Int64) * q1))), .second, .val (.long ((((20 : Int64) + q1) + ((4 : Int64) * q1)) + ((4 : Int64) * q1))), .second, .val (.long (((((20 : Int64) + q1) + ((4 : Int64) * q1)) + ((4 : Int64) * q1)) + q2)), .second, .unset, .unset, .unset, .unset, .unset, .unset, .unset, .unset, .unset] [(.long (((((20 : Int64) + q1) + ((4 : Int64) * q1)) + ((4 : Int64) * q1)) + q2))])) rfl (hb hby at_35) _ k) ?_
  refine own_go (B := s₁.setTop (mkF m 39 #[.val (.long q1), .second, .val (.long q2), .second, .val (.long q3), .second, .val (.long q4), .second, .val (.long ((20 : Int64) + q1)), .second, .val (.long (((20 : Int64) + q1) + ((4 : Int64) * q1))), .second, .val (.long ((((20 : Int64) + q1) + ((4 : Int64) * q1)) + ((4 : Int64) * q1))), .second, .val (.long (((((20 : Int64) + q1) + ((4 : Int64) * q1)) + ((4 : Int64) * q1)) + q2)), .second, .unset, .unset, .unset, .unset, .unset, .unset, .unset, .unset, .unset] [(.long ((((((20 : Int64) + q1) + ((4 : Int64) * q1)) + ((4 : Int64) * q1)) + q2) + (4 : Int64)))])) (fun t k => XS.ladd X0.here hx rfl (hb hby at_38) rfl k) ?_
  refine own_go (B := s₁.setTop (mkF m 41 #[.val (.long q1), .second, .val (.long q2), .second, .val (.long q3), .second, .val (.long q4), .second, .val (.long ((20 : Int64) + q1)), .second, .val (.long (((20 : Int64) + q1) + ((4 : Int64) * q1))), .second, .val (.long ((((20 : Int64) + q1) + ((4 : Int64) * q1)) + ((4 : Int64) * q1))), .second, .val (.long (((((20 : Int64) + q1) + ((4 : Int64) * q1)) + ((4 : Int64) * q1)) + q2)), .second, .val (.long ((((((20 : Int64) + q1) + ((4 : Int64) * q1)) + ((4 : Int64) * q1)) + q2) + (4 : Int64))), .second, .unset, .unset, .unset, .unset, .unset, .unset, .unset] [])) (fun t k => XS.lstore X0.here hx rfl (hb hby at_39) rfl (l' := #[.val (.long q1), .second, .val (.long q2), .second, .val (.long q3), .second, .val (.long q4), .second, .val (.long ((20 : Int64) + q1)), .second, .val (.long (((20 : Int64) + q1) + ((4 : Int64) * q1))), .second, .val (.long ((((20 : Int64) + q1) + ((4 : Int64) * q1)) + ((4 : Int64) * q1))), .second, .val (.long (((((20 : Int64) + q1) + ((4 : Int64) * q1)) + ((4 : Int64) * q1)) + q2)), .second, .val (.long ((((((20 : Int64) + q1) + ((4 : Int64) * q1)) + ((4 : Int64) * q1)) + q2) + (4 : Int64))), .second, .unset, .unset, .unset, .unset, .unset, .unset, .unset]) rfl k) ?_
  refine own_go (B := s₁.setTop (mkF m 42 #[.val (.long q1), .second, .val (.long q2), .second, .val (.long q3), .second, .val (.long q4), .second, .val (.long ((20 : Int64) + q1)), .second, .val (.long (((20 : Int64) + q1) + ((4 : Int64) * q1))), .second, .val (.long ((((20 : Int64) + q1) + ((4 : Int64) * q1)) + ((4 : Int64) * q1))), .second, .val (.long (((((20 : Int64) + q1) + ((4 : Int64) * q1)) + ((4 : Int64) * q1)) + q2)), .second, .val (.long ((((((20 : Int64) + q1) + ((4 : Int64) * q1)) + ((4 : Int64) * q1)) + q2) + (4 : Int64))), .second, .unset, .unset, .unset, .unset, .unset, .unset, .unset] [(.long q1)])) (fun t k => XS.lloadN X0.here hx rfl (hb hby at_41) rfl k) ?_
  refine own_go (B := s₁.setTop (mkF m 43 #[.val (.long q1), .second, .val (.long q2), .second, .val (.long q3), .second, .val (.long q4), .second, .val (.long ((20 : Int64) + q1)), .second, .val (.long (((20 : Int64) + q1) + ((4 : Int64) * q1))), .second, .val (.long ((((20 : Int64) + q1) + ((4 : Int64) * q1)) + ((4 : Int64) * q1))), .second, .val (.long (((((20 : Int64) + q1) + ((4 : Int64) * q1)) + ((4 : Int64) * q1)) + q2)), .second, .val (.long ((((((20 : Int64) + q1) + ((4 : Int64) * q1)) + ((4 : Int64) * q1)) + q2) + (4 : Int64))), .second, .unset, .unset, .unset, .unset, .unset, .unset, .unset] [(.long q2), (.long q1)])) (fun t k => XS.lloadN X0.here hx rfl (hb hby at_42) rfl k) ?_
  obtain ⟨_, _, ⟨T1, La1, ka1, na1⟩, -, X1, ⟨Lc1, hQ1, l1, y1, z1⟩, st1⟩ := Jvm.LawKit.callS X0 hx (y := (⟨"com/example/branchwise/branchwise/DictionaryFile", "size", "(JJ)J"⟩ : MethodName)) hown (mvT hZ (own_w hw 2 rfl)) (mvT hZ (own_w hw 3 rfl)) (mvT hZ (own_w hw 4 rfl)) (mvT hZ (own_w hw 5 rfl)) (by decide) (backOf (W := 0) (rm1 l Z a0 hw [] q1 q2 h0 n0 Zs) hZ (own_w hw 5 rfl) (own_w hw 4 rfl) (by decide) (by decide)) (g := (mkF m 43 #[.val (.long q1), .second, .val (.long q2), .second, .val (.long q3), .second, .val (.long q4), .second, .val (.long ((20 : Int64) + q1)), .second, .val (.long (((20 : Int64) + q1) + ((4 : Int64) * q1))), .second, .val (.long ((((20 : Int64) + q1) + ((4 : Int64) * q1)) + ((4 : Int64) * q1))), .second, .val (.long (((((20 : Int64) + q1) + ((4 : Int64) * q1)) + ((4 : Int64) * q1)) + q2)), .second, .val (.long ((((((20 : Int64) + q1) + ((4 : Int64) * q1)) + ((4 : Int64) * q1)) + q2) + (4 : Int64))), .second, .unset, .unset, .unset, .unset, .unset, .unset, .unset] [(.long q2), (.long q1)])) rfl (by rw [hml]; rfl) (argsL := [(.long q1), (.long q2)]) (rest := []) (lenOf pd_0 rfl) rfl (by show 2 * 0 + _ ≤ _; exact Nat.le_of_eq rfl) (hb hby at_43) (fun _ _ => ⟨rfl, e0, (by decide : 0 + 0 ≤ _), (by decide : 0 + 0 ≤ _)⟩)
  dsimp only [Pt.U, Pt.locs, Pt.cells, Pt.slots] at X1 l1 y1 z1 st1 hQ1
  subst l1 y1 z1
  obtain ⟨rfl, N1q, e1⟩ := hQ1
  have N1 := Fr.app N0 N1q
  refine own_go (B := T1.setTop (mkF m 46 #[.val (.long q1), .second, .val (.long q2), .second, .val (.long q3), .second, .val (.long q4), .second, .val (.long ((20 : Int64) + q1)), .second, .val (.long (((20 : Int64) + q1) + ((4 : Int64) * q1))), .second, .val (.long ((((20 : Int64) + q1) + ((4 : Int64) * q1)) + ((4 : Int64) * q1))), .second, .val (.long (((((20 : Int64) + q1) + ((4 : Int64) * q1)) + ((4 : Int64) * q1)) + q2)), .second, .val (.long ((((((20 : Int64) + q1) + ((4 : Int64) * q1)) + ((4 : Int64) * q1)) + q2) + (4 : Int64))), .second, .unset, .unset, .unset, .unset, .unset, .unset, .unset] [(.long (own_f1 q1 q2))])) (fun t k => st1 _ k) ?_
  refine own_go (B := T1.setTop (mkF m 48 #[.val (.long q1), .second, .val (.long q2), .second, .val (.long q3), .second, .val (.long q4), .second, .val (.long ((20 : Int64) + q1)), .second, .val (.long (((20 : Int64) + q1) + ((4 : Int64) * q1))), .second, .val (.long ((((20 : Int64) + q1) + ((4 : Int64) * q1)) + ((4 : Int64) * q1))), .second, .val (.long (((((20 : Int64) + q1) + ((4 : Int64) * q1)) + ((4 : Int64) * q1)) + q2)), .second, .val (.long ((((((20 : Int64) + q1) + ((4 : Int64) * q1)) + ((4 : Int64) * q1)) + q2) + (4 : Int64))), .second, .val (.long (own_f1 q1 q2)), .second, .unset, .unset, .unset, .unset, .unset] [])) (fun t k => XS.lstore X1.here hx rfl (hb hby at_46) rfl (l' := #[.val (.long q1), .second, .val (.long q2), .second, .val (.long q3), .second, .val (.long q4), .second, .val (.long ((20 : Int64) + q1)), .second, .val (.long (((20 : Int64) + q1) + ((4 : Int64) * q1))), .second, .val (.long ((((20 : Int64) + q1) + ((4 : Int64) * q1)) + ((4 : Int64) * q1))), .second, .val (.long (((((20 : Int64) + q1) + ((4 : Int64) * q1)) + ((4 : Int64) * q1)) + q2)), .second, .val (.long ((((((20 : Int64) + q1) + ((4 : Int64) * q1)) + ((4 : Int64) * q1)) + q2) + (4 : Int64))), .second, .val (.long (own_f1 q1 q2)), .second, .unset, .unset, .unset, .unset, .unset]) rfl k) ?_
  refine own_go (B := T1.setTop (mkF m 50 #[.val (.long q1), .second, .val (.long q2), .second, .val (.long q3), .second, .val (.long q4), .second, .val (.long ((20 : Int64) + q1)), .second, .val (.long (((20 : Int64) + q1) + ((4 : Int64) * q1))), .second, .val (.long ((((20 : Int64) + q1) + ((4 : Int64) * q1)) + ((4 : Int64) * q1))), .second, .val (.long (((((20 : Int64) + q1) + ((4 : Int64) * q1)) + ((4 : Int64) * q1)) + q2)), .second, .val (.long ((((((20 : Int64) + q1) + ((4 : Int64) * q1)) + ((4 : Int64) * q1)) + q2) + (4 : Int64))), .second, .val (.long (own_f1 q1 q2)), .second, .unset, .unset, .unset, .unset, .unset] [(.long (own_f1 q1 q2))])) (fun t k => XS.lload X1.here hx rfl (hb hby at_48) rfl k) ?_
  refine own_go (B := T1.setTop (mkF m 52 #[.val (.long q1), .second, .val (.long q2), .second, .val (.long q3), .second, .val (.long q4), .second, .val (.long ((20 : Int64) + q1)), .second, .val (.long (((20 : Int64) + q1) + ((4 : Int64) * q1))), .second, .val (.long ((((20 : Int64) + q1) + ((4 : Int64) * q1)) + ((4 : Int64) * q1))), .second, .val (.long (((((20 : Int64) + q1) + ((4 : Int64) * q1)) + ((4 : Int64) * q1)) + q2)), .second, .val (.long ((((((20 : Int64) + q1) + ((4 : Int64) * q1)) + ((4 : Int64) * q1)) + q2) + (4 : Int64))), .second, .val (.long (own_f1 q1 q2)), .second, .unset, .unset, .unset, .unset, .unset] [(.long ((((((20 : Int64) + q1) + ((4 : Int64) * q1)) + ((4 : Int64) * q1)) + q2) + (4 : Int64))), (.long (own_f1 q1 q2))])) (fun t k => XS.lload X1.here hx rfl (hb hby at_50) rfl k) ?_
  refine own_go (B := T1.setTop (mkF m 53 #[.val (.long q1), .second, .val (.long q2), .second, .val (.long q3), .second, .val (.long q4), .second, .val (.long ((20 : Int64) + q1)), .second, .val (.long (((20 : Int64) + q1) + ((4 : Int64) * q1))), .second, .val (.long ((((20 : Int64) + q1) + ((4 : Int64) * q1)) + ((4 : Int64) * q1))), .second, .val (.long (((((20 : Int64) + q1) + ((4 : Int64) * q1)) + ((4 : Int64) * q1)) + q2)), .second, .val (.long ((((((20 : Int64) + q1) + ((4 : Int64) * q1)) + ((4 : Int64) * q1)) + q2) + (4 : Int64))), .second, .val (.long (own_f1 q1 q2)), .second, .unset, .unset, .unset, .unset, .unset] [(.int (lcmpW (own_f1 q1 q2) ((((((20 : Int64) + q1) + ((4 : Int64) * q1)) + ((4 : Int64) * q1)) + q2) + (4 : Int64))))])) (fun t k => XS.lcmp X1.here hx rfl (hb hby at_52) rfl k) ?_
  refine own_go (B := T1.setTop (mkF m 56 #[.val (.long q1), .second, .val (.long q2), .second, .val (.long q3), .second, .val (.long q4), .second, .val (.long ((20 : Int64) + q1)), .second, .val (.long (((20 : Int64) + q1) + ((4 : Int64) * q1))), .second, .val (.long ((((20 : Int64) + q1) + ((4 : Int64) * q1)) + ((4 : Int64) * q1))), .second, .val (.long (((((20 : Int64) + q1) + ((4 : Int64) * q1)) + ((4 : Int64) * q1)) + q2)), .second, .val (.long ((((((20 : Int64) + q1) + ((4 : Int64) * q1)) + ((4 : Int64) * q1)) + q2) + (4 : Int64))), .second, .val (.long (own_f1 q1 q2)), .second, .unset, .unset, .unset, .unset, .unset] [])) (fun t k => XS.ifNo X1.here hx rfl (hb hby at_53) rfl ((if0 _ _).trans (teq ((lw_eq (own_f1 q1 q2) ((((((20 : Int64) + q1) + ((4 : Int64) * q1)) + ((4 : Int64) * q1)) + q2) + (4 : Int64))).mpr (own_e1 q1 q2))).2) k) ?_
  refine own_go (B := T1.setTop (mkF m 57 #[.val (.long q1), .second, .val (.long q2), .second, .val (.long q3), .second, .val (.long q4), .second, .val (.long ((20 : Int64) + q1)), .second, .val (.long (((20 : Int64) + q1) + ((4 : Int64) * q1))), .second, .val (.long ((((20 : Int64) + q1) + ((4 : Int64) * q1)) + ((4 : Int64) * q1))), .second, .val (.long (((((20 : Int64) + q1) + ((4 : Int64) * q1)) + ((4 : Int64) * q1)) + q2)), .second, .val (.long ((((((20 : Int64) + q1) + ((4 : Int64) * q1)) + ((4 : Int64) * q1)) + q2) + (4 : Int64))), .second, .val (.long (own_f1 q1 q2)), .second, .unset, .unset, .unset, .unset, .unset] [(.int (1 : Int32))])) (fun t k => XS.iconst X1.here hx rfl (hb hby at_56) k) ?_
  refine own_go (B := T1.setTop (mkF m 61 #[.val (.long q1), .second, .val (.long q2), .second, .val (.long q3), .second, .val (.long q4), .second, .val (.long ((20 : Int64) + q1)), .second, .val (.long (((20 : Int64) + q1) + ((4 : Int64) * q1))), .second, .val (.long ((((20 : Int64) + q1) + ((4 : Int64) * q1)) + ((4 : Int64) * q1))), .second, .val (.long (((((20 : Int64) + q1) + ((4 : Int64) * q1)) + ((4 : Int64) * q1)) + q2)), .second, .val (.long ((((((20 : Int64) + q1) + ((4 : Int64) * q1)) + ((4 : Int64) * q1)) + q2) + (4 : Int64))), .second, .val (.long (own_f1 q1 q2)), .second, .unset, .unset, .unset, .unset, .unset] [(.int (1 : Int32))])) (fun t k => XS.goto X1.here hx rfl (pc0 := 57) (pc' := 61) rfl (hb hby at_57) (by decide) (by decide) k) ?_
  refine own_go (B := T1.setTop (mkF m 63 #[.val (.long q1), .second, .val (.long q2), .second, .val (.long q3), .second, .val (.long q4), .second, .val (.long ((20 : Int64) + q1)), .second, .val (.long (((20 : Int64) + q1) + ((4 : Int64) * q1))), .second, .val (.long ((((20 : Int64) + q1) + ((4 : Int64) * q1)) + ((4 : Int64) * q1))), .second, .val (.long (((((20 : Int64) + q1) + ((4 : Int64) * q1)) + ((4 : Int64) * q1)) + q2)), .second, .val (.long ((((((20 : Int64) + q1) + ((4 : Int64) * q1)) + ((4 : Int64) * q1)) + q2) + (4 : Int64))), .second, .val (.long (own_f1 q1 q2)), .second, .val (.int (1 : Int32)), .unset, .unset, .unset, .unset] [])) (fun t k => XS.istore X1.here hx rfl (hb hby at_61) rfl (l' := #[.val (.long q1), .second, .val (.long q2), .second, .val (.long q3), .second, .val (.long q4), .second, .val (.long ((20 : Int64) + q1)), .second, .val (.long (((20 : Int64) + q1) + ((4 : Int64) * q1))), .second, .val (.long ((((20 : Int64) + q1) + ((4 : Int64) * q1)) + ((4 : Int64) * q1))), .second, .val (.long (((((20 : Int64) + q1) + ((4 : Int64) * q1)) + ((4 : Int64) * q1)) + q2)), .second, .val (.long ((((((20 : Int64) + q1) + ((4 : Int64) * q1)) + ((4 : Int64) * q1)) + q2) + (4 : Int64))), .second, .val (.long (own_f1 q1 q2)), .second, .val (.int (1 : Int32)), .unset, .unset, .unset, .unset]) rfl k) ?_
  refine own_go (B := T1.setTop (mkF m 64 #[.val (.long q1), .second, .val (.long q2), .second, .val (.long q3), .second, .val (.long q4), .second, .val (.long ((20 : Int64) + q1)), .second, .val (.long (((20 : Int64) + q1) + ((4 : Int64) * q1))), .second, .val (.long ((((20 : Int64) + q1) + ((4 : Int64) * q1)) + ((4 : Int64) * q1))), .second, .val (.long (((((20 : Int64) + q1) + ((4 : Int64) * q1)) + ((4 : Int64) * q1)) + q2)), .second, .val (.long ((((((20 : Int64) + q1) + ((4 : Int64) * q1)) + ((4 : Int64) * q1)) + q2) + (4 : Int64))), .second, .val (.long (own_f1 q1 q2)), .second, .val (.int (1 : Int32)), .unset, .unset, .unset, .unset] [(.long (0 : Int64))])) (fun t k => XS.lconst X1.here hx rfl (hb hby at_63) k) ?_
  refine own_go (B := T1.setTop (mkF m 65 #[.val (.long q1), .second, .val (.long q2), .second, .val (.long q3), .second, .val (.long q4), .second, .val (.long ((20 : Int64) + q1)), .second, .val (.long (((20 : Int64) + q1) + ((4 : Int64) * q1))), .second, .val (.long ((((20 : Int64) + q1) + ((4 : Int64) * q1)) + ((4 : Int64) * q1))), .second, .val (.long (((((20 : Int64) + q1) + ((4 : Int64) * q1)) + ((4 : Int64) * q1)) + q2)), .second, .val (.long ((((((20 : Int64) + q1) + ((4 : Int64) * q1)) + ((4 : Int64) * q1)) + q2) + (4 : Int64))), .second, .val (.long (own_f1 q1 q2)), .second, .val (.int (1 : Int32)), .unset, .unset, .unset, .unset] [(.long (0 : Int64)), (.long (0 : Int64))])) (fun t k => XS.lconst X1.here hx rfl (hb hby at_64) k) ?_
  obtain ⟨_, _, ⟨T2, La2, ka2, na2⟩, -, X2, ⟨Lc2, hQ2, l2, y2, z2⟩, st2⟩ := Jvm.LawKit.callS X1 hx (y := (⟨"com/example/branchwise/branchwise/DictionaryFile", "size", "(JJ)J"⟩ : MethodName)) hown (mvT hZ (own_w hw 2 rfl)) (mvT hZ (own_w hw 3 rfl)) (mvT hZ (own_w hw 4 rfl)) (mvT hZ (own_w hw 5 rfl)) (by decide) (backOf (W := 0) (rm1 l Z a0 hw [] (0 : Int64) (0 : Int64) h0 n0 Zs) hZ (own_w hw 5 rfl) (own_w hw 4 rfl) (by decide) (by decide)) (g := (mkF m 65 #[.val (.long q1), .second, .val (.long q2), .second, .val (.long q3), .second, .val (.long q4), .second, .val (.long ((20 : Int64) + q1)), .second, .val (.long (((20 : Int64) + q1) + ((4 : Int64) * q1))), .second, .val (.long ((((20 : Int64) + q1) + ((4 : Int64) * q1)) + ((4 : Int64) * q1))), .second, .val (.long (((((20 : Int64) + q1) + ((4 : Int64) * q1)) + ((4 : Int64) * q1)) + q2)), .second, .val (.long ((((((20 : Int64) + q1) + ((4 : Int64) * q1)) + ((4 : Int64) * q1)) + q2) + (4 : Int64))), .second, .val (.long (own_f1 q1 q2)), .second, .val (.int (1 : Int32)), .unset, .unset, .unset, .unset] [(.long (0 : Int64)), (.long (0 : Int64))])) rfl (by rw [hml]; rfl) (argsL := [(.long (0 : Int64)), (.long (0 : Int64))]) (rest := []) (lenOf pd_0 rfl) rfl (by show 2 * 0 + _ ≤ _; exact Nat.le_of_eq rfl) (hb hby at_65) (fun _ _ => ⟨rfl, e1, (by decide : 0 + 0 ≤ _), (by decide : 0 + 0 ≤ _)⟩)
  dsimp only [Pt.U, Pt.locs, Pt.cells, Pt.slots] at X2 l2 y2 z2 st2 hQ2
  subst l2 y2 z2
  obtain ⟨rfl, N2q, e2⟩ := hQ2
  have N2 := Fr.app N1 N2q
  refine own_go (B := T2.setTop (mkF m 68 #[.val (.long q1), .second, .val (.long q2), .second, .val (.long q3), .second, .val (.long q4), .second, .val (.long ((20 : Int64) + q1)), .second, .val (.long (((20 : Int64) + q1) + ((4 : Int64) * q1))), .second, .val (.long ((((20 : Int64) + q1) + ((4 : Int64) * q1)) + ((4 : Int64) * q1))), .second, .val (.long (((((20 : Int64) + q1) + ((4 : Int64) * q1)) + ((4 : Int64) * q1)) + q2)), .second, .val (.long ((((((20 : Int64) + q1) + ((4 : Int64) * q1)) + ((4 : Int64) * q1)) + q2) + (4 : Int64))), .second, .val (.long (own_f1 q1 q2)), .second, .val (.int (1 : Int32)), .unset, .unset, .unset, .unset] [(.long (own_f1 (0 : Int64) (0 : Int64)))])) (fun t k => st2 _ k) ?_
  refine own_go (B := T2.setTop (mkF m 70 #[.val (.long q1), .second, .val (.long q2), .second, .val (.long q3), .second, .val (.long q4), .second, .val (.long ((20 : Int64) + q1)), .second, .val (.long (((20 : Int64) + q1) + ((4 : Int64) * q1))), .second, .val (.long ((((20 : Int64) + q1) + ((4 : Int64) * q1)) + ((4 : Int64) * q1))), .second, .val (.long (((((20 : Int64) + q1) + ((4 : Int64) * q1)) + ((4 : Int64) * q1)) + q2)), .second, .val (.long ((((((20 : Int64) + q1) + ((4 : Int64) * q1)) + ((4 : Int64) * q1)) + q2) + (4 : Int64))), .second, .val (.long (own_f1 q1 q2)), .second, .val (.int (1 : Int32)), .val (.long (own_f1 (0 : Int64) (0 : Int64))), .second, .unset, .unset] [])) (fun t k => XS.lstore X2.here hx rfl (hb hby at_68) rfl (l' := #[.val (.long q1), .second, .val (.long q2), .second, .val (.long q3), .second, .val (.long q4), .second, .val (.long ((20 : Int64) + q1)), .second, .val (.long (((20 : Int64) + q1) + ((4 : Int64) * q1))), .second, .val (.long ((((20 : Int64) + q1) + ((4 : Int64) * q1)) + ((4 : Int64) * q1))), .second, .val (.long (((((20 : Int64) + q1) + ((4 : Int64) * q1)) + ((4 : Int64) * q1)) + q2)), .second, .val (.long ((((((20 : Int64) + q1) + ((4 : Int64) * q1)) + ((4 : Int64) * q1)) + q2) + (4 : Int64))), .second, .val (.long (own_f1 q1 q2)), .second, .val (.int (1 : Int32)), .val (.long (own_f1 (0 : Int64) (0 : Int64))), .second, .unset, .unset]) rfl k) ?_
  refine own_go (B := T2.setTop (mkF m 72 #[.val (.long q1), .second, .val (.long q2), .second, .val (.long q3), .second, .val (.long q4), .second, .val (.long ((20 : Int64) + q1)), .second, .val (.long (((20 : Int64) + q1) + ((4 : Int64) * q1))), .second, .val (.long ((((20 : Int64) + q1) + ((4 : Int64) * q1)) + ((4 : Int64) * q1))), .second, .val (.long (((((20 : Int64) + q1) + ((4 : Int64) * q1)) + ((4 : Int64) * q1)) + q2)), .second, .val (.long ((((((20 : Int64) + q1) + ((4 : Int64) * q1)) + ((4 : Int64) * q1)) + q2) + (4 : Int64))), .second, .val (.long (own_f1 q1 q2)), .second, .val (.int (1 : Int32)), .val (.long (own_f1 (0 : Int64) (0 : Int64))), .second, .unset, .unset] [(.long (own_f1 (0 : Int64) (0 : Int64)))])) (fun t k => XS.lload X2.here hx rfl (hb hby at_70) rfl k) ?_
  refine own_go (B := T2.setTop (mkF m 75 #[.val (.long q1), .second, .val (.long q2), .second, .val (.long q3), .second, .val (.long q4), .second, .val (.long ((20 : Int64) + q1)), .second, .val (.long (((20 : Int64) + q1) + ((4 : Int64) * q1))), .second, .val (.long ((((20 : Int64) + q1) + ((4 : Int64) * q1)) + ((4 : Int64) * q1))), .second, .val (.long (((((20 : Int64) + q1) + ((4 : Int64) * q1)) + ((4 : Int64) * q1)) + q2)), .second, .val (.long ((((((20 : Int64) + q1) + ((4 : Int64) * q1)) + ((4 : Int64) * q1)) + q2) + (4 : Int64))), .second, .val (.long (own_f1 q1 q2)), .second, .val (.int (1 : Int32)), .val (.long (own_f1 (0 : Int64) (0 : Int64))), .second, .unset, .unset] [(.long (24 : Int64)), (.long (own_f1 (0 : Int64) (0 : Int64)))])) (fun t k => X2.ldc2Long hx hown (mvT hZ (own_w hw 9 rfl)) (g := (mkF m 72 #[.val (.long q1), .second, .val (.long q2), .second, .val (.long q3), .second, .val (.long q4), .second, .val (.long ((20 : Int64) + q1)), .second, .val (.long (((20 : Int64) + q1) + ((4 : Int64) * q1))), .second, .val (.long ((((20 : Int64) + q1) + ((4 : Int64) * q1)) + ((4 : Int64) * q1))), .second, .val (.long (((((20 : Int64) + q1) + ((4 : Int64) * q1)) + ((4 : Int64) * q1)) + q2)), .second, .val (.long ((((((20 : Int64) + q1) + ((4 : Int64) * q1)) + ((4 : Int64) * q1)) + q2) + (4 : Int64))), .second, .val (.long (own_f1 q1 q2)), .second, .val (.int (1 : Int32)), .val (.long (own_f1 (0 : Int64) (0 : Int64))), .second, .unset, .unset] [(.long (own_f1 (0 : Int64) (0 : Int64)))])) rfl (hb hby at_72) _ k) ?_
  refine own_go (B := T2.setTop (mkF m 76 #[.val (.long q1), .second, .val (.long q2), .second, .val (.long q3), .second, .val (.long q4), .second, .val (.long ((20 : Int64) + q1)), .second, .val (.long (((20 : Int64) + q1) + ((4 : Int64) * q1))), .second, .val (.long ((((20 : Int64) + q1) + ((4 : Int64) * q1)) + ((4 : Int64) * q1))), .second, .val (.long (((((20 : Int64) + q1) + ((4 : Int64) * q1)) + ((4 : Int64) * q1)) + q2)), .second, .val (.long ((((((20 : Int64) + q1) + ((4 : Int64) * q1)) + ((4 : Int64) * q1)) + q2) + (4 : Int64))), .second, .val (.long (own_f1 q1 q2)), .second, .val (.int (1 : Int32)), .val (.long (own_f1 (0 : Int64) (0 : Int64))), .second, .unset, .unset] [(.int (lcmpW (own_f1 (0 : Int64) (0 : Int64)) (24 : Int64)))])) (fun t k => XS.lcmp X2.here hx rfl (hb hby at_75) rfl k) ?_
  refine own_go (B := T2.setTop (mkF m 79 #[.val (.long q1), .second, .val (.long q2), .second, .val (.long q3), .second, .val (.long q4), .second, .val (.long ((20 : Int64) + q1)), .second, .val (.long (((20 : Int64) + q1) + ((4 : Int64) * q1))), .second, .val (.long ((((20 : Int64) + q1) + ((4 : Int64) * q1)) + ((4 : Int64) * q1))), .second, .val (.long (((((20 : Int64) + q1) + ((4 : Int64) * q1)) + ((4 : Int64) * q1)) + q2)), .second, .val (.long ((((((20 : Int64) + q1) + ((4 : Int64) * q1)) + ((4 : Int64) * q1)) + q2) + (4 : Int64))), .second, .val (.long (own_f1 q1 q2)), .second, .val (.int (1 : Int32)), .val (.long (own_f1 (0 : Int64) (0 : Int64))), .second, .unset, .unset] [])) (fun t k => XS.ifNo X2.here hx rfl (hb hby at_76) rfl ((if0 _ _).trans (teq ((lw_eq (own_f1 (0 : Int64) (0 : Int64)) (24 : Int64)).mpr (by decide : (own_f1 (0 : Int64) (0 : Int64)) = (24 : Int64)))).2) k) ?_
  refine own_go (B := T2.setTop (mkF m 80 #[.val (.long q1), .second, .val (.long q2), .second, .val (.long q3), .second, .val (.long q4), .second, .val (.long ((20 : Int64) + q1)), .second, .val (.long (((20 : Int64) + q1) + ((4 : Int64) * q1))), .second, .val (.long ((((20 : Int64) + q1) + ((4 : Int64) * q1)) + ((4 : Int64) * q1))), .second, .val (.long (((((20 : Int64) + q1) + ((4 : Int64) * q1)) + ((4 : Int64) * q1)) + q2)), .second, .val (.long ((((((20 : Int64) + q1) + ((4 : Int64) * q1)) + ((4 : Int64) * q1)) + q2) + (4 : Int64))), .second, .val (.long (own_f1 q1 q2)), .second, .val (.int (1 : Int32)), .val (.long (own_f1 (0 : Int64) (0 : Int64))), .second, .unset, .unset] [(.int (1 : Int32))])) (fun t k => XS.iconst X2.here hx rfl (hb hby at_79) k) ?_
  refine own_go (B := T2.setTop (mkF m 84 #[.val (.long q1), .second, .val (.long q2), .second, .val (.long q3), .second, .val (.long q4), .second, .val (.long ((20 : Int64) + q1)), .second, .val (.long (((20 : Int64) + q1) + ((4 : Int64) * q1))), .second, .val (.long ((((20 : Int64) + q1) + ((4 : Int64) * q1)) + ((4 : Int64) * q1))), .second, .val (.long (((((20 : Int64) + q1) + ((4 : Int64) * q1)) + ((4 : Int64) * q1)) + q2)), .second, .val (.long ((((((20 : Int64) + q1) + ((4 : Int64) * q1)) + ((4 : Int64) * q1)) + q2) + (4 : Int64))), .second, .val (.long (own_f1 q1 q2)), .second, .val (.int (1 : Int32)), .val (.long (own_f1 (0 : Int64) (0 : Int64))), .second, .unset, .unset] [(.int (1 : Int32))])) (fun t k => XS.goto X2.here hx rfl (pc0 := 80) (pc' := 84) rfl (hb hby at_80) (by decide) (by decide) k) ?_
  refine own_go (B := T2.setTop (mkF m 86 #[.val (.long q1), .second, .val (.long q2), .second, .val (.long q3), .second, .val (.long q4), .second, .val (.long ((20 : Int64) + q1)), .second, .val (.long (((20 : Int64) + q1) + ((4 : Int64) * q1))), .second, .val (.long ((((20 : Int64) + q1) + ((4 : Int64) * q1)) + ((4 : Int64) * q1))), .second, .val (.long (((((20 : Int64) + q1) + ((4 : Int64) * q1)) + ((4 : Int64) * q1)) + q2)), .second, .val (.long ((((((20 : Int64) + q1) + ((4 : Int64) * q1)) + ((4 : Int64) * q1)) + q2) + (4 : Int64))), .second, .val (.long (own_f1 q1 q2)), .second, .val (.int (1 : Int32)), .val (.long (own_f1 (0 : Int64) (0 : Int64))), .second, .val (.int (1 : Int32)), .unset] [])) (fun t k => XS.istore X2.here hx rfl (hb hby at_84) rfl (l' := #[.val (.long q1), .second, .val (.long q2), .second, .val (.long q3), .second, .val (.long q4), .second, .val (.long ((20 : Int64) + q1)), .second, .val (.long (((20 : Int64) + q1) + ((4 : Int64) * q1))), .second, .val (.long ((((20 : Int64) + q1) + ((4 : Int64) * q1)) + ((4 : Int64) * q1))), .second, .val (.long (((((20 : Int64) + q1) + ((4 : Int64) * q1)) + ((4 : Int64) * q1)) + q2)), .second, .val (.long ((((((20 : Int64) + q1) + ((4 : Int64) * q1)) + ((4 : Int64) * q1)) + q2) + (4 : Int64))), .second, .val (.long (own_f1 q1 q2)), .second, .val (.int (1 : Int32)), .val (.long (own_f1 (0 : Int64) (0 : Int64))), .second, .val (.int (1 : Int32)), .unset]) rfl k) ?_
  refine own_go (B := T2.setTop (mkF m 87 #[.val (.long q1), .second, .val (.long q2), .second, .val (.long q3), .second, .val (.long q4), .second, .val (.long ((20 : Int64) + q1)), .second, .val (.long (((20 : Int64) + q1) + ((4 : Int64) * q1))), .second, .val (.long ((((20 : Int64) + q1) + ((4 : Int64) * q1)) + ((4 : Int64) * q1))), .second, .val (.long (((((20 : Int64) + q1) + ((4 : Int64) * q1)) + ((4 : Int64) * q1)) + q2)), .second, .val (.long ((((((20 : Int64) + q1) + ((4 : Int64) * q1)) + ((4 : Int64) * q1)) + q2) + (4 : Int64))), .second, .val (.long (own_f1 q1 q2)), .second, .val (.int (1 : Int32)), .val (.long (own_f1 (0 : Int64) (0 : Int64))), .second, .val (.int (1 : Int32)), .unset] [(.long q1)])) (fun t k => XS.lloadN X2.here hx rfl (hb hby at_86) rfl k) ?_
  refine own_go (B := T2.setTop (mkF m 89 #[.val (.long q1), .second, .val (.long q2), .second, .val (.long q3), .second, .val (.long q4), .second, .val (.long ((20 : Int64) + q1)), .second, .val (.long (((20 : Int64) + q1) + ((4 : Int64) * q1))), .second, .val (.long ((((20 : Int64) + q1) + ((4 : Int64) * q1)) + ((4 : Int64) * q1))), .second, .val (.long (((((20 : Int64) + q1) + ((4 : Int64) * q1)) + ((4 : Int64) * q1)) + q2)), .second, .val (.long ((((((20 : Int64) + q1) + ((4 : Int64) * q1)) + ((4 : Int64) * q1)) + q2) + (4 : Int64))), .second, .val (.long (own_f1 q1 q2)), .second, .val (.int (1 : Int32)), .val (.long (own_f1 (0 : Int64) (0 : Int64))), .second, .val (.int (1 : Int32)), .unset] [(.long q3), (.long q1)])) (fun t k => XS.lload X2.here hx rfl (hb hby at_87) rfl k) ?_
  refine own_go (B := T2.setTop (mkF m 90 #[.val (.long q1), .second, .val (.long q2), .second, .val (.long q3), .second, .val (.long q4), .second, .val (.long ((20 : Int64) + q1)), .second, .val (.long (((20 : Int64) + q1) + ((4 : Int64) * q1))), .second, .val (.long ((((20 : Int64) + q1) + ((4 : Int64) * q1)) + ((4 : Int64) * q1))), .second, .val (.long (((((20 : Int64) + q1) + ((4 : Int64) * q1)) + ((4 : Int64) * q1)) + q2)), .second, .val (.long ((((((20 : Int64) + q1) + ((4 : Int64) * q1)) + ((4 : Int64) * q1)) + q2) + (4 : Int64))), .second, .val (.long (own_f1 q1 q2)), .second, .val (.int (1 : Int32)), .val (.long (own_f1 (0 : Int64) (0 : Int64))), .second, .val (.int (1 : Int32)), .unset] [(.long (q1 + q3))])) (fun t k => XS.ladd X2.here hx rfl (hb hby at_89) rfl k) ?_
  refine own_go (B := T2.setTop (mkF m 91 #[.val (.long q1), .second, .val (.long q2), .second, .val (.long q3), .second, .val (.long q4), .second, .val (.long ((20 : Int64) + q1)), .second, .val (.long (((20 : Int64) + q1) + ((4 : Int64) * q1))), .second, .val (.long ((((20 : Int64) + q1) + ((4 : Int64) * q1)) + ((4 : Int64) * q1))), .second, .val (.long (((((20 : Int64) + q1) + ((4 : Int64) * q1)) + ((4 : Int64) * q1)) + q2)), .second, .val (.long ((((((20 : Int64) + q1) + ((4 : Int64) * q1)) + ((4 : Int64) * q1)) + q2) + (4 : Int64))), .second, .val (.long (own_f1 q1 q2)), .second, .val (.int (1 : Int32)), .val (.long (own_f1 (0 : Int64) (0 : Int64))), .second, .val (.int (1 : Int32)), .unset] [(.long q2), (.long (q1 + q3))])) (fun t k => XS.lloadN X2.here hx rfl (hb hby at_90) rfl k) ?_
  refine own_go (B := T2.setTop (mkF m 93 #[.val (.long q1), .second, .val (.long q2), .second, .val (.long q3), .second, .val (.long q4), .second, .val (.long ((20 : Int64) + q1)), .second, .val (.long (((20 : Int64) + q1) + ((4 : Int64) * q1))), .second, .val (.long ((((20 : Int64) + q1) + ((4 : Int64) * q1)) + ((4 : Int64) * q1))), .second, .val (.long (((((20 : Int64) + q1) + ((4 : Int64) * q1)) + ((4 : Int64) * q1)) + q2)), .second, .val (.long ((((((20 : Int64) + q1) + ((4 : Int64) * q1)) + ((4 : Int64) * q1)) + q2) + (4 : Int64))), .second, .val (.long (own_f1 q1 q2)), .second, .val (.int (1 : Int32)), .val (.long (own_f1 (0 : Int64) (0 : Int64))), .second, .val (.int (1 : Int32)), .unset] [(.long q4), (.long q2), (.long (q1 + q3))])) (fun t k => XS.lload X2.here hx rfl (hb hby at_91) rfl k) ?_
  refine own_go (B := T2.setTop (mkF m 94 #[.val (.long q1), .second, .val (.long q2), .second, .val (.long q3), .second, .val (.long q4), .second, .val (.long ((20 : Int64) + q1)), .second, .val (.long (((20 : Int64) + q1) + ((4 : Int64) * q1))), .second, .val (.long ((((20 : Int64) + q1) + ((4 : Int64) * q1)) + ((4 : Int64) * q1))), .second, .val (.long (((((20 : Int64) + q1) + ((4 : Int64) * q1)) + ((4 : Int64) * q1)) + q2)), .second, .val (.long ((((((20 : Int64) + q1) + ((4 : Int64) * q1)) + ((4 : Int64) * q1)) + q2) + (4 : Int64))), .second, .val (.long (own_f1 q1 q2)), .second, .val (.int (1 : Int32)), .val (.long (own_f1 (0 : Int64) (0 : Int64))), .second, .val (.int (1 : Int32)), .unset] [(.long (q2 + q4)), (.long (q1 + q3))])) (fun t k => XS.ladd X2.here hx rfl (hb hby at_93) rfl k) ?_
  obtain ⟨_, _, ⟨T3, La3, ka3, na3⟩, -, X3, ⟨Lc3, hQ3, l3, y3, z3⟩, st3⟩ := Jvm.LawKit.callS X2 hx (y := (⟨"com/example/branchwise/branchwise/DictionaryFile", "size", "(JJ)J"⟩ : MethodName)) hown (mvT hZ (own_w hw 2 rfl)) (mvT hZ (own_w hw 3 rfl)) (mvT hZ (own_w hw 4 rfl)) (mvT hZ (own_w hw 5 rfl)) (by decide) (backOf (W := 0) (rm1 l Z a0 hw [] (q1 + q3) (q2 + q4) h0 n0 Zs) hZ (own_w hw 5 rfl) (own_w hw 4 rfl) (by decide) (by decide)) (g := (mkF m 94 #[.val (.long q1), .second, .val (.long q2), .second, .val (.long q3), .second, .val (.long q4), .second, .val (.long ((20 : Int64) + q1)), .second, .val (.long (((20 : Int64) + q1) + ((4 : Int64) * q1))), .second, .val (.long ((((20 : Int64) + q1) + ((4 : Int64) * q1)) + ((4 : Int64) * q1))), .second, .val (.long (((((20 : Int64) + q1) + ((4 : Int64) * q1)) + ((4 : Int64) * q1)) + q2)), .second, .val (.long ((((((20 : Int64) + q1) + ((4 : Int64) * q1)) + ((4 : Int64) * q1)) + q2) + (4 : Int64))), .second, .val (.long (own_f1 q1 q2)), .second, .val (.int (1 : Int32)), .val (.long (own_f1 (0 : Int64) (0 : Int64))), .second, .val (.int (1 : Int32)), .unset] [(.long (q2 + q4)), (.long (q1 + q3))])) rfl (by rw [hml]; rfl) (argsL := [(.long (q1 + q3)), (.long (q2 + q4))]) (rest := []) (lenOf pd_0 rfl) rfl (by show 2 * 0 + _ ≤ _; exact Nat.le_of_eq rfl) (hb hby at_94) (fun _ _ => ⟨rfl, e2, (by decide : 0 + 0 ≤ _), (by decide : 0 + 0 ≤ _)⟩)
  dsimp only [Pt.U, Pt.locs, Pt.cells, Pt.slots] at X3 l3 y3 z3 st3 hQ3
  subst l3 y3 z3
  obtain ⟨rfl, N3q, e3⟩ := hQ3
  have N3 := Fr.app N2 N3q
  refine own_go (B := T3.setTop (mkF m 97 #[.val (.long q1), .second, .val (.long q2), .second, .val (.long q3), .second, .val (.long q4), .second, .val (.long ((20 : Int64) + q1)), .second, .val (.long (((20 : Int64) + q1) + ((4 : Int64) * q1))), .second, .val (.long ((((20 : Int64) + q1) + ((4 : Int64) * q1)) + ((4 : Int64) * q1))), .second, .val (.long (((((20 : Int64) + q1) + ((4 : Int64) * q1)) + ((4 : Int64) * q1)) + q2)), .second, .val (.long ((((((20 : Int64) + q1) + ((4 : Int64) * q1)) + ((4 : Int64) * q1)) + q2) + (4 : Int64))), .second, .val (.long (own_f1 q1 q2)), .second, .val (.int (1 : Int32)), .val (.long (own_f1 (0 : Int64) (0 : Int64))), .second, .val (.int (1 : Int32)), .unset] [(.long (own_f1 (q1 + q3) (q2 + q4)))])) (fun t k => st3 _ k) ?_
  refine own_go (B := T3.setTop (mkF m 99 #[.val (.long q1), .second, .val (.long q2), .second, .val (.long q3), .second, .val (.long q4), .second, .val (.long ((20 : Int64) + q1)), .second, .val (.long (((20 : Int64) + q1) + ((4 : Int64) * q1))), .second, .val (.long ((((20 : Int64) + q1) + ((4 : Int64) * q1)) + ((4 : Int64) * q1))), .second, .val (.long (((((20 : Int64) + q1) + ((4 : Int64) * q1)) + ((4 : Int64) * q1)) + q2)), .second, .val (.long ((((((20 : Int64) + q1) + ((4 : Int64) * q1)) + ((4 : Int64) * q1)) + q2) + (4 : Int64))), .second, .val (.long (own_f1 q1 q2)), .second, .val (.int (1 : Int32)), .val (.long (own_f1 (0 : Int64) (0 : Int64))), .second, .val (.int (1 : Int32)), .unset] [(.long (own_f1 q1 q2)), (.long (own_f1 (q1 + q3) (q2 + q4)))])) (fun t k => XS.lload X3.here hx rfl (hb hby at_97) rfl k) ?_
  refine own_go (B := T3.setTop (mkF m 101 #[.val (.long q1), .second, .val (.long q2), .second, .val (.long q3), .second, .val (.long q4), .second, .val (.long ((20 : Int64) + q1)), .second, .val (.long (((20 : Int64) + q1) + ((4 : Int64) * q1))), .second, .val (.long ((((20 : Int64) + q1) + ((4 : Int64) * q1)) + ((4 : Int64) * q1))), .second, .val (.long (((((20 : Int64) + q1) + ((4 : Int64) * q1)) + ((4 : Int64) * q1)) + q2)), .second, .val (.long ((((((20 : Int64) + q1) + ((4 : Int64) * q1)) + ((4 : Int64) * q1)) + q2) + (4 : Int64))), .second, .val (.long (own_f1 q1 q2)), .second, .val (.int (1 : Int32)), .val (.long (own_f1 (0 : Int64) (0 : Int64))), .second, .val (.int (1 : Int32)), .unset] [(.long q3), (.long (own_f1 q1 q2)), (.long (own_f1 (q1 + q3) (q2 + q4)))])) (fun t k => XS.lload X3.here hx rfl (hb hby at_99) rfl k) ?_
  refine own_go (B := T3.setTop (mkF m 103 #[.val (.long q1), .second, .val (.long q2), .second, .val (.long q3), .second, .val (.long q4), .second, .val (.long ((20 : Int64) + q1)), .second, .val (.long (((20 : Int64) + q1) + ((4 : Int64) * q1))), .second, .val (.long ((((20 : Int64) + q1) + ((4 : Int64) * q1)) + ((4 : Int64) * q1))), .second, .val (.long (((((20 : Int64) + q1) + ((4 : Int64) * q1)) + ((4 : Int64) * q1)) + q2)), .second, .val (.long ((((((20 : Int64) + q1) + ((4 : Int64) * q1)) + ((4 : Int64) * q1)) + q2) + (4 : Int64))), .second, .val (.long (own_f1 q1 q2)), .second, .val (.int (1 : Int32)), .val (.long (own_f1 (0 : Int64) (0 : Int64))), .second, .val (.int (1 : Int32)), .unset] [(.long q4), (.long q3), (.long (own_f1 q1 q2)), (.long (own_f1 (q1 + q3) (q2 + q4)))])) (fun t k => XS.lload X3.here hx rfl (hb hby at_101) rfl k) ?_
  obtain ⟨_, _, ⟨T4, La4, ka4, na4⟩, -, X4, ⟨Lc4, hQ4, l4, y4, z4⟩, st4⟩ := Jvm.LawKit.callS X3 hx (y := (⟨"com/example/branchwise/branchwise/DictionaryFile", "size", "(JJ)J"⟩ : MethodName)) hown (mvT hZ (own_w hw 2 rfl)) (mvT hZ (own_w hw 3 rfl)) (mvT hZ (own_w hw 4 rfl)) (mvT hZ (own_w hw 5 rfl)) (by decide) (backOf (W := 4) (rm1 l Z a0 hw [] q3 q4 h0 n0 Zs) hZ (own_w hw 5 rfl) (own_w hw 4 rfl) (by decide) (by decide)) (g := (mkF m 103 #[.val (.long q1), .second, .val (.long q2), .second, .val (.long q3), .second, .val (.long q4), .second, .val (.long ((20 : Int64) + q1)), .second, .val (.long (((20 : Int64) + q1) + ((4 : Int64) * q1))), .second, .val (.long ((((20 : Int64) + q1) + ((4 : Int64) * q1)) + ((4 : Int64) * q1))), .second, .val (.long (((((20 : Int64) + q1) + ((4 : Int64) * q1)) + ((4 : Int64) * q1)) + q2)), .second, .val (.long ((((((20 : Int64) + q1) + ((4 : Int64) * q1)) + ((4 : Int64) * q1)) + q2) + (4 : Int64))), .second, .val (.long (own_f1 q1 q2)), .second, .val (.int (1 : Int32)), .val (.long (own_f1 (0 : Int64) (0 : Int64))), .second, .val (.int (1 : Int32)), .unset] [(.long q4), (.long q3), (.long (own_f1 q1 q2)), (.long (own_f1 (q1 + q3) (q2 + q4)))])) rfl (by rw [hml]; rfl) (argsL := [(.long q3), (.long q4)]) (rest := [(.long (own_f1 q1 q2)), (.long (own_f1 (q1 + q3) (q2 + q4)))]) (lenOf pd_0 rfl) rfl (by show 2 * 0 + _ ≤ _; exact Nat.le_of_eq rfl) (hb hby at_103) (fun _ _ => ⟨rfl, e3, (by decide : 0 + 0 ≤ _), (by decide : 0 + 0 ≤ _)⟩)
  dsimp only [Pt.U, Pt.locs, Pt.cells, Pt.slots] at X4 l4 y4 z4 st4 hQ4
  subst l4 y4 z4
  obtain ⟨rfl, N4q, e4⟩ := hQ4
  have N4 := Fr.app N3 N4q
  refine own_go (B := T4.setTop (mkF m 106 #[.val (.long q1), .second, .val (.long q2), .second, .val (.long q3), .second, .val (.long q4), .second, .val (.long ((20 : Int64) + q1)), .second, .val (.long (((20 : Int64) + q1) + ((4 : Int64) * q1))), .second, .val (.long ((((20 : Int64) + q1) + ((4 : Int64) * q1)) + ((4 : Int64) * q1))), .second, .val (.long (((((20 : Int64) + q1) + ((4 : Int64) * q1)) + ((4 : Int64) * q1)) + q2)), .second, .val (.long ((((((20 : Int64) + q1) + ((4 : Int64) * q1)) + ((4 : Int64) * q1)) + q2) + (4 : Int64))), .second, .val (.long (own_f1 q1 q2)), .second, .val (.int (1 : Int32)), .val (.long (own_f1 (0 : Int64) (0 : Int64))), .second, .val (.int (1 : Int32)), .unset] [(.long (own_f1 q3 q4)), (.long (own_f1 q1 q2)), (.long (own_f1 (q1 + q3) (q2 + q4)))])) (fun t k => st4 _ k) ?_
  refine own_go (B := T4.setTop (mkF m 107 #[.val (.long q1), .second, .val (.long q2), .second, .val (.long q3), .second, .val (.long q4), .second, .val (.long ((20 : Int64) + q1)), .second, .val (.long (((20 : Int64) + q1) + ((4 : Int64) * q1))), .second, .val (.long ((((20 : Int64) + q1) + ((4 : Int64) * q1)) + ((4 : Int64) * q1))), .second, .val (.long (((((20 : Int64) + q1) + ((4 : Int64) * q1)) + ((4 : Int64) * q1)) + q2)), .second, .val (.long ((((((20 : Int64) + q1) + ((4 : Int64) * q1)) + ((4 : Int64) * q1)) + q2) + (4 : Int64))), .second, .val (.long (own_f1 q1 q2)), .second, .val (.int (1 : Int32)), .val (.long (own_f1 (0 : Int64) (0 : Int64))), .second, .val (.int (1 : Int32)), .unset] [(.long ((own_f1 q1 q2) + (own_f1 q3 q4))), (.long (own_f1 (q1 + q3) (q2 + q4)))])) (fun t k => XS.ladd X4.here hx rfl (hb hby at_106) rfl k) ?_
  refine own_go (B := T4.setTop (mkF m 109 #[.val (.long q1), .second, .val (.long q2), .second, .val (.long q3), .second, .val (.long q4), .second, .val (.long ((20 : Int64) + q1)), .second, .val (.long (((20 : Int64) + q1) + ((4 : Int64) * q1))), .second, .val (.long ((((20 : Int64) + q1) + ((4 : Int64) * q1)) + ((4 : Int64) * q1))), .second, .val (.long (((((20 : Int64) + q1) + ((4 : Int64) * q1)) + ((4 : Int64) * q1)) + q2)), .second, .val (.long ((((((20 : Int64) + q1) + ((4 : Int64) * q1)) + ((4 : Int64) * q1)) + q2) + (4 : Int64))), .second, .val (.long (own_f1 q1 q2)), .second, .val (.int (1 : Int32)), .val (.long (own_f1 (0 : Int64) (0 : Int64))), .second, .val (.int (1 : Int32)), .unset] [(.long (own_f1 (0 : Int64) (0 : Int64))), (.long ((own_f1 q1 q2) + (own_f1 q3 q4))), (.long (own_f1 (q1 + q3) (q2 + q4)))])) (fun t k => XS.lload X4.here hx rfl (hb hby at_107) rfl k) ?_
  refine own_go (B := T4.setTop (mkF m 110 #[.val (.long q1), .second, .val (.long q2), .second, .val (.long q3), .second, .val (.long q4), .second, .val (.long ((20 : Int64) + q1)), .second, .val (.long (((20 : Int64) + q1) + ((4 : Int64) * q1))), .second, .val (.long ((((20 : Int64) + q1) + ((4 : Int64) * q1)) + ((4 : Int64) * q1))), .second, .val (.long (((((20 : Int64) + q1) + ((4 : Int64) * q1)) + ((4 : Int64) * q1)) + q2)), .second, .val (.long ((((((20 : Int64) + q1) + ((4 : Int64) * q1)) + ((4 : Int64) * q1)) + q2) + (4 : Int64))), .second, .val (.long (own_f1 q1 q2)), .second, .val (.int (1 : Int32)), .val (.long (own_f1 (0 : Int64) (0 : Int64))), .second, .val (.int (1 : Int32)), .unset] [(.long (((own_f1 q1 q2) + (own_f1 q3 q4)) - (own_f1 (0 : Int64) (0 : Int64)))), (.long (own_f1 (q1 + q3) (q2 + q4)))])) (fun t k => XS.lsub X4.here hx rfl (hb hby at_109) rfl k) ?_
  refine own_go (B := T4.setTop (mkF m 111 #[.val (.long q1), .second, .val (.long q2), .second, .val (.long q3), .second, .val (.long q4), .second, .val (.long ((20 : Int64) + q1)), .second, .val (.long (((20 : Int64) + q1) + ((4 : Int64) * q1))), .second, .val (.long ((((20 : Int64) + q1) + ((4 : Int64) * q1)) + ((4 : Int64) * q1))), .second, .val (.long (((((20 : Int64) + q1) + ((4 : Int64) * q1)) + ((4 : Int64) * q1)) + q2)), .second, .val (.long ((((((20 : Int64) + q1) + ((4 : Int64) * q1)) + ((4 : Int64) * q1)) + q2) + (4 : Int64))), .second, .val (.long (own_f1 q1 q2)), .second, .val (.int (1 : Int32)), .val (.long (own_f1 (0 : Int64) (0 : Int64))), .second, .val (.int (1 : Int32)), .unset] [(.int (lcmpW (own_f1 (q1 + q3) (q2 + q4)) (((own_f1 q1 q2) + (own_f1 q3 q4)) - (own_f1 (0 : Int64) (0 : Int64)))))])) (fun t k => XS.lcmp X4.here hx rfl (hb hby at_110) rfl k) ?_
  refine own_go (B := T4.setTop (mkF m 114 #[.val (.long q1), .second, .val (.long q2), .second, .val (.long q3), .second, .val (.long q4), .second, .val (.long ((20 : Int64) + q1)), .second, .val (.long (((20 : Int64) + q1) + ((4 : Int64) * q1))), .second, .val (.long ((((20 : Int64) + q1) + ((4 : Int64) * q1)) + ((4 : Int64) * q1))), .second, .val (.long (((((20 : Int64) + q1) + ((4 : Int64) * q1)) + ((4 : Int64) * q1)) + q2)), .second, .val (.long ((((((20 : Int64) + q1) + ((4 : Int64) * q1)) + ((4 : Int64) * q1)) + q2) + (4 : Int64))), .second, .val (.long (own_f1 q1 q2)), .second, .val (.int (1 : Int32)), .val (.long (own_f1 (0 : Int64) (0 : Int64))), .second, .val (.int (1 : Int32)), .unset] [])) (fun t k => XS.ifNo X4.here hx rfl (hb hby at_111) rfl ((if0 _ _).trans (teq ((lw_eq (own_f1 (q1 + q3) (q2 + q4)) (((own_f1 q1 q2) + (own_f1 q3 q4)) - (own_f1 (0 : Int64) (0 : Int64)))).mpr (own_e2 q1 q2 q3 q4))).2) k) ?_
  refine own_go (B := T4.setTop (mkF m 115 #[.val (.long q1), .second, .val (.long q2), .second, .val (.long q3), .second, .val (.long q4), .second, .val (.long ((20 : Int64) + q1)), .second, .val (.long (((20 : Int64) + q1) + ((4 : Int64) * q1))), .second, .val (.long ((((20 : Int64) + q1) + ((4 : Int64) * q1)) + ((4 : Int64) * q1))), .second, .val (.long (((((20 : Int64) + q1) + ((4 : Int64) * q1)) + ((4 : Int64) * q1)) + q2)), .second, .val (.long ((((((20 : Int64) + q1) + ((4 : Int64) * q1)) + ((4 : Int64) * q1)) + q2) + (4 : Int64))), .second, .val (.long (own_f1 q1 q2)), .second, .val (.int (1 : Int32)), .val (.long (own_f1 (0 : Int64) (0 : Int64))), .second, .val (.int (1 : Int32)), .unset] [(.int (1 : Int32))])) (fun t k => XS.iconst X4.here hx rfl (hb hby at_114) k) ?_
  refine own_go (B := T4.setTop (mkF m 119 #[.val (.long q1), .second, .val (.long q2), .second, .val (.long q3), .second, .val (.long q4), .second, .val (.long ((20 : Int64) + q1)), .second, .val (.long (((20 : Int64) + q1) + ((4 : Int64) * q1))), .second, .val (.long ((((20 : Int64) + q1) + ((4 : Int64) * q1)) + ((4 : Int64) * q1))), .second, .val (.long (((((20 : Int64) + q1) + ((4 : Int64) * q1)) + ((4 : Int64) * q1)) + q2)), .second, .val (.long ((((((20 : Int64) + q1) + ((4 : Int64) * q1)) + ((4 : Int64) * q1)) + q2) + (4 : Int64))), .second, .val (.long (own_f1 q1 q2)), .second, .val (.int (1 : Int32)), .val (.long (own_f1 (0 : Int64) (0 : Int64))), .second, .val (.int (1 : Int32)), .unset] [(.int (1 : Int32))])) (fun t k => XS.goto X4.here hx rfl (pc0 := 115) (pc' := 119) rfl (hb hby at_115) (by decide) (by decide) k) ?_
  refine own_go (B := T4.setTop (mkF m 121 #[.val (.long q1), .second, .val (.long q2), .second, .val (.long q3), .second, .val (.long q4), .second, .val (.long ((20 : Int64) + q1)), .second, .val (.long (((20 : Int64) + q1) + ((4 : Int64) * q1))), .second, .val (.long ((((20 : Int64) + q1) + ((4 : Int64) * q1)) + ((4 : Int64) * q1))), .second, .val (.long (((((20 : Int64) + q1) + ((4 : Int64) * q1)) + ((4 : Int64) * q1)) + q2)), .second, .val (.long ((((((20 : Int64) + q1) + ((4 : Int64) * q1)) + ((4 : Int64) * q1)) + q2) + (4 : Int64))), .second, .val (.long (own_f1 q1 q2)), .second, .val (.int (1 : Int32)), .val (.long (own_f1 (0 : Int64) (0 : Int64))), .second, .val (.int (1 : Int32)), .val (.int (1 : Int32))] [])) (fun t k => XS.istore X4.here hx rfl (hb hby at_119) rfl (l' := #[.val (.long q1), .second, .val (.long q2), .second, .val (.long q3), .second, .val (.long q4), .second, .val (.long ((20 : Int64) + q1)), .second, .val (.long (((20 : Int64) + q1) + ((4 : Int64) * q1))), .second, .val (.long ((((20 : Int64) + q1) + ((4 : Int64) * q1)) + ((4 : Int64) * q1))), .second, .val (.long (((((20 : Int64) + q1) + ((4 : Int64) * q1)) + ((4 : Int64) * q1)) + q2)), .second, .val (.long ((((((20 : Int64) + q1) + ((4 : Int64) * q1)) + ((4 : Int64) * q1)) + q2) + (4 : Int64))), .second, .val (.long (own_f1 q1 q2)), .second, .val (.int (1 : Int32)), .val (.long (own_f1 (0 : Int64) (0 : Int64))), .second, .val (.int (1 : Int32)), .val (.int (1 : Int32))]) rfl k) ?_
  refine own_go (B := T4.setTop (mkF m 123 #[.val (.long q1), .second, .val (.long q2), .second, .val (.long q3), .second, .val (.long q4), .second, .val (.long ((20 : Int64) + q1)), .second, .val (.long (((20 : Int64) + q1) + ((4 : Int64) * q1))), .second, .val (.long ((((20 : Int64) + q1) + ((4 : Int64) * q1)) + ((4 : Int64) * q1))), .second, .val (.long (((((20 : Int64) + q1) + ((4 : Int64) * q1)) + ((4 : Int64) * q1)) + q2)), .second, .val (.long ((((((20 : Int64) + q1) + ((4 : Int64) * q1)) + ((4 : Int64) * q1)) + q2) + (4 : Int64))), .second, .val (.long (own_f1 q1 q2)), .second, .val (.int (1 : Int32)), .val (.long (own_f1 (0 : Int64) (0 : Int64))), .second, .val (.int (1 : Int32)), .val (.int (1 : Int32))] [(.int (1 : Int32))])) (fun t k => XS.iload X4.here hx rfl (hb hby at_121) rfl k) ?_
  refine own_go (B := T4.setTop (mkF m 126 #[.val (.long q1), .second, .val (.long q2), .second, .val (.long q3), .second, .val (.long q4), .second, .val (.long ((20 : Int64) + q1)), .second, .val (.long (((20 : Int64) + q1) + ((4 : Int64) * q1))), .second, .val (.long ((((20 : Int64) + q1) + ((4 : Int64) * q1)) + ((4 : Int64) * q1))), .second, .val (.long (((((20 : Int64) + q1) + ((4 : Int64) * q1)) + ((4 : Int64) * q1)) + q2)), .second, .val (.long ((((((20 : Int64) + q1) + ((4 : Int64) * q1)) + ((4 : Int64) * q1)) + q2) + (4 : Int64))), .second, .val (.long (own_f1 q1 q2)), .second, .val (.int (1 : Int32)), .val (.long (own_f1 (0 : Int64) (0 : Int64))), .second, .val (.int (1 : Int32)), .val (.int (1 : Int32))] [])) (fun t k => XS.ifNo X4.here hx rfl (hb hby at_123) rfl ((if0 _ _).trans (feq (by decide : ¬ ((1 : Int32) = (0 : Int32)))).1) k) ?_
  refine own_go (B := T4.setTop (mkF m 128 #[.val (.long q1), .second, .val (.long q2), .second, .val (.long q3), .second, .val (.long q4), .second, .val (.long ((20 : Int64) + q1)), .second, .val (.long (((20 : Int64) + q1) + ((4 : Int64) * q1))), .second, .val (.long ((((20 : Int64) + q1) + ((4 : Int64) * q1)) + ((4 : Int64) * q1))), .second, .val (.long (((((20 : Int64) + q1) + ((4 : Int64) * q1)) + ((4 : Int64) * q1)) + q2)), .second, .val (.long ((((((20 : Int64) + q1) + ((4 : Int64) * q1)) + ((4 : Int64) * q1)) + q2) + (4 : Int64))), .second, .val (.long (own_f1 q1 q2)), .second, .val (.int (1 : Int32)), .val (.long (own_f1 (0 : Int64) (0 : Int64))), .second, .val (.int (1 : Int32)), .val (.int (1 : Int32))] [(.int (1 : Int32))])) (fun t k => XS.iload X4.here hx rfl (hb hby at_126) rfl k) ?_
  refine own_go (B := T4.setTop (mkF m 131 #[.val (.long q1), .second, .val (.long q2), .second, .val (.long q3), .second, .val (.long q4), .second, .val (.long ((20 : Int64) + q1)), .second, .val (.long (((20 : Int64) + q1) + ((4 : Int64) * q1))), .second, .val (.long ((((20 : Int64) + q1) + ((4 : Int64) * q1)) + ((4 : Int64) * q1))), .second, .val (.long (((((20 : Int64) + q1) + ((4 : Int64) * q1)) + ((4 : Int64) * q1)) + q2)), .second, .val (.long ((((((20 : Int64) + q1) + ((4 : Int64) * q1)) + ((4 : Int64) * q1)) + q2) + (4 : Int64))), .second, .val (.long (own_f1 q1 q2)), .second, .val (.int (1 : Int32)), .val (.long (own_f1 (0 : Int64) (0 : Int64))), .second, .val (.int (1 : Int32)), .val (.int (1 : Int32))] [])) (fun t k => XS.ifNo X4.here hx rfl (hb hby at_128) rfl ((if0 _ _).trans (feq (by decide : ¬ ((1 : Int32) = (0 : Int32)))).1) k) ?_
  refine own_go (B := T4.setTop (mkF m 133 #[.val (.long q1), .second, .val (.long q2), .second, .val (.long q3), .second, .val (.long q4), .second, .val (.long ((20 : Int64) + q1)), .second, .val (.long (((20 : Int64) + q1) + ((4 : Int64) * q1))), .second, .val (.long ((((20 : Int64) + q1) + ((4 : Int64) * q1)) + ((4 : Int64) * q1))), .second, .val (.long (((((20 : Int64) + q1) + ((4 : Int64) * q1)) + ((4 : Int64) * q1)) + q2)), .second, .val (.long ((((((20 : Int64) + q1) + ((4 : Int64) * q1)) + ((4 : Int64) * q1)) + q2) + (4 : Int64))), .second, .val (.long (own_f1 q1 q2)), .second, .val (.int (1 : Int32)), .val (.long (own_f1 (0 : Int64) (0 : Int64))), .second, .val (.int (1 : Int32)), .val (.int (1 : Int32))] [(.int (1 : Int32))])) (fun t k => XS.iload X4.here hx rfl (hb hby at_131) rfl k) ?_
  refine own_go (B := T4.setTop (mkF m 136 #[.val (.long q1), .second, .val (.long q2), .second, .val (.long q3), .second, .val (.long q4), .second, .val (.long ((20 : Int64) + q1)), .second, .val (.long (((20 : Int64) + q1) + ((4 : Int64) * q1))), .second, .val (.long ((((20 : Int64) + q1) + ((4 : Int64) * q1)) + ((4 : Int64) * q1))), .second, .val (.long (((((20 : Int64) + q1) + ((4 : Int64) * q1)) + ((4 : Int64) * q1)) + q2)), .second, .val (.long ((((((20 : Int64) + q1) + ((4 : Int64) * q1)) + ((4 : Int64) * q1)) + q2) + (4 : Int64))), .second, .val (.long (own_f1 q1 q2)), .second, .val (.int (1 : Int32)), .val (.long (own_f1 (0 : Int64) (0 : Int64))), .second, .val (.int (1 : Int32)), .val (.int (1 : Int32))] [])) (fun t k => XS.ifNo X4.here hx rfl (hb hby at_133) rfl ((if0 _ _).trans (feq (by decide : ¬ ((1 : Int32) = (0 : Int32)))).1) k) ?_
  refine own_go (B := T4.setTop (mkF m 137 #[.val (.long q1), .second, .val (.long q2), .second, .val (.long q3), .second, .val (.long q4), .second, .val (.long ((20 : Int64) + q1)), .second, .val (.long (((20 : Int64) + q1) + ((4 : Int64) * q1))), .second, .val (.long ((((20 : Int64) + q1) + ((4 : Int64) * q1)) + ((4 : Int64) * q1))), .second, .val (.long (((((20 : Int64) + q1) + ((4 : Int64) * q1)) + ((4 : Int64) * q1)) + q2)), .second, .val (.long ((((((20 : Int64) + q1) + ((4 : Int64) * q1)) + ((4 : Int64) * q1)) + q2) + (4 : Int64))), .second, .val (.long (own_f1 q1 q2)), .second, .val (.int (1 : Int32)), .val (.long (own_f1 (0 : Int64) (0 : Int64))), .second, .val (.int (1 : Int32)), .val (.int (1 : Int32))] [(.int (1 : Int32))])) (fun t k => XS.iconst X4.here hx rfl (hb hby at_136) k) ?_
  refine own_go (B := T4.setTop (mkF m 141 #[.val (.long q1), .second, .val (.long q2), .second, .val (.long q3), .second, .val (.long q4), .second, .val (.long ((20 : Int64) + q1)), .second, .val (.long (((20 : Int64) + q1) + ((4 : Int64) * q1))), .second, .val (.long ((((20 : Int64) + q1) + ((4 : Int64) * q1)) + ((4 : Int64) * q1))), .second, .val (.long (((((20 : Int64) + q1) + ((4 : Int64) * q1)) + ((4 : Int64) * q1)) + q2)), .second, .val (.long ((((((20 : Int64) + q1) + ((4 : Int64) * q1)) + ((4 : Int64) * q1)) + q2) + (4 : Int64))), .second, .val (.long (own_f1 q1 q2)), .second, .val (.int (1 : Int32)), .val (.long (own_f1 (0 : Int64) (0 : Int64))), .second, .val (.int (1 : Int32)), .val (.int (1 : Int32))] [(.int (1 : Int32))])) (fun t k => XS.goto X4.here hx rfl (pc0 := 137) (pc' := 141) rfl (hb hby at_137) (by decide) (by decide) k) ?_
  refine own_out X4 (v := (some (.int (1 : Int32)))) (fun h => by rw [Bd.returns] at h; cases h) Bd.notSynchronized (fun fs hr => retOut X4 hx (t := .boolean) Bd.returns rfl (by first | exact Or.inl ⟨rfl, by simp, _, rfl⟩) (hb hby at_141) hr) ?_ (by decide) (by decide)
  show own_Q0 Z q1 q2 q3 q4 h0 n0 (some (.int (1 : Int32))) T4.heap _
  rw [e4]
  exact ⟨rfl, N4⟩
set_option maxRecDepth 65536 in
set_option maxHeartbeats 40000000 in
theorem comes_1 {Post : Tables → Env → Array Value → State → Outcome → State → Prop} (hpost : ∀ tb e args s v u, (limb_1_1.after args s (.returned v) u = true ∧ limb_1_2.after args s (.returned v) u = true ∧ True) → FrameEnd s (.returned v) u (Jvm.fieldLocs frame_1_writes args s ++ Jvm.arrayLocs frame_1_arrays args s ++ Jvm.staticLocs frame_1_statics s) 0 0 → Post tb e args s (.returned v) u) :
    ArmFor flags0 classFile x code maxLocals ret World_1 tables_1 room_1 Calls_1 rest_1 Pre_1 Post := by
  intro l hfl _ _ p e ha hc hk s m args below hf hA hF happ hP
  obtain ⟨hcalls, hrest, hpre⟩ := hP
  obtain ⟨-, -, -, hnamed, -, -, -, hat⟩ := (Spec.applies_iff hf).mp happ
  obtain ⟨hg, hn⟩ := and_e (Cond.before_iff.mp (show (Jvm.Cond.and given_1 narrow_1).before args s = true from hpre))
  obtain ⟨g1a, g1b⟩ := and_e hg
  obtain ⟨g2a, g2b⟩ := and_e g1b
  obtain ⟨g3a, g3b⟩ := and_e g2b
  obtain ⟨g4a, g4b⟩ := and_e g3b
  obtain ⟨w0, w1, w2, w3, rfl⟩ : ∃ w0 w1 w2 w3 : Value, args = #[w0, w1, w2, w3] := by
    have hs : args.size = 4 := by simpa [Cond.value, given_1] using g1a
    obtain ⟨L⟩ := args
    match L, hs with
    | [w0, w1, w2, w3], _ => exact ⟨w0, w1, w2, w3, rfl⟩
  have hw := fun d (hd : d ∈ tables_1) => atoms_spec (ws := Jvm.Cond.code x code maxLocals ret :: tables_1) hat d (List.mem_cons_of_mem _ hd)
  obtain ⟨i0, ei0⟩ := isL_v g2a
  obtain rfl : w0 = (.long i0) := Option.some.inj ei0
  obtain ⟨i1, ei1⟩ := isL_v g3a
  obtain rfl : w1 = (.long i1) := Option.some.inj ei1
  obtain ⟨i2, ei2⟩ := isL_v g4a
  obtain rfl : w2 = (.long i2) := Option.some.inj ei2
  obtain ⟨i3, ei3⟩ := isL_v g4b
  obtain rfl : w3 = (.long i3) := Option.some.inj ei3
  obtain ⟨n, o, h1, h2, h3, _, L, rfl, ⟨rfl, N⟩, hq⟩ := rm0 l s _ hw tables_1 i0 i1 i2 i3 s.heap s.heap.size (Nat.le_refl _) p e ha hc hk s m _ below hf ((Spec.applies_iff_loose hf).mp happ).1 ⟨rfl, State.Warmed39.refl s, rfl⟩ trivial
  refine ⟨n, _, h1, h2, h3, hpost _ _ _ _ _ _ ⟨Cond.after_iff.mpr rfl, Cond.after_iff.mpr (eq_i res_at (Term.int_eval (1)) rfl), trivial⟩ ⟨hq.1, hq.2.1, (hq.2.2.sift fun y hy => Or.inr (N y hy)).mono (by decide) (by decide)⟩⟩
theorem main_1_1 : Claimed_1_1 := comes_1 fun _ _ _ _ _ _ h hF => ⟨h.1, hF⟩
theorem main_1_2 : Claimed_1_2 := comes_1 fun _ _ _ _ _ _ h hF => ⟨h.2.1, hF⟩
end Jvm.Pilot.@@N@@
namespace Jvm.Pilot.@@N@@
open Jvm Jvm.ClassFile Sem Op Lib Jvm.Free Jvm.Stand Jvm.Pilot.@@N@@.Jvm.D
/-! MADE BY PROGRAM (witnessworld.py) out of the Statement's table words and the real class files: 9 classes; the members and pool entries that the words name. The judged class is class 1, her method 1. -/
namespace start1
open Jvm.ClassFile
def u (s : String) : CpInfo := .utf8 (stringToUtf16 s)
/-- a pool by its gaps: so many unusable entries, then the entry; so many at the end -/
def gap : Nat → List CpInfo → List CpInfo
  | 0, r => r
  | n + 1, r => .unusable :: gap n r
def poolList (es : List (Nat × CpInfo)) (last : Nat) : List CpInfo := es.foldr (fun e r => gap e.1 (e.2 :: r)) (gap last [])
def pool (es : List (Nat × CpInfo)) (last : Nat) : Array CpInfo := ⟨poolList es last⟩
def fileOf (pool : Array CpInfo) (this : Nat) (attrs : Array Attribute := #[]) (ms : Array MethodInfo := #[]) (fl : Nat := 33) (sup : Nat := 0) (ifs : Array Nat := #[]) (fds : Array FieldInfo := #[]) : ClassFile where
  minorVersion := 0
  majorVersion := 65
  constantPool := pool
  accessFlags := fl
  thisClass := this
  superClass := sup
  interfaces := ifs
  fields := fds
  methods := ms
  attributes := attrs
def plain (name : String) (sup : Option ClassId) : Class where
  name := name
  kind := .ordinary
  loader := none
  accessFlags := 33
  super := sup
  interfaces := #[]
  cf := none
  fields := #[]
  methods := #[]
  instanceTypes := #[]
  staticTypes := #[]
  resolved := #[]
  callSites := []
  init := .initialized
  statics := none
  mirror := none

def pool0 : Array CpInfo := pool [(5, u "<init>"), (0, u "()V"), (1, .class_ 10), (1, u "java/lang/Object")] 113

def k0m0 : Method := { name := "<init>", desc := "()V", sig := { parameters := [], returnType := none }, accessFlags := 1, code := none }
/-- java/lang/Object -/
def k0 : Class := { plain "java/lang/Object" none with
  accessFlags := 33
  interfaces := #[]
  cf := some (fileOf pool0 8 #[] #[{ accessFlags := 1, nameIndex := 5, descriptorIndex := 6, attributes := #[] }] 33 0 #[] #[])
  fields := #[]
  methods := #[k0m0]
  instanceTypes := #[]
  staticTypes := #[]
  resolved := Array.replicate 124 none
  statics := none }

def pool1 : Array CpInfo := pool [(2, .class_ 4), (1, u "java/lang/Object"), (0, u "<init>"), (0, u "()V"), (0, .long 20), (1, .long 4), (1, .methodref 12 13), (0, .class_ 14), (0, .nameAndType 15 16), (0, u "com/example/branchwise/branchwise/DictionaryFile"), (0, u "size"), (0, u "(JJ)J"), (0, .long 24), (1, .class_ 20), (0, u "com/example/branchwise/branchwise/DictionaryFileSizePinLaw"), (2, u "law"), (0, u "(JJJJ)Z")] 3

def k1m0 : Method := { name := "<init>", desc := "()V", sig := { parameters := [], returnType := none }, accessFlags := 1, code := none }
def k1c1 : Code := { maxStack := 8, maxLocals := 25, code := code, exceptionTable := #[], attributes := #[] }
def k1m1 : Method := { name := "law", desc := "(JJJJ)Z", sig := { parameters := [.long, .long, .long, .long], returnType := some .boolean }, accessFlags := 9, code := some k1c1 }
/-- com/example/branchwise/branchwise/DictionaryFileSizePinLaw -/
def k1 : Class := { plain "com/example/branchwise/branchwise/DictionaryFileSizePinLaw" (some 0) with
  accessFlags := 49
  interfaces := #[]
  cf := some (fileOf pool1 19 #[] #[{ accessFlags := 1, nameIndex := 5, descriptorIndex := 6, attributes := #[] }, { accessFlags := 9, nameIndex := 23, descriptorIndex := 24, attributes := #[] }] 49 2 #[] #[])
  fields := #[]
  methods := #[k1m0, k1m1]
  instanceTypes := #[]
  staticTypes := #[]
  resolved := Array.replicate 28 none
  statics := none }

def pool2 : Array CpInfo := pool [(4, .class_ 6), (1, u "java/lang/Object"), (0, u "<init>"), (0, u "()V"), (0, .class_ 10), (0, u "com/example/branchwise/branchwise/DictionaryFile"), (0, .long 20), (1, .long 9), (1, .long 4), (60, .class_ 77), (0, u "com/example/branchwise/branchwise/DictionaryFile$Output"), (5, u "SIGNATURE"), (0, u "[B"), (8, u "size"), (132, u "(JJ)J"), (2, .class_ 230), (0, u "com/example/branchwise/branchwise/DictionaryFile$Input"), (40, u "HEADER_SIZE"), (0, u "I"), (2, u "SLOT_SIZE"), (1, u "CHECKSUM_SIZE"), (1, u "MAX_SIZE"), (1, u "VERSION"), (0, u "CHUNK_SIZE")] 36

def k2m0 : Method := { name := "<init>", desc := "()V", sig := { parameters := [], returnType := none }, accessFlags := 2, code := none }
def k2c1 : Code := { maxStack := 6, maxLocals := 4, code := prog_11_method_2_code, exceptionTable := #[], attributes := #[] }
def k2m1 : Method := { name := "size", desc := "(JJ)J", sig := { parameters := [.long, .long], returnType := some .long }, accessFlags := 8, code := some k2c1 }
/-- com/example/branchwise/branchwise/DictionaryFile -/
def k2 : Class := { plain "com/example/branchwise/branchwise/DictionaryFile" (some 0) with
  accessFlags := 48
  interfaces := #[]
  cf := some (fileOf pool2 9 #[.nestMembers #[229, 76]] #[{ accessFlags := 2, nameIndex := 7, descriptorIndex := 8, attributes := #[] }, { accessFlags := 8, nameIndex := 93, descriptorIndex := 226, attributes := #[] }] 48 4 #[] #[{ accessFlags := 24, nameIndex := 271, descriptorIndex := 272, attributes := #[] }, { accessFlags := 24, nameIndex := 275, descriptorIndex := 272, attributes := #[] }, { accessFlags := 24, nameIndex := 277, descriptorIndex := 272, attributes := #[] }, { accessFlags := 24, nameIndex := 279, descriptorIndex := 272, attributes := #[] }, { accessFlags := 26, nameIndex := 83, descriptorIndex := 84, attributes := #[] }, { accessFlags := 26, nameIndex := 281, descriptorIndex := 272, attributes := #[] }, { accessFlags := 26, nameIndex := 282, descriptorIndex := 272, attributes := #[] }])
  fields := #[{ name := "HEADER_SIZE", type := .int, accessFlags := 24, slot := 0, constantValue := 0 }, { name := "SLOT_SIZE", type := .int, accessFlags := 24, slot := 1, constantValue := 0 }, { name := "CHECKSUM_SIZE", type := .int, accessFlags := 24, slot := 2, constantValue := 0 }, { name := "MAX_SIZE", type := .int, accessFlags := 24, slot := 3, constantValue := 0 }, { name := "SIGNATURE", type := (.array .byte), accessFlags := 26, slot := 4, constantValue := 0 }, { name := "VERSION", type := .int, accessFlags := 26, slot := 5, constantValue := 0 }, { name := "CHUNK_SIZE", type := .int, accessFlags := 26, slot := 6, constantValue := 0 }]
  methods := #[k2m0, k2m1]
  instanceTypes := #[]
  staticTypes := #[.int, .int, .int, .int, (.array .byte), .int, .int]
  resolved := Array.replicate 319 none
  statics := none }

def pool3 : Array CpInfo := pool [(1, u "java/lang/Cloneable"), (0, .class_ 1), (0, u "java/lang/Object"), (0, .class_ 3)] 3

/-- java/lang/Cloneable -/
def k3 : Class := { plain "java/lang/Cloneable" (some 0) with
  accessFlags := 1537
  interfaces := #[]
  cf := some (fileOf pool3 2 #[] #[] 1537 4 #[] #[])
  fields := #[]
  methods := #[]
  instanceTypes := #[]
  staticTypes := #[]
  resolved := Array.replicate 8 none
  statics := none }

def pool4 : Array CpInfo := pool [(1, u "java/io/Serializable"), (0, .class_ 1), (0, u "java/lang/Object"), (0, .class_ 3)] 3

/-- java/io/Serializable -/
def k4 : Class := { plain "java/io/Serializable" (some 0) with
  accessFlags := 1537
  interfaces := #[]
  cf := some (fileOf pool4 2 #[] #[] 1537 4 #[] #[])
  fields := #[]
  methods := #[]
  instanceTypes := #[]
  staticTypes := #[]
  resolved := Array.replicate 8 none
  statics := none }

/-- the primitive byte -/
def k5 : Class := { plain "byte" none with kind := .primitive 'B', accessFlags := 0x411 }
/-- [B -/
def k6 : Class := { plain "[B" (some 0) with kind := .array 5 .byte, interfaces := #[3, 4], accessFlags := 1041 }

/-- the primitive int -/
def k7 : Class := { plain "int" none with kind := .primitive 'I', accessFlags := 0x411 }
/-- [I -/
def k8 : Class := { plain "[I" (some 0) with kind := .array 7 .int, interfaces := #[3, 4], accessFlags := 1041 }

def heap : Heap := #[]
def classes : Array Class := #[k0, k1, k2, k3, k4, k5, k6, k7, k8]
def interned : List (Array UInt16 × Addr) := []
def slotsUsed : Nat := 0
def theMethod : MethodId := ⟨1, 1⟩
def args0 : Array Value := #[.long 5, .long 5, .long 5, .long 5]
def aboutOver (below : List Frame) : State where
  vm := { classes := classes, interned := interned.toArray }
  heap := heap
  slotsUsed := slotsUsed
  threads := #[{ frames := .invoking theMethod args0 :: below }]
def below0 : List Frame := [.native { method := ⟨0, 0⟩, args := #[] }]
def about1 : State := aboutOver below0
def p0 : Program := .bare "" "" ""
def e0 : Env := launch0.env 0 0 0
theorem w_frames : about1.frames = Frame.invoking theMethod args0 :: below0 := rfl
set_option maxRecDepth 65536 in
theorem w_args : argsFit about1.vm theMethod args0 = true := by decide +kernel
set_option maxRecDepth 65536 in
theorem w_heap : heapFits about1 = true := by decide +kernel
set_option maxRecDepth 65536 in
theorem w_runnable : about1.curStatus? = some .runnable := by decide +kernel
set_option maxRecDepth 65536 in
theorem w_alone : about1.alone = true := by decide +kernel
set_option maxRecDepth 65536 in
theorem w_named : about1.methodNamed? x = some theMethod := by decide +kernel
set_option maxRecDepth 65536 in
theorem w_hears : about1.hears theMethod below0 = true := by decide +kernel
set_option maxRecDepth 65536 in
theorem w_ripe : about1.ripe theMethod args0 below0 = true := by decide +kernel
theorem w_running : about1.status = .running := rfl
set_option maxRecDepth 65536 in
theorem w_room : about1.hasRoom e0.platform room_1 = true :=
  launch0.hasRoom_least _ room_1 (by decide +kernel) (by decide +kernel) (by decide +kernel) (by decide +kernel) (by decide +kernel) (by decide +kernel)
theorem allAtoms_all (ts : List Jvm.Cond) (a : Array Jvm.Value) (st : Jvm.State) : (allAtoms ts).before a st = ts.all (fun c => c.before a st) := by
  induction ts with
  | nil => rfl
  | cons c t ih =>
    show (Jvm.Cond.and c (allAtoms t)).before a st = _
    rw [Jvm.Cond.before_and, ih, List.all_cons]
def words1 : List Jvm.Cond := Jvm.Cond.code x code maxLocals ret :: tables_1
/-- a 'code' word, met by the world's own term for the bytes: nothing is compared byte by byte -/
theorem code_word {y : MethodName} {bytes : ByteArray} {mx : Nat} {rt : Option FieldType} {a : Array Value} {s : State} {m : MethodId} {meth : Method} {c : Code} (h1 : s.methodNamed? y = some m) (h2 : s.vm.method? m = some meth) (h3 : meth.code = some c) (h4 : c.code = bytes)
    (h5 : (c.maxLocals == mx && c.exceptionTable.isEmpty && decide (c.maxStack ≤ mostOperands) && decide (meth.sig.returnType = rt) && !meth.locks && decide (parseMethodDescriptor y.desc = some meth.sig)) = true) : (Jvm.Cond.code y bytes mx rt).before a s = true := by
  simp only [Bool.and_eq_true, beq_iff_eq, Bool.not_eq_true', decide_eq_true_eq] at h5
  obtain ⟨⟨⟨⟨⟨g1, g2⟩, g3⟩, g4⟩, g5⟩, g6⟩ := h5
  simp [Cond.before, Cond.holds, Cond.value, h1, h2, h3, h4, g1, g2, g3, g4, g5, g6]
def isCode : Jvm.Cond → Bool
  | .code _ _ _ _ => true
  | _ => false
theorem all_split {L : List Jvm.Cond} {P : Jvm.Cond → Bool} (h1 : L.all (fun c => isCode c || P c) = true) (h2 : ∀ c ∈ L.filter isCode, P c = true) : L.all P = true := by
  refine List.all_eq_true.mpr fun c hc => ?_
  have h := List.all_eq_true.mp h1 c hc
  rcases Bool.eq_false_or_eq_true (isCode c) with hi | hi
  · exact h2 c (List.mem_filter.mpr ⟨hc, hi⟩)
  · simpa [hi] using h
set_option maxRecDepth 65536 in
theorem w_c0 : (Jvm.Cond.code x code maxLocals ret).before args0 about1 = true := code_word (m := ⟨1, 1⟩) (meth := k1m1) (c := k1c1) (by decide +kernel) rfl rfl rfl (by decide +kernel)
set_option maxRecDepth 65536 in
theorem w_c1 : (Jvm.Cond.code ({ cls := "com/example/branchwise/branchwise/DictionaryFile", name := "size", desc := "(JJ)J" } : Jvm.MethodName) prog_11_method_2_code (4 : Nat) (Option.some Jvm.ClassFile.FieldType.long)).before args0 about1 = true := code_word (m := ⟨2, 1⟩) (meth := k2m1) (c := k2c1) (by decide +kernel) rfl rfl rfl (by decide +kernel)
def codes1 : List Jvm.Cond := [Jvm.Cond.code x code maxLocals ret, Jvm.Cond.code ({ cls := "com/example/branchwise/branchwise/DictionaryFile", name := "size", desc := "(JJ)J" } : Jvm.MethodName) prog_11_method_2_code (4 : Nat) (Option.some Jvm.ClassFile.FieldType.long)]
set_option maxRecDepth 65536 in
theorem codes_eq : words1.filter isCode = codes1 := rfl
theorem w_codes : ∀ c ∈ words1.filter isCode, c.before args0 about1 = true := by
  rw [codes_eq]
  intro c hc
  simp only [codes1, List.mem_cons, List.not_mem_nil, or_false] at hc
  rcases hc with rfl | rfl
  · exact w_c0
  · exact w_c1
set_option maxRecDepth 65536 in
theorem w_t1 : words1.all (fun c => isCode c || c.before args0 about1) = true := by decide +kernel
theorem w_tables : (allAtoms (Jvm.Cond.code x code maxLocals ret :: tables_1)).before args0 about1 = true := by
  rw [allAtoms_all]
  show words1.all (fun c => c.before args0 about1) = true
  refine all_split ?_ w_codes
  rw [w_t1]
set_option maxRecDepth 65536 in
theorem w_case : (Jvm.Cond.and given_1 narrow_1).before args0 about1 = true := by decide +kernel
theorem w_applies : (headSpec (Jvm.Cond.code x code maxLocals ret :: tables_1) room_1).applies x e0.platform about1 = true :=
  (Spec.applies_iff w_frames).mpr ⟨w_running, w_runnable, w_alone, w_named, w_hears, w_ripe, w_room, w_tables⟩
theorem atStart : AtStart classFile x code maxLocals ret World_1 tables_1 room_1 Calls_1 rest_1 Pre_1 launch0 p0 e0 about1 theMethod args0 below0 :=
  ⟨lists_1, trivial, launch0.admits_env _ _ _, launch0.least_env, fairChoices_fair.cas, fairChoices_fair.clock, w_frames, w_args, w_heap, w_applies, trivial, trivial, w_case⟩
end start1
theorem witness_1 : WitnessClaimed_1 := ⟨start1.p0, start1.e0, start1.about1, start1.theMethod, start1.args0, start1.below0, start1.atStart⟩
end Jvm.Pilot.@@N@@
