import JvmDerived
import JvmDerived.Pilot.@@N@@Statement
import JvmDerived.Pilot.@@N@@Code
set_option linter.unusedVariables false
set_option linter.unusedSimpArgs false
namespace Jvm.Pilot.@@N@@
open Jvm Jvm.ClassFile Sem Op Lib Jvm.Free Jvm.Stand Jvm.LawKit Jvm.RoadKit Bundle Jvm.Pilot.@@N@@.Jvm.D
section Own
variable {p : Program} {l : Launch} {e : Env} {R : Room} {s : State} {m : MethodId} {args : Array Value} {below : List Frame} {meth : Method} {c : Code} {T : State} {locs : List Loc} {cells slots : Nat} {Z : State} {h h' : Heap} {a b : Addr}
/-- from A the run comes to its return, and Q holds there -/
def own_Goes (p : Program) (e : Env) (below : List Frame) (s : State) (Q : Option Value → Heap → List Loc → Prop) (kc ks : Nat) (A : State) : Prop :=
  ∃ s₂ o, Steps p.tables e below A s₂ ∧ s₂.status = .running ∧ Ended s₂ below o ∧ ∃ v L, o = .returned v ∧ Q v s₂.heap L ∧ FrameEnd s o s₂ L kc ks
theorem own_go {Q : Option Value → Heap → List Loc → Prop} {kc ks : Nat} {A B : State} (st : ∀ t, Steps p.tables e below B t → Steps p.tables e below A t) (k : own_Goes p e below s Q kc ks B) : own_Goes p e below s Q kc ks A := by
  obtain ⟨s2, o, h1, h2⟩ := k
  exact ⟨s2, o, st _ h1, h2⟩
theorem own_w {a0 : Array Value} {Z : State} (hw : ∀ d ∈ tables_1, d.before a0 Z = true) (i : Nat) {d : Jvm.Cond} (h : tables_1[i]? = some d) : d.before a0 Z = true := hw d (List.mem_of_getElem? h)
theorem own_selP {y y' : MethodName} (hs : (Cond.selects y'.cls y' y').before args s = true) (he : y.cls = y'.cls) (hpriv : s.PrivateAt y) (hinst : (Cond.instanceMethod y).before args s = true) (hy : y.cls ≠ "java/lang/invoke/MethodHandle" ∧ y.cls ≠ "java/lang/invoke/VarHandle") : (Cond.selects y.cls y y).before args s = true := by
  obtain ⟨c2, r2, m2, q1, q2, q3, q4, kP, hkP, hkPi⟩ := Cond.selects_spec hs
  exact selects_self_of_private (by rw [he]; exact findClass_of_methodNamed q3) hkP hkPi hpriv hinst hy
theorem own_st {tb : Tables} {A B t : State} (h1 : Steps tb e below A B) (k : Steps tb e below B t) : Steps tb e below A t := h1.trans k
theorem own_out {Q : Option Value → Heap → List Loc → Prop} {kc ks : Nat} {A : State} (X : Stand p l e R s m args below meth c T locs cells slots) {v : Option Value} (hv : meth.sig.returnType = none → v = none) (hlk : meth.locks = false)
    (st : ∀ fs, (∀ (f : JFrame) (acts : List Action), f.method = m → f.locked = none → f.entered = [] → (doReturn e (T.setTop f) acts v).1 = T.setFrames fs) → Steps p.tables e below A (T.setFrames fs))
    (hq : Q v T.heap locs) (hc : cells ≤ kc) (hs : slots ≤ ks) : own_Goes p e below s Q kc ks A := by
  obtain ⟨fs, hr, hrun, hended, hW, hsame⟩ := X.leave hv hlk
  exact ⟨_, _, st fs hr, hrun, hended, _, _, rfl, hq, ⟨_, rfl⟩, hW, hsame.mono hc hs⟩
theorem own_irem {tb : Tables} [Ours tb] {T target : State} {g : JFrame} (h : At T m c below) (hx : tb.exec = Jvm.exec) (hg : g.method = m) {x y : Int32} {rest : List Value} (hd : decode c.code g.pc = .ok (.irem, 1)) (hs : g.stack = .int y :: .int x :: rest) (hy : y ≠ 0)
    (hr : Steps tb e below (T.setTop { g with pc := g.pc + 1, stack := .int (x % y) :: rest }) target) : Steps tb e below (T.setTop g) target := XS.irem h hx hg hd hs hy (by rw [irem_eq_mod]; exact hr)
theorem own_lrem {tb : Tables} [Ours tb] {T target : State} {g : JFrame} (h : At T m c below) (hx : tb.exec = Jvm.exec) (hg : g.method = m) {x y : Int64} {rest : List Value} (hd : decode c.code g.pc = .ok (.lrem, 1)) (hs : g.stack = .long y :: .long x :: rest) (hy : y ≠ 0)
    (hr : Steps tb e below (T.setTop { g with pc := g.pc + 1, stack := .long (x % y) :: rest }) target) : Steps tb e below (T.setTop g) target := XS.lrem h hx hg hd hs hy (by rw [lrem_mod]; exact hr)
/-- an array of ints (bytes, booleans): its length, and what each place holds -/
def own_IA (Z : State) (h : Heap) (a : Addr) (ty : FieldType) (n : Nat) (f : Nat → Int32) : Prop := ∃ c : Cell, Arr Z h a c ty ∧ c.slots.size = n ∧ ∀ i, i < n → c.slots[i]? = some (.int (f i))
/-- an array of longs -/
def own_LA (Z : State) (h : Heap) (a : Addr) (n : Nat) (f : Nat → Int64) : Prop := ∃ c : Cell, Arr Z h a c .long ∧ c.slots.size = n ∧ ∀ i, i < n → c.slots[i]? = some (.long (f i))
def own_upd {α : Type} (f : Nat → α) (j : Nat) (x : α) (i : Nat) : α := if i = j then x else f i
theorem own_upd_hit {α : Type} (f : Nat → α) (j : Nat) (x : α) : own_upd f j x j = x := if_pos rfl
theorem own_upd_miss {α : Type} (f : Nat → α) {i j : Nat} (x : α) (q : i ≠ j) : own_upd f j x i = f i := if_neg q
section Arrays
variable {ty : FieldType} {n : Nat} {f : Nat → Int32} {fl : Nat → Int64} {sl : Nat} {v : Value} {ws : List Addr}
theorem own_IA.lt (F : own_IA Z h a ty n f) : a < h.size := by obtain ⟨c, A, -⟩ := F; exact A.lt
theorem own_LA.lt (F : own_LA Z h a n fl) : a < h.size := by obtain ⟨c, A, -⟩ := F; exact A.lt
theorem own_IA.ext (F : own_IA Z h a ty n f) (E : Ext h h') : own_IA Z h' a ty n f := by obtain ⟨c, A, r⟩ := F; exact ⟨c, A.ext E, r⟩
theorem own_LA.ext (F : own_LA Z h a n fl) (E : Ext h h') : own_LA Z h' a n fl := by obtain ⟨c, A, r⟩ := F; exact ⟨c, A.ext E, r⟩
theorem own_IA.other (F : own_IA Z h b ty n f) (W : Wr h h' a sl v) (q : b ≠ a) : own_IA Z h' b ty n f := by obtain ⟨c, A, r⟩ := F; exact ⟨c, A.other W q, r⟩
theorem own_LA.other (F : own_LA Z h b n fl) (W : Wr h h' a sl v) (q : b ≠ a) : own_LA Z h' b n fl := by obtain ⟨c, A, r⟩ := F; exact ⟨c, A.other W q, r⟩
theorem own_IA.keep (F : own_IA Z h a ty n f) (K : Keep h h' ws) (q : a ∉ ws) : own_IA Z h' a ty n f := by obtain ⟨c, A, r⟩ := F; exact ⟨c, ⟨K.2.1 a c A.1 q, A.2⟩, r⟩
theorem own_LA.keep (F : own_LA Z h a n fl) (K : Keep h h' ws) (q : a ∉ ws) : own_LA Z h' a n fl := by obtain ⟨c, A, r⟩ := F; exact ⟨c, ⟨K.2.1 a c A.1 q, A.2⟩, r⟩
theorem own_IA.cong {g : Nat → Int32} (F : own_IA Z h a ty n f) (q : ∀ i, i < n → f i = g i) : own_IA Z h a ty n g := by obtain ⟨c, A, r, u⟩ := F; exact ⟨c, A, r, fun i hi => by rw [u i hi, q i hi]⟩
theorem own_LA.cong {g : Nat → Int64} (F : own_LA Z h a n fl) (q : ∀ i, i < n → fl i = g i) : own_LA Z h a n g := by obtain ⟨c, A, r, u⟩ := F; exact ⟨c, A, r, fun i hi => by rw [u i hi, q i hi]⟩
theorem own_in {cl : Cell} {j : Int32} {k : Nat} (S : cl.slots.size = n) (h1 : ¬ j < 0) (hk : j.toNatClampNeg = k) (h2 : k < n) : ¬ (j < 0 ∨ cl.slots.size ≤ j.toNatClampNeg) := by
  rintro (q | q)
  · exact h1 q
  · rw [S, hk] at q; exact absurd h2 (Nat.not_lt.mpr q)
theorem own_set {cl : Cell} {k : Nat} (S : cl.slots.size = n) (h2 : k < n) (v : Value) (i : Nat) : (cl.setSlot k v).slots[i]? = if i = k then some v else cl.slots[i]? := by
  by_cases q : i = k
  · subst q; rw [if_pos rfl]; exact Array.getElem?_setIfInBounds_self_of_lt (by rw [S]; exact h2)
  · rw [if_neg q]; exact Array.getElem?_setIfInBounds_ne (fun z => q z.symm)
theorem own_Inew {k : ClassId} {z : Int32} (A : Arr Z h a (newA k ty z) ty) (hz : z.toNatClampNeg = n) (hd : defaultValue ty = .int 0) : own_IA Z h a ty n (fun _ => 0) := by
  refine ⟨_, A, by rw [sz_new, hz], fun i hi => ?_⟩
  show (Array.replicate z.toNatClampNeg (defaultValue ty))[i]? = _
  rw [hz, hd, Array.getElem?_replicate, if_pos hi]
theorem own_Lnew {k : ClassId} {z : Int32} (A : Arr Z h a (newA k .long z) .long) (hz : z.toNatClampNeg = n) : own_LA Z h a n (fun _ => 0) := by
  refine ⟨_, A, by rw [sz_new, hz], fun i hi => ?_⟩
  show (Array.replicate z.toNatClampNeg (defaultValue .long))[i]? = _
  rw [hz, Array.getElem?_replicate, if_pos hi]; rfl
theorem own_iaload (X : Stand p l e R s m args below meth c T locs cells slots) (hx : p.tables.exec = Jvm.exec) (hZ : Z.Warmed39 s.vm) (eT : T.heap = h) (V : own_IA Z h a .int n f) {j : Int32} {k : Nat} (h1 : ¬ j < 0) (hk : j.toNatClampNeg = k) (h2 : k < n) {pc : Nat} {Ls : Array Slot} {rest : List Value} (hd : decode c.code pc = .ok (.iaload, 1)) (t : State)
    (kk : Steps p.tables e below (T.setTop (mkF m (pc + 1) Ls (.int (f k) :: rest))) t) : Steps p.tables e below (T.setTop (mkF m pc Ls (.int j :: .ref a :: rest))) t := by
  obtain ⟨cl, A, S, H⟩ := V
  exact X.iaload hx (j := j) (v := .int (f k)) (by rw [eT]; exact A.1) (State.isArrayOf_alike hZ.alike A.2.1) A.2.2 (own_in S h1 hk h2) (by rw [hk]; exact H _ h2) (g := mkF m pc Ls (.int j :: .ref a :: rest)) rfl rfl hd t kk
theorem own_baload (X : Stand p l e R s m args below meth c T locs cells slots) (hx : p.tables.exec = Jvm.exec) (hZ : Z.Warmed39 s.vm) (eT : T.heap = h) (V : own_IA Z h a .byte n f) {j : Int32} {k : Nat} (h1 : ¬ j < 0) (hk : j.toNatClampNeg = k) (h2 : k < n) {pc : Nat} {Ls : Array Slot} {rest : List Value} (hd : decode c.code pc = .ok (.baload, 1)) (t : State)
    (kk : Steps p.tables e below (T.setTop (mkF m (pc + 1) Ls (.int (f k) :: rest))) t) : Steps p.tables e below (T.setTop (mkF m pc Ls (.int j :: .ref a :: rest))) t := by
  obtain ⟨cl, A, S, H⟩ := V
  exact X.baloadBytes hx (j := j) (v := .int (f k)) (by rw [eT]; exact A.1) (State.isArrayOf_alike hZ.alike A.2.1) A.2.2 (own_in S h1 hk h2) (by rw [hk]; exact H _ h2) (g := mkF m pc Ls (.int j :: .ref a :: rest)) rfl rfl hd t kk
theorem own_laload (X : Stand p l e R s m args below meth c T locs cells slots) (hx : p.tables.exec = Jvm.exec) (hZ : Z.Warmed39 s.vm) (eT : T.heap = h) (V : own_LA Z h a n fl) {j : Int32} {k : Nat} (h1 : ¬ j < 0) (hk : j.toNatClampNeg = k) (h2 : k < n) {pc : Nat} {Ls : Array Slot} {rest : List Value} (hd : decode c.code pc = .ok (.laload, 1)) (t : State)
    (kk : Steps p.tables e below (T.setTop (mkF m (pc + 1) Ls (.long (fl k) :: rest))) t) : Steps p.tables e below (T.setTop (mkF m pc Ls (.int j :: .ref a :: rest))) t := by
  obtain ⟨cl, A, S, H⟩ := V
  exact X.laload hx (j := j) (v := .long (fl k)) (by rw [eT]; exact A.1) (State.isArrayOf_alike hZ.alike A.2.1) A.2.2 (own_in S h1 hk h2) (by rw [hk]; exact H _ h2) (g := mkF m pc Ls (.int j :: .ref a :: rest)) rfl rfl hd t kk
theorem own_alen (X : Stand p l e R s m args below meth c T locs cells slots) (hx : p.tables.exec = Jvm.exec) (hZ : Z.Warmed39 s.vm) (eT : T.heap = h) (V : own_IA Z h a ty n f) {z : Int32} (hl : n.toInt32 = z) {pc : Nat} {Ls : Array Slot} {rest : List Value} (hd : decode c.code pc = .ok (.arraylength, 1)) (t : State)
    (kk : Steps p.tables e below (T.setTop (mkF m (pc + 1) Ls (.int z :: rest))) t) : Steps p.tables e below (T.setTop (mkF m pc Ls (.ref a :: rest))) t := by
  obtain ⟨cl, A, S, H⟩ := V
  exact X.arraylength hx (by rw [eT]; exact A.1) (State.isArrayOf_alike hZ.alike A.2.1) (g := mkF m pc Ls (.ref a :: rest)) rfl rfl hd t (by rw [S, hl]; exact kk)
theorem own_alenL (X : Stand p l e R s m args below meth c T locs cells slots) (hx : p.tables.exec = Jvm.exec) (hZ : Z.Warmed39 s.vm) (eT : T.heap = h) (V : own_LA Z h a n fl) {z : Int32} (hl : n.toInt32 = z) {pc : Nat} {Ls : Array Slot} {rest : List Value} (hd : decode c.code pc = .ok (.arraylength, 1)) (t : State)
    (kk : Steps p.tables e below (T.setTop (mkF m (pc + 1) Ls (.int z :: rest))) t) : Steps p.tables e below (T.setTop (mkF m pc Ls (.ref a :: rest))) t := by
  obtain ⟨cl, A, S, H⟩ := V
  exact X.arraylength hx (by rw [eT]; exact A.1) (State.isArrayOf_alike hZ.alike A.2.1) (g := mkF m pc Ls (.ref a :: rest)) rfl rfl hd t (by rw [S, hl]; exact kk)
theorem own_iastore (X : Stand p l e R s m args below meth c T locs cells slots) (hx : p.tables.exec = Jvm.exec) (hZ : Z.Warmed39 s.vm) (eT : T.heap = h) (V : own_IA Z h a .int n f) {j x : Int32} {k : Nat} (h1 : ¬ j < 0) (hk : j.toNatClampNeg = k) (h2 : k < n) {g : JFrame} (hg : g.method = m) {rest : List Value} (hs : g.stack = .int x :: .int j :: .ref a :: rest) (hd : decode c.code g.pc = .ok (.iastore, 1)) :
    ∃ T' h', Stand p l e R s m args below meth c T' (locs ++ [⟨a, k⟩]) cells slots ∧ T'.heap = h' ∧ Wr h h' a k (.int x) ∧ own_IA Z h' a .int n (own_upd f k x) ∧ ∀ target, Steps p.tables e below (T'.setTop { g with pc := g.pc + 1, stack := rest }) target → Steps p.tables e below (T.setTop g) target := by
  obtain ⟨cl, A, S, H⟩ := V
  obtain ⟨T', h', X', e', W, st⟩ := stI X hx hZ eT A (own_in S h1 hk h2) hg hs hd
  rw [hk] at X' W
  refine ⟨T', h', X', e', W, ⟨_, A.same W, by rw [sz_set, S], fun i hi => ?_⟩, st⟩
  rw [own_set S h2]; unfold own_upd
  by_cases q : i = k
  · rw [if_pos q, if_pos q]
  · rw [if_neg q, if_neg q]; exact H i hi
theorem own_bastore (X : Stand p l e R s m args below meth c T locs cells slots) (hx : p.tables.exec = Jvm.exec) (hZ : Z.Warmed39 s.vm) (eT : T.heap = h) (V : own_IA Z h a .byte n f) {j x : Int32} {k : Nat} (h1 : ¬ j < 0) (hk : j.toNatClampNeg = k) (h2 : k < n) {g : JFrame} (hg : g.method = m) {rest : List Value} (hs : g.stack = .int x :: .int j :: .ref a :: rest) (hd : decode c.code g.pc = .ok (.bastore, 1)) :
    ∃ T' h', Stand p l e R s m args below meth c T' (locs ++ [⟨a, k⟩]) cells slots ∧ T'.heap = h' ∧ Wr h h' a k (.int x.toInt8.toInt32) ∧ own_IA Z h' a .byte n (own_upd f k x.toInt8.toInt32) ∧ ∀ target, Steps p.tables e below (T'.setTop { g with pc := g.pc + 1, stack := rest }) target → Steps p.tables e below (T.setTop g) target := by
  obtain ⟨cl, A, S, H⟩ := V
  obtain ⟨T', h', X', e', W, st⟩ := stB X hx hZ eT A (own_in S h1 hk h2) hg hs hd
  rw [hk] at X' W
  refine ⟨T', h', X', e', W, ⟨_, A.same W, by rw [sz_set, S], fun i hi => ?_⟩, st⟩
  rw [own_set S h2]; unfold own_upd
  by_cases q : i = k
  · rw [if_pos q, if_pos q]; rfl
  · rw [if_neg q, if_neg q]; exact H i hi
theorem own_lastore (X : Stand p l e R s m args below meth c T locs cells slots) (hx : p.tables.exec = Jvm.exec) (hZ : Z.Warmed39 s.vm) (eT : T.heap = h) (V : own_LA Z h a n fl) {j : Int32} {x : Int64} {k : Nat} (h1 : ¬ j < 0) (hk : j.toNatClampNeg = k) (h2 : k < n) {g : JFrame} (hg : g.method = m) {rest : List Value} (hs : g.stack = .long x :: .int j :: .ref a :: rest) (hd : decode c.code g.pc = .ok (.lastore, 1)) :
    ∃ T' h', Stand p l e R s m args below meth c T' (locs ++ [⟨a, k⟩]) cells slots ∧ T'.heap = h' ∧ Wr h h' a k (.long x) ∧ own_LA Z h' a n (own_upd fl k x) ∧ ∀ target, Steps p.tables e below (T'.setTop { g with pc := g.pc + 1, stack := rest }) target → Steps p.tables e below (T.setTop g) target := by
  obtain ⟨cl, A, S, H⟩ := V
  obtain ⟨T', h', X', e', W, st⟩ := stJ X hx hZ eT A (own_in S h1 hk h2) hg hs hd
  rw [hk] at X' W
  refine ⟨T', h', X', e', W, ⟨_, A.same W, by rw [sz_set, S], fun i hi => ?_⟩, st⟩
  rw [own_set S h2]; unfold own_upd
  by_cases q : i = k
  · rw [if_pos q, if_pos q]
  · rw [if_neg q, if_neg q]; exact H i hi
theorem own_clone (X : Stand p l e R s m args below meth c T locs cells slots) (hx : p.tables.exec = Jvm.exec) (hZ : Z.Warmed39 s.vm) {a0 : Array Value} {own ad : String} {index : Nat} (hown : s.vm.findClass own = some m.cls)
    (w1 : (Cond.methodLink own index ⟨ad, "clone", "()Ljava/lang/Object;"⟩).before a0 Z = true) (w2 : (Cond.sameMethod ad "java/lang/Object" "clone" "()Ljava/lang/Object;").before a0 Z = true) (w3 : (Cond.native ⟨"java/lang/Object", "clone", "()Ljava/lang/Object;"⟩).before a0 Z = true)
    (w4 : (Cond.instanceMethod ⟨"java/lang/Object", "clone", "()Ljava/lang/Object;"⟩).before a0 Z = true) (w5 : (Cond.selects ad ⟨ad, "clone", "()Ljava/lang/Object;"⟩ ⟨"java/lang/Object", "clone", "()Ljava/lang/Object;"⟩).before a0 Z = true) (w6 : (Cond.castable ad "java/lang/Cloneable").before a0 Z = true)
    (eT : T.heap = h) (V : own_IA Z h a .int n f) (E : Exa Z h a ad) {g : JFrame} (hg : g.method = m) (hsize : g.locals.size = c.maxLocals) {rest : List Value} (hst : g.stack = .ref a :: rest) (hd : decode c.code g.pc = .ok (.invokevirtual index, 3))
    (hf : 1 ≤ R.frames) {W cap : Nat} (hW : 2 * g.monitorRoom + (rest.map fun v => v.category).sum ≤ W) (hl : W + 14 ≤ R.locals) (hcap : n ≤ cap) (hc : cells + 1 ≤ R.cells) (hsl : slots + cap ≤ R.slots) :
    ∃ T' h', Stand p l e R s m args below meth c T' locs (cells + 1) (slots + cap) ∧ T'.heap = h' ∧ Ext h h' ∧ own_IA Z h' h.size .int n f ∧ Exa Z h' h.size ad ∧
      ∀ target, Steps p.tables e below (T'.setTop { g with pc := g.pc + 3, stack := .ref h.size :: rest }) target → Steps p.tables e below (T.setTop g) target := by
  obtain ⟨cl, A, S, H⟩ := V
  have FC : FitC Z cl := fitC_of A fun i hi v hv => by rw [H i (by rw [← S]; exact hi)] at hv; cases hv; rfl
  obtain ⟨T', h', X', e', ex, A', E', st⟩ := cloneA X hx hZ hown w1 w2 w3 w4 w5 w6 eT A E FC hg hsize hst hd hf hW hl (by rw [S]; exact hcap) hc hsl
  exact ⟨T', h', X', e', ex, ⟨cloneOf cl, A', S, H⟩, E', st⟩
end Arrays
end Own
theorem pn_tessera_SynchronousNetwork_Format : plainName "tessera/SynchronousNetwork$Format" = true := by first | (simp [plainName, overriddenIn]; done) | decide +kernel
theorem d1_0 : decode prog_65_method_1_code 0 = .ok (.aload_n 0, 1) := by decide +kernel
theorem d1_1 : decode prog_65_method_1_code 1 = .ok (.invokespecial 1, 3) := by decide +kernel
theorem d1_4 : decode prog_65_method_1_code 4 = .ok (.aload_n 0, 1) := by decide +kernel
theorem d1_5 : decode prog_65_method_1_code 5 = .ok (.aload_n 1, 1) := by decide +kernel
theorem d1_6 : decode prog_65_method_1_code 6 = .ok (.invokevirtual 7, 3) := by decide +kernel
theorem d1_9 : decode prog_65_method_1_code 9 = .ok (.checkcast 8, 3) := by decide +kernel
theorem d1_12 : decode prog_65_method_1_code 12 = .ok (.putfield 13, 3) := by decide +kernel
theorem d1_15 : decode prog_65_method_1_code 15 = .ok (.return_, 1) := by decide +kernel
theorem ef_1 (m : MethodId) (x0 : Addr) (x1 : Addr) : entryFrame m #[(.ref x0), (.ref x1)] 2 = mkF m 0 #[.val (.ref x0), .val (.ref x1)] [] := by first | (simp [entryFrame, mkF, argsToLocals, Value.category]; done) | rfl
def own_Q1 (Z : State) (zs : Addr) (zb : Addr) (zf : Nat → Int32) (h0 : Heap) (n0 : Nat) (v : Option Value) (h : Heap) (L : List Loc) : Prop := v = none ∧ Fr n0 L ∧ ∃ zc : Addr, h0.size ≤ zc ∧ Keep h0 h [zs] ∧ Exa Z h zs "tessera/SynchronousNetwork$Format" ∧ Fld Z h zs "tessera/SynchronousNetwork$Format" "largest" "[I" (.ref zc) ∧ own_IA Z h zc .int 2 zf
set_option maxRecDepth 65536 in
set_option maxHeartbeats 40000000 in
theorem rm1 (l : Launch) (Z : State) (a0 : Array Value) (hw : ∀ d ∈ tables_1, d.before a0 Z = true) (ws : List Jvm.Cond) (zs : Addr) (zb : Addr) (zf : Nat → Int32) (h0 : Heap) (n0 : Nat) (Z0 : n0 ≤ h0.size) (E_zs : Exa Z h0 zs "tessera/SynchronousNetwork$Format") (F_zs_largest : Fld Z h0 zs "tessera/SynchronousNetwork$Format" "largest" "[I" .null) (E_zb : Exa Z h0 zb "[I") (V_zb : own_IA Z h0 zb .int 2 zf) (g_zs : n0 ≤ zs) (ne_zs_zb : zs ≠ zb) :
    MetFree l (⟨"tessera/SynchronousNetwork$Format", "<init>", "([I)V"⟩ : MethodName) (head1 (Jvm.Cond.code (⟨"tessera/SynchronousNetwork$Format", "<init>", "([I)V"⟩ : MethodName) prog_65_method_1_code 2 none :: ws) ({ frames := 1, cells := 1, slots := 2, locals := 15 } : Room)) (fun a U => a = #[(.ref zs), (.ref zb)] ∧ Z.Warmed39 U.vm ∧ U.heap = h0) (fun _ _ _ _ _ => True) (fun _ U o U' => ∃ v L, o = .returned v ∧ own_Q1 Z zs zb zf h0 n0 v U'.heap L ∧ FrameEnd U o U' L ({ frames := 1, cells := 1, slots := 2, locals := 15 } : Room).cells ({ frames := 1, cells := 1, slots := 2, locals := 15 } : Room).slots) := by
  refine MetFree.of_bodySF (plainFor_of_name pn_tessera_SynchronousNetwork_Format) hisR ?_
  intro p e s m args below meth c s₁ Bd hml0 hP hK
  obtain ⟨rfl, hZ, hh⟩ := hP
  have hx := Bd.exec
  have hby := Bd.bytes
  have hml : c.maxLocals = 2 := hml0
  have hown : s.vm.findClass "tessera/SynchronousNetwork$Format" = some m.cls := findClass_of_methodNamed Bd.named
  have hnm := (name_of_methodNamed Bd.named Bd.method).1
  have X0 : Stand p l e ({ frames := 1, cells := 1, slots := 2, locals := 15 } : Room) s m #[(.ref zs), (.ref zb)] below meth c s₁ [] 0 0 := Stand.of_body Bd
  have e0 : s₁.heap = h0 := by rw [← hh, Bd.state]; rfl
  have N0 := Fr.nil n0
  have Zs := Z0
  have K : Keep h0 h0 [zs] := Keep.refl _ _
  show own_Goes p e below s (own_Q1 Z zs zb zf h0 n0) ({ frames := 1, cells := 1, slots := 2, locals := 15 } : Room).cells ({ frames := 1, cells := 1, slots := 2, locals := 15 } : Room).slots _
  refine own_go (B := s₁.setTop (mkF m 0 #[.val (.ref zs), .val (.ref zb)] [])) (fun t k => castTop (ef_1 m zs zb) k) ?_
  refine own_go (B := s₁.setTop (mkF m 1 #[.val (.ref zs), .val (.ref zb)] [(.ref zs)])) (fun t k => XS.aloadN X0.here hx rfl (Jvm.hb hby d1_0) rfl rfl k) ?_
  obtain ⟨T1, X1, e1, st1⟩ := initO X0 hx hZ hown (own_w hw 8 rfl) (own_w hw 9 rfl) (own_w hw 10 rfl) e0 (g := (mkF m 1 #[.val (.ref zs), .val (.ref zb)] [(.ref zs)])) rfl (by rw [hml]; rfl) rfl (Jvm.hb hby d1_1) (by decide) (W := 0) (by show 2 * 0 + _ ≤ _; exact Nat.le_of_eq rfl) (by decide)
  refine own_go (B := T1.setTop (mkF m 4 #[.val (.ref zs), .val (.ref zb)] [])) (fun t k => st1 _ k) ?_
  refine own_go (B := T1.setTop (mkF m 5 #[.val (.ref zs), .val (.ref zb)] [(.ref zs)])) (fun t k => XS.aloadN X1.here hx rfl (Jvm.hb hby d1_4) rfl rfl k) ?_
  refine own_go (B := T1.setTop (mkF m 6 #[.val (.ref zs), .val (.ref zb)] [(.ref zb), (.ref zs)])) (fun t k => XS.aloadN X1.here hx rfl (Jvm.hb hby d1_5) rfl rfl k) ?_
  obtain ⟨T2, h2, X2, e2, E2, A2, Ea2, st2⟩ := own_clone X1 hx hZ hown (own_w hw 11 rfl) (own_w hw 12 rfl) (own_w hw 16 rfl) (own_w hw 14 rfl) (own_w hw 15 rfl) (own_w hw 17 rfl) e1 V_zb E_zb (g := (mkF m 6 #[.val (.ref zs), .val (.ref zb)] [(.ref zb), (.ref zs)])) rfl (by rw [hml]; rfl) rfl (Jvm.hb hby d1_6) (by decide) (W := 1) (cap := 2) (by show 2 * 0 + _ ≤ _; exact Nat.le_of_eq rfl) (by decide) (by decide) (by decide) (by decide)
  obtain ⟨b2, g2⟩ : ∃ z, z = h0.size := ⟨_, rfl⟩
  rw [← g2] at A2 Ea2 st2
  have ne_zs_b2 : zs ≠ b2 := Nat.ne_of_lt (Nat.lt_of_lt_of_le E_zs.lt (Nat.le_of_eq g2.symm))
  have ne_zb_b2 : zb ≠ b2 := Nat.ne_of_lt (Nat.lt_of_lt_of_le E_zb.lt (Nat.le_of_eq g2.symm))
  have g_b2 : n0 ≤ b2 := Nat.le_trans Zs (Nat.le_of_eq g2.symm)
  have sz_b2 : h0.size ≤ b2 := Nat.le_trans K.1 (Nat.le_of_eq g2.symm)
  have E_zs := E_zs.ext E2
  have F_zs_largest := F_zs_largest.ext E2
  have E_zb := E_zb.ext E2
  have V_zb := V_zb.ext E2
  have K := K.ext E2
  have Zs := Nat.le_trans Zs E2.1
  have E_b2 := Ea2
  have V_b2 := A2
  refine own_go (B := T2.setTop (mkF m 9 #[.val (.ref zs), .val (.ref zb)] [(.ref b2), (.ref zs)])) (fun t k => st2 _ k) ?_
  obtain ⟨T3, X3, e3, st3⟩ := castY X2 hx hZ hown (own_w hw 18 rfl) e2 (Ins.self E_b2) (g := (mkF m 9 #[.val (.ref zs), .val (.ref zb)] [(.ref b2), (.ref zs)])) rfl rfl (Jvm.hb hby d1_9)
  refine own_go (B := T3.setTop (mkF m 12 #[.val (.ref zs), .val (.ref zb)] [(.ref b2), (.ref zs)])) (fun t k => st3 _ k) ?_
  obtain ⟨T4, h4, X4, e4, W4, st4⟩ := putF X3 hx hZ hown (host := "") (Or.inl (own_w hw 20 rfl)) Via.refl e3 F_zs_largest E_zs (Or.inr ⟨(own_w hw 21 rfl), rfl, hnm⟩) (own_w hw 2 rfl) (ty := (.array .int)) (by decide) rfl rfl (g := (mkF m 12 #[.val (.ref zs), .val (.ref zb)] [(.ref b2), (.ref zs)])) rfl rfl (Jvm.hb hby d1_12)
  have N4 := Fr.snoc X4 N0 g_zs
  have E_zs := E_zs.wr W4
  have F_zs_largest := F_zs_largest.same W4
  have E_zb := E_zb.wr W4
  have V_zb := V_zb.other W4 (Ne.symm ne_zs_zb)
  have E_b2 := E_b2.wr W4
  have V_b2 := V_b2.other W4 (Ne.symm ne_zs_b2)
  have K := K.wr W4 (Or.inl (List.mem_of_getElem? (i := 0) rfl))
  have Zs := Nat.le_trans Zs (Keep.of_wr W4).1
  refine own_go (B := T4.setTop (mkF m 15 #[.val (.ref zs), .val (.ref zb)] [])) (fun t k => st4 _ k) ?_
  refine own_out X4 (v := none) (fun _ => rfl) Bd.notSynchronized (fun fs hr => X4.returnOut hx Bd.returns (Jvm.hb hby d1_15) hr) ?_ (by decide) (by decide)
  show own_Q1 Z zs zb zf h0 n0 none T4.heap _
  rw [e4]
  exact ⟨rfl, N4, b2, sz_b2, K, E_zs, F_zs_largest, V_b2⟩
def own_fits (zv : Int32) (zn : Int32) (zf : Nat → Int32) (zk : Nat) : Int32 := (if zv < (0 : Int32) then (0 : Int32) else (if (zf zk) = (-1 : Int32) then (if zv < zn then (1 : Int32) else (0 : Int32)) else (if (zf zk) < zv then (0 : Int32) else (1 : Int32))))
theorem d3_0 : decode prog_65_method_4_code 0 = .ok (.iload_n 2, 1) := by decide +kernel
theorem d3_1 : decode prog_65_method_4_code 1 = .ok (.ifCond .lt 35, 3) := by decide +kernel
theorem d3_4 : decode prog_65_method_4_code 4 = .ok (.aload_n 0, 1) := by decide +kernel
theorem d3_5 : decode prog_65_method_4_code 5 = .ok (.getfield 13, 3) := by decide +kernel
theorem d3_8 : decode prog_65_method_4_code 8 = .ok (.iload_n 1, 1) := by decide +kernel
theorem d3_9 : decode prog_65_method_4_code 9 = .ok (.iaload, 1) := by decide +kernel
theorem d3_10 : decode prog_65_method_4_code 10 = .ok (.iconst (-1), 1) := by decide +kernel
theorem d3_11 : decode prog_65_method_4_code 11 = .ok (.if_icmp .ne 11, 3) := by decide +kernel
theorem d3_14 : decode prog_65_method_4_code 14 = .ok (.iload_n 2, 1) := by decide +kernel
theorem d3_15 : decode prog_65_method_4_code 15 = .ok (.iload_n 3, 1) := by decide +kernel
theorem d3_16 : decode prog_65_method_4_code 16 = .ok (.if_icmp .ge 20, 3) := by decide +kernel
theorem d3_19 : decode prog_65_method_4_code 19 = .ok (.goto 13, 3) := by decide +kernel
theorem d3_22 : decode prog_65_method_4_code 22 = .ok (.iload_n 2, 1) := by decide +kernel
theorem d3_23 : decode prog_65_method_4_code 23 = .ok (.aload_n 0, 1) := by decide +kernel
theorem d3_24 : decode prog_65_method_4_code 24 = .ok (.getfield 13, 3) := by decide +kernel
theorem d3_27 : decode prog_65_method_4_code 27 = .ok (.iload_n 1, 1) := by decide +kernel
theorem d3_28 : decode prog_65_method_4_code 28 = .ok (.iaload, 1) := by decide +kernel
theorem d3_29 : decode prog_65_method_4_code 29 = .ok (.if_icmp .gt 7, 3) := by decide +kernel
theorem d3_32 : decode prog_65_method_4_code 32 = .ok (.iconst 1, 1) := by decide +kernel
theorem d3_33 : decode prog_65_method_4_code 33 = .ok (.goto 4, 3) := by decide +kernel
theorem d3_36 : decode prog_65_method_4_code 36 = .ok (.iconst 0, 1) := by decide +kernel
theorem d3_37 : decode prog_65_method_4_code 37 = .ok (.ireturn, 1) := by decide +kernel
theorem ef_3 (m : MethodId) (x0 : Addr) (x1 : Int32) (x2 : Int32) (x3 : Int32) : entryFrame m #[(.ref x0), (.int x1), (.int x2), (.int x3)] 4 = mkF m 0 #[.val (.ref x0), .val (.int x1), .val (.int x2), .val (.int x3)] [] := by first | (simp [entryFrame, mkF, argsToLocals, Value.category]; done) | rfl
def own_Q3 (Z : State) (zs : Addr) (zi : Int32) (zv : Int32) (zn : Int32) (zb : Addr) (zf : Nat → Int32) (zk : Nat) (h0 : Heap) (n0 : Nat) (v : Option Value) (h : Heap) (L : List Loc) : Prop := v = some (.int (own_fits zv zn zf zk)) ∧ Fr n0 L ∧ h = h0
set_option maxRecDepth 65536 in
set_option maxHeartbeats 40000000 in
theorem rm3 (l : Launch) (Z : State) (a0 : Array Value) (hw : ∀ d ∈ tables_1, d.before a0 Z = true) (ws : List Jvm.Cond) (zs : Addr) (zi : Int32) (zv : Int32) (zn : Int32) (zb : Addr) (zf : Nat → Int32) (zk : Nat) (h0 : Heap) (n0 : Nat) (Z0 : n0 ≤ h0.size) (F_zs_largest : Fld Z h0 zs "tessera/SynchronousNetwork$Format" "largest" "[I" (.ref zb)) (V_zb : own_IA Z h0 zb .int 2 zf) (hi0 : ¬ (zi < (0 : Int32))) (hi1 : zi.toNatClampNeg = zk) (hi2 : zk < 2) :
    MetFree l (⟨"tessera/SynchronousNetwork$Format", "fits", "(III)Z"⟩ : MethodName) (head1 (Jvm.Cond.code (⟨"tessera/SynchronousNetwork$Format", "fits", "(III)Z"⟩ : MethodName) prog_65_method_4_code 4 (some .boolean) :: ws) ({ frames := 0, cells := 0, slots := 0, locals := 0 } : Room)) (fun a U => a = #[(.ref zs), (.int zi), (.int zv), (.int zn)] ∧ Z.Warmed39 U.vm ∧ U.heap = h0) (fun _ _ _ _ _ => True) (fun _ U o U' => ∃ v L, o = .returned v ∧ own_Q3 Z zs zi zv zn zb zf zk h0 n0 v U'.heap L ∧ FrameEnd U o U' L ({ frames := 0, cells := 0, slots := 0, locals := 0 } : Room).cells ({ frames := 0, cells := 0, slots := 0, locals := 0 } : Room).slots) := by
  refine MetFree.of_bodySF (plainFor_of_name pn_tessera_SynchronousNetwork_Format) hisR ?_
  intro p e s m args below meth c s₁ Bd hml0 hP hK
  obtain ⟨rfl, hZ, hh⟩ := hP
  have hx := Bd.exec
  have hby := Bd.bytes
  have hml : c.maxLocals = 4 := hml0
  have hown : s.vm.findClass "tessera/SynchronousNetwork$Format" = some m.cls := findClass_of_methodNamed Bd.named
  have hnm := (name_of_methodNamed Bd.named Bd.method).1
  have X0 : Stand p l e ({ frames := 0, cells := 0, slots := 0, locals := 0 } : Room) s m #[(.ref zs), (.int zi), (.int zv), (.int zn)] below meth c s₁ [] 0 0 := Stand.of_body Bd
  have e0 : s₁.heap = h0 := by rw [← hh, Bd.state]; rfl
  have N0 := Fr.nil n0
  have Zs := Z0
  show own_Goes p e below s (own_Q3 Z zs zi zv zn zb zf zk h0 n0) ({ frames := 0, cells := 0, slots := 0, locals := 0 } : Room).cells ({ frames := 0, cells := 0, slots := 0, locals := 0 } : Room).slots _
  refine own_go (B := s₁.setTop (mkF m 0 #[.val (.ref zs), .val (.int zi), .val (.int zv), .val (.int zn)] [])) (fun t k => castTop (ef_3 m zs zi zv zn) k) ?_
  refine own_go (B := s₁.setTop (mkF m 1 #[.val (.ref zs), .val (.int zi), .val (.int zv), .val (.int zn)] [(.int zv)])) (fun t k => XS.iloadN X0.here hx rfl (Jvm.hb hby d3_0) rfl k) ?_
  by_cases hc1_5 : zv < (0 : Int32)
  · refine own_go (B := s₁.setTop (mkF m 36 #[.val (.ref zs), .val (.int zi), .val (.int zv), .val (.int zn)] [])) (fun t k => XS.ifYes X0.here hx rfl (pc0 := 1) (pc' := 36) rfl (Jvm.hb hby d3_1) rfl ((if0 _ _).trans (tlt hc1_5).1) (by decide) (by decide) k) ?_
    refine own_go (B := s₁.setTop (mkF m 37 #[.val (.ref zs), .val (.int zi), .val (.int zv), .val (.int zn)] [(.int (0 : Int32))])) (fun t k => XS.iconst X0.here hx rfl (Jvm.hb hby d3_36) k) ?_
    refine own_out X0 (v := (some (.int (0 : Int32)))) (fun h => by rw [Bd.returns] at h; cases h) Bd.notSynchronized (fun fs hr => retOut X0 hx (t := .boolean) Bd.returns rfl (by first | exact Or.inl ⟨rfl, by simp, _, rfl⟩) (Jvm.hb hby d3_37) hr) ?_ (by decide) (by decide)
    show own_Q3 Z zs zi zv zn zb zf zk h0 n0 (some (.int (0 : Int32))) s₁.heap _
    rw [e0]
    exact ⟨(congrArg (fun z => some (Value.int z)) (by unfold own_fits; simp only [if_pos hc1_5])), N0, rfl⟩
  · refine own_go (B := s₁.setTop (mkF m 4 #[.val (.ref zs), .val (.int zi), .val (.int zv), .val (.int zn)] [])) (fun t k => XS.ifNo X0.here hx rfl (Jvm.hb hby d3_1) rfl ((if0 _ _).trans (flt hc1_5).1) k) ?_
    refine own_go (B := s₁.setTop (mkF m 5 #[.val (.ref zs), .val (.int zi), .val (.int zv), .val (.int zn)] [(.ref zs)])) (fun t k => XS.aloadN X0.here hx rfl (Jvm.hb hby d3_4) rfl rfl k) ?_
    obtain ⟨T6, X6, e6, st6⟩ := getF X0 hx hZ hown (host := "") (Or.inl (own_w hw 20 rfl)) Via.refl e0 F_zs_largest (g := (mkF m 5 #[.val (.ref zs), .val (.int zi), .val (.int zv), .val (.int zn)] [(.ref zs)])) rfl rfl (Jvm.hb hby d3_5)
    refine own_go (B := T6.setTop (mkF m 8 #[.val (.ref zs), .val (.int zi), .val (.int zv), .val (.int zn)] [(.ref zb)])) (fun t k => st6 _ k) ?_
    refine own_go (B := T6.setTop (mkF m 9 #[.val (.ref zs), .val (.int zi), .val (.int zv), .val (.int zn)] [(.int zi), (.ref zb)])) (fun t k => XS.iloadN X6.here hx rfl (Jvm.hb hby d3_8) rfl k) ?_
    refine own_go (B := T6.setTop (mkF m 10 #[.val (.ref zs), .val (.int zi), .val (.int zv), .val (.int zn)] [(.int (zf zk))])) (fun t k => own_iaload X6 hx hZ e6 V_zb (j := zi) (k := zk) hi0 hi1 hi2 (Jvm.hb hby d3_9) t k) ?_
    refine own_go (B := T6.setTop (mkF m 11 #[.val (.ref zs), .val (.int zi), .val (.int zv), .val (.int zn)] [(.int (-1 : Int32)), (.int (zf zk))])) (fun t k => XS.iconst X6.here hx rfl (Jvm.hb hby d3_10) k) ?_
    by_cases hc11_7 : (zf zk) = (-1 : Int32)
    · refine own_go (B := T6.setTop (mkF m 14 #[.val (.ref zs), .val (.int zi), .val (.int zv), .val (.int zn)] [])) (fun t k => XS.icmpNo X6.here hx rfl (Jvm.hb hby d3_11) rfl (teq hc11_7).2 k) ?_
      refine own_go (B := T6.setTop (mkF m 15 #[.val (.ref zs), .val (.int zi), .val (.int zv), .val (.int zn)] [(.int zv)])) (fun t k => XS.iloadN X6.here hx rfl (Jvm.hb hby d3_14) rfl k) ?_
      refine own_go (B := T6.setTop (mkF m 16 #[.val (.ref zs), .val (.int zi), .val (.int zv), .val (.int zn)] [(.int zn), (.int zv)])) (fun t k => XS.iloadN X6.here hx rfl (Jvm.hb hby d3_15) rfl k) ?_
      by_cases hc16_8 : zv < zn
      · refine own_go (B := T6.setTop (mkF m 19 #[.val (.ref zs), .val (.int zi), .val (.int zv), .val (.int zn)] [])) (fun t k => XS.icmpNo X6.here hx rfl (Jvm.hb hby d3_16) rfl (tlt hc16_8).2.1 k) ?_
        refine own_go (B := T6.setTop (mkF m 32 #[.val (.ref zs), .val (.int zi), .val (.int zv), .val (.int zn)] [])) (fun t k => XS.goto X6.here hx rfl (pc0 := 19) (pc' := 32) rfl (Jvm.hb hby d3_19) (by decide) (by decide) k) ?_
        refine own_go (B := T6.setTop (mkF m 33 #[.val (.ref zs), .val (.int zi), .val (.int zv), .val (.int zn)] [(.int (1 : Int32))])) (fun t k => XS.iconst X6.here hx rfl (Jvm.hb hby d3_32) k) ?_
        refine own_go (B := T6.setTop (mkF m 37 #[.val (.ref zs), .val (.int zi), .val (.int zv), .val (.int zn)] [(.int (1 : Int32))])) (fun t k => XS.goto X6.here hx rfl (pc0 := 33) (pc' := 37) rfl (Jvm.hb hby d3_33) (by decide) (by decide) k) ?_
        refine own_out X6 (v := (some (.int (1 : Int32)))) (fun h => by rw [Bd.returns] at h; cases h) Bd.notSynchronized (fun fs hr => retOut X6 hx (t := .boolean) Bd.returns rfl (by first | exact Or.inl ⟨rfl, by simp, _, rfl⟩) (Jvm.hb hby d3_37) hr) ?_ (by decide) (by decide)
        show own_Q3 Z zs zi zv zn zb zf zk h0 n0 (some (.int (1 : Int32))) T6.heap _
        rw [e6]
        exact ⟨(congrArg (fun z => some (Value.int z)) (by unfold own_fits; simp only [if_neg hc1_5, if_pos hc11_7, if_pos hc16_8])), N0, rfl⟩
      · refine own_go (B := T6.setTop (mkF m 36 #[.val (.ref zs), .val (.int zi), .val (.int zv), .val (.int zn)] [])) (fun t k => XS.icmpYes X6.here hx rfl (pc0 := 16) (pc' := 36) rfl (Jvm.hb hby d3_16) rfl (flt hc16_8).2.1 (by decide) (by decide) k) ?_
        refine own_go (B := T6.setTop (mkF m 37 #[.val (.ref zs), .val (.int zi), .val (.int zv), .val (.int zn)] [(.int (0 : Int32))])) (fun t k => XS.iconst X6.here hx rfl (Jvm.hb hby d3_36) k) ?_
        refine own_out X6 (v := (some (.int (0 : Int32)))) (fun h => by rw [Bd.returns] at h; cases h) Bd.notSynchronized (fun fs hr => retOut X6 hx (t := .boolean) Bd.returns rfl (by first | exact Or.inl ⟨rfl, by simp, _, rfl⟩) (Jvm.hb hby d3_37) hr) ?_ (by decide) (by decide)
        show own_Q3 Z zs zi zv zn zb zf zk h0 n0 (some (.int (0 : Int32))) T6.heap _
        rw [e6]
        exact ⟨(congrArg (fun z => some (Value.int z)) (by unfold own_fits; simp only [if_neg hc1_5, if_pos hc11_7, if_neg hc16_8])), N0, rfl⟩
    · refine own_go (B := T6.setTop (mkF m 22 #[.val (.ref zs), .val (.int zi), .val (.int zv), .val (.int zn)] [])) (fun t k => XS.icmpYes X6.here hx rfl (pc0 := 11) (pc' := 22) rfl (Jvm.hb hby d3_11) rfl (feq hc11_7).2 (by decide) (by decide) k) ?_
      refine own_go (B := T6.setTop (mkF m 23 #[.val (.ref zs), .val (.int zi), .val (.int zv), .val (.int zn)] [(.int zv)])) (fun t k => XS.iloadN X6.here hx rfl (Jvm.hb hby d3_22) rfl k) ?_
      refine own_go (B := T6.setTop (mkF m 24 #[.val (.ref zs), .val (.int zi), .val (.int zv), .val (.int zn)] [(.ref zs), (.int zv)])) (fun t k => XS.aloadN X6.here hx rfl (Jvm.hb hby d3_23) rfl rfl k) ?_
      obtain ⟨T9, X9, e9, st9⟩ := getF X6 hx hZ hown (host := "") (Or.inl (own_w hw 20 rfl)) Via.refl e6 F_zs_largest (g := (mkF m 24 #[.val (.ref zs), .val (.int zi), .val (.int zv), .val (.int zn)] [(.ref zs), (.int zv)])) rfl rfl (Jvm.hb hby d3_24)
      refine own_go (B := T9.setTop (mkF m 27 #[.val (.ref zs), .val (.int zi), .val (.int zv), .val (.int zn)] [(.ref zb), (.int zv)])) (fun t k => st9 _ k) ?_
      refine own_go (B := T9.setTop (mkF m 28 #[.val (.ref zs), .val (.int zi), .val (.int zv), .val (.int zn)] [(.int zi), (.ref zb), (.int zv)])) (fun t k => XS.iloadN X9.here hx rfl (Jvm.hb hby d3_27) rfl k) ?_
      refine own_go (B := T9.setTop (mkF m 29 #[.val (.ref zs), .val (.int zi), .val (.int zv), .val (.int zn)] [(.int (zf zk)), (.int zv)])) (fun t k => own_iaload X9 hx hZ e9 V_zb (j := zi) (k := zk) hi0 hi1 hi2 (Jvm.hb hby d3_28) t k) ?_
      by_cases hc29_10 : (zf zk) < zv
      · refine own_go (B := T9.setTop (mkF m 36 #[.val (.ref zs), .val (.int zi), .val (.int zv), .val (.int zn)] [])) (fun t k => XS.icmpYes X9.here hx rfl (pc0 := 29) (pc' := 36) rfl (Jvm.hb hby d3_29) rfl (tlt hc29_10).2.2.1 (by decide) (by decide) k) ?_
        refine own_go (B := T9.setTop (mkF m 37 #[.val (.ref zs), .val (.int zi), .val (.int zv), .val (.int zn)] [(.int (0 : Int32))])) (fun t k => XS.iconst X9.here hx rfl (Jvm.hb hby d3_36) k) ?_
        refine own_out X9 (v := (some (.int (0 : Int32)))) (fun h => by rw [Bd.returns] at h; cases h) Bd.notSynchronized (fun fs hr => retOut X9 hx (t := .boolean) Bd.returns rfl (by first | exact Or.inl ⟨rfl, by simp, _, rfl⟩) (Jvm.hb hby d3_37) hr) ?_ (by decide) (by decide)
        show own_Q3 Z zs zi zv zn zb zf zk h0 n0 (some (.int (0 : Int32))) T9.heap _
        rw [e9]
        exact ⟨(congrArg (fun z => some (Value.int z)) (by unfold own_fits; simp only [if_neg hc1_5, if_neg hc11_7, if_pos hc29_10])), N0, rfl⟩
      · refine own_go (B := T9.setTop (mkF m 32 #[.val (.ref zs), .val (.int zi), .val (.int zv), .val (.int zn)] [])) (fun t k => XS.icmpNo X9.here hx rfl (Jvm.hb hby d3_29) rfl (flt hc29_10).2.2.1 k) ?_
        refine own_go (B := T9.setTop (mkF m 33 #[.val (.ref zs), .val (.int zi), .val (.int zv), .val (.int zn)] [(.int (1 : Int32))])) (fun t k => XS.iconst X9.here hx rfl (Jvm.hb hby d3_32) k) ?_
        refine own_go (B := T9.setTop (mkF m 37 #[.val (.ref zs), .val (.int zi), .val (.int zv), .val (.int zn)] [(.int (1 : Int32))])) (fun t k => XS.goto X9.here hx rfl (pc0 := 33) (pc' := 37) rfl (Jvm.hb hby d3_33) (by decide) (by decide) k) ?_
        refine own_out X9 (v := (some (.int (1 : Int32)))) (fun h => by rw [Bd.returns] at h; cases h) Bd.notSynchronized (fun fs hr => retOut X9 hx (t := .boolean) Bd.returns rfl (by first | exact Or.inl ⟨rfl, by simp, _, rfl⟩) (Jvm.hb hby d3_37) hr) ?_ (by decide) (by decide)
        show own_Q3 Z zs zi zv zn zb zf zk h0 n0 (some (.int (1 : Int32))) T9.heap _
        rw [e9]
        exact ⟨(congrArg (fun z => some (Value.int z)) (by unfold own_fits; simp only [if_neg hc1_5, if_neg hc11_7, if_neg hc29_10])), N0, rfl⟩
def own_f4 (w1 : Int32) (l1 : Int32) (v1 : Int32) (n1 : Int32) : Int32 := (if w1 = (0 : Int32) then (if (v1.toInt64) < (0 : Int64) then (0 : Int32) else (if (l1.toInt64) < (v1.toInt64) then (0 : Int32) else (1 : Int32))) else (if (v1.toInt64) < (0 : Int64) then (0 : Int32) else (if ((n1.toInt64) - (1 : Int64)) < (v1.toInt64) then (0 : Int32) else (1 : Int32))))
theorem pn_tessera_FormatFitsPinLaw : plainName "tessera/FormatFitsPinLaw" = true := by first | (simp [plainName, overriddenIn]; done) | decide +kernel
theorem d4_0 : decode method_3_code 0 = .ok (.iload_n 0, 1) := by decide +kernel
theorem d4_1 : decode method_3_code 1 = .ok (.ifCond .eq 12, 3) := by decide +kernel
theorem d4_4 : decode method_3_code 4 = .ok (.iload_n 3, 1) := by decide +kernel
theorem d4_5 : decode method_3_code 5 = .ok (.i2l, 1) := by decide +kernel
theorem d4_6 : decode method_3_code 6 = .ok (.lconst 1, 1) := by decide +kernel
theorem d4_7 : decode method_3_code 7 = .ok (.lsub, 1) := by decide +kernel
theorem d4_8 : decode method_3_code 8 = .ok (.lstore 4, 2) := by decide +kernel
theorem d4_10 : decode method_3_code 10 = .ok (.goto 7, 3) := by decide +kernel
theorem d4_13 : decode method_3_code 13 = .ok (.iload_n 1, 1) := by decide +kernel
theorem d4_14 : decode method_3_code 14 = .ok (.i2l, 1) := by decide +kernel
theorem d4_15 : decode method_3_code 15 = .ok (.lstore 4, 2) := by decide +kernel
theorem d4_17 : decode method_3_code 17 = .ok (.lconst 0, 1) := by decide +kernel
theorem d4_18 : decode method_3_code 18 = .ok (.iload_n 2, 1) := by decide +kernel
theorem d4_19 : decode method_3_code 19 = .ok (.i2l, 1) := by decide +kernel
theorem d4_20 : decode method_3_code 20 = .ok (.lcmp, 1) := by decide +kernel
theorem d4_21 : decode method_3_code 21 = .ok (.ifCond .gt 15, 3) := by decide +kernel
theorem d4_24 : decode method_3_code 24 = .ok (.iload_n 2, 1) := by decide +kernel
theorem d4_25 : decode method_3_code 25 = .ok (.i2l, 1) := by decide +kernel
theorem d4_26 : decode method_3_code 26 = .ok (.lload 4, 2) := by decide +kernel
theorem d4_28 : decode method_3_code 28 = .ok (.lcmp, 1) := by decide +kernel
theorem d4_29 : decode method_3_code 29 = .ok (.ifCond .gt 7, 3) := by decide +kernel
theorem d4_32 : decode method_3_code 32 = .ok (.iconst 1, 1) := by decide +kernel
theorem d4_33 : decode method_3_code 33 = .ok (.goto 4, 3) := by decide +kernel
theorem d4_36 : decode method_3_code 36 = .ok (.iconst 0, 1) := by decide +kernel
theorem d4_37 : decode method_3_code 37 = .ok (.ireturn, 1) := by decide +kernel
theorem ef_4 (m : MethodId) (x0 : Int32) (x1 : Int32) (x2 : Int32) (x3 : Int32) : entryFrame m #[(.int x0), (.int x1), (.int x2), (.int x3)] 6 = mkF m 0 #[.val (.int x0), .val (.int x1), .val (.int x2), .val (.int x3), .unset, .unset] [] := by first | (simp [entryFrame, mkF, argsToLocals, Value.category]; done) | rfl
def own_Q4 (Z : State) (w1 : Int32) (l1 : Int32) (v1 : Int32) (n1 : Int32) (h0 : Heap) (n0 : Nat) (v : Option Value) (h : Heap) (L : List Loc) : Prop := v = some (.int (own_f4 w1 l1 v1 n1)) ∧ Fr n0 L ∧ h = h0
set_option maxRecDepth 65536 in
set_option maxHeartbeats 40000000 in
theorem rm4 (l : Launch) (Z : State) (a0 : Array Value) (hw : ∀ d ∈ tables_1, d.before a0 Z = true) (ws : List Jvm.Cond) (w1 : Int32) (l1 : Int32) (v1 : Int32) (n1 : Int32) (h0 : Heap) (n0 : Nat) (Z0 : n0 ≤ h0.size)  :
    MetFree l (⟨"tessera/FormatFitsPinLaw", "expected", "(ZIII)Z"⟩ : MethodName) (head1 (Jvm.Cond.code (⟨"tessera/FormatFitsPinLaw", "expected", "(ZIII)Z"⟩ : MethodName) method_3_code 6 (some .boolean) :: ws) ({ frames := 0, cells := 0, slots := 0, locals := 0 } : Room)) (fun a U => a = #[(.int w1), (.int l1), (.int v1), (.int n1)] ∧ Z.Warmed39 U.vm ∧ U.heap = h0) (fun _ _ _ _ _ => True) (fun _ U o U' => ∃ v L, o = .returned v ∧ own_Q4 Z w1 l1 v1 n1 h0 n0 v U'.heap L ∧ FrameEnd U o U' L ({ frames := 0, cells := 0, slots := 0, locals := 0 } : Room).cells ({ frames := 0, cells := 0, slots := 0, locals := 0 } : Room).slots) := by
  refine MetFree.of_bodySF (plainFor_of_name pn_tessera_FormatFitsPinLaw) hisR ?_
  intro p e s m args below meth c s₁ Bd hml0 hP hK
  obtain ⟨rfl, hZ, hh⟩ := hP
  have hx := Bd.exec
  have hby := Bd.bytes
  have hml : c.maxLocals = 6 := hml0
  have hown : s.vm.findClass "tessera/FormatFitsPinLaw" = some m.cls := findClass_of_methodNamed Bd.named
  have hnm := (name_of_methodNamed Bd.named Bd.method).1
  have X0 : Stand p l e ({ frames := 0, cells := 0, slots := 0, locals := 0 } : Room) s m #[(.int w1), (.int l1), (.int v1), (.int n1)] below meth c s₁ [] 0 0 := Stand.of_body Bd
  have e0 : s₁.heap = h0 := by rw [← hh, Bd.state]; rfl
  have N0 := Fr.nil n0
  have Zs := Z0
  show own_Goes p e below s (own_Q4 Z w1 l1 v1 n1 h0 n0) ({ frames := 0, cells := 0, slots := 0, locals := 0 } : Room).cells ({ frames := 0, cells := 0, slots := 0, locals := 0 } : Room).slots _
  refine own_go (B := s₁.setTop (mkF m 0 #[.val (.int w1), .val (.int l1), .val (.int v1), .val (.int n1), .unset, .unset] [])) (fun t k => castTop (ef_4 m w1 l1 v1 n1) k) ?_
  refine own_go (B := s₁.setTop (mkF m 1 #[.val (.int w1), .val (.int l1), .val (.int v1), .val (.int n1), .unset, .unset] [(.int w1)])) (fun t k => XS.iloadN X0.here hx rfl (Jvm.hb hby d4_0) rfl k) ?_
  by_cases hc1_11 : w1 = (0 : Int32)
  · refine own_go (B := s₁.setTop (mkF m 13 #[.val (.int w1), .val (.int l1), .val (.int v1), .val (.int n1), .unset, .unset] [])) (fun t k => XS.ifYes X0.here hx rfl (pc0 := 1) (pc' := 13) rfl (Jvm.hb hby d4_1) rfl ((if0 _ _).trans (teq hc1_11).1) (by decide) (by decide) k) ?_
    refine own_go (B := s₁.setTop (mkF m 14 #[.val (.int w1), .val (.int l1), .val (.int v1), .val (.int n1), .unset, .unset] [(.int l1)])) (fun t k => XS.iloadN X0.here hx rfl (Jvm.hb hby d4_13) rfl k) ?_
    refine own_go (B := s₁.setTop (mkF m 15 #[.val (.int w1), .val (.int l1), .val (.int v1), .val (.int n1), .unset, .unset] [(.long (l1.toInt64))])) (fun t k => XS.i2l X0.here hx rfl (Jvm.hb hby d4_14) rfl k) ?_
    refine own_go (B := s₁.setTop (mkF m 17 #[.val (.int w1), .val (.int l1), .val (.int v1), .val (.int n1), .val (.long (l1.toInt64)), .second] [])) (fun t k => XS.lstore X0.here hx rfl (Jvm.hb hby d4_15) rfl (l' := #[.val (.int w1), .val (.int l1), .val (.int v1), .val (.int n1), .val (.long (l1.toInt64)), .second]) rfl k) ?_
    refine own_go (B := s₁.setTop (mkF m 18 #[.val (.int w1), .val (.int l1), .val (.int v1), .val (.int n1), .val (.long (l1.toInt64)), .second] [(.long (0 : Int64))])) (fun t k => XS.lconst X0.here hx rfl (Jvm.hb hby d4_17) k) ?_
    refine own_go (B := s₁.setTop (mkF m 19 #[.val (.int w1), .val (.int l1), .val (.int v1), .val (.int n1), .val (.long (l1.toInt64)), .second] [(.int v1), (.long (0 : Int64))])) (fun t k => XS.iloadN X0.here hx rfl (Jvm.hb hby d4_18) rfl k) ?_
    refine own_go (B := s₁.setTop (mkF m 20 #[.val (.int w1), .val (.int l1), .val (.int v1), .val (.int n1), .val (.long (l1.toInt64)), .second] [(.long (v1.toInt64)), (.long (0 : Int64))])) (fun t k => XS.i2l X0.here hx rfl (Jvm.hb hby d4_19) rfl k) ?_
    refine own_go (B := s₁.setTop (mkF m 21 #[.val (.int w1), .val (.int l1), .val (.int v1), .val (.int n1), .val (.long (l1.toInt64)), .second] [(.int (lcmpW (0 : Int64) (v1.toInt64)))])) (fun t k => XS.lcmp X0.here hx rfl (Jvm.hb hby d4_20) rfl k) ?_
    by_cases hc21_12 : (v1.toInt64) < (0 : Int64)
    · refine own_go (B := s₁.setTop (mkF m 36 #[.val (.int w1), .val (.int l1), .val (.int v1), .val (.int n1), .val (.long (l1.toInt64)), .second] [])) (fun t k => XS.ifYes X0.here hx rfl (pc0 := 21) (pc' := 36) rfl (Jvm.hb hby d4_21) rfl ((if0 _ _).trans (tlt ((lw_gt (0 : Int64) (v1.toInt64)).mpr hc21_12)).2.2.1) (by decide) (by decide) k) ?_
      refine own_go (B := s₁.setTop (mkF m 37 #[.val (.int w1), .val (.int l1), .val (.int v1), .val (.int n1), .val (.long (l1.toInt64)), .second] [(.int (0 : Int32))])) (fun t k => XS.iconst X0.here hx rfl (Jvm.hb hby d4_36) k) ?_
      refine own_out X0 (v := (some (.int (0 : Int32)))) (fun h => by rw [Bd.returns] at h; cases h) Bd.notSynchronized (fun fs hr => retOut X0 hx (t := .boolean) Bd.returns rfl (by first | exact Or.inl ⟨rfl, by simp, _, rfl⟩) (Jvm.hb hby d4_37) hr) ?_ (by decide) (by decide)
      show own_Q4 Z w1 l1 v1 n1 h0 n0 (some (.int (0 : Int32))) s₁.heap _
      rw [e0]
      exact ⟨congrArg (fun z => some (Value.int z)) (by unfold own_f4; simp only [if_pos hc1_11, if_pos hc21_12]), N0, rfl⟩
    · refine own_go (B := s₁.setTop (mkF m 24 #[.val (.int w1), .val (.int l1), .val (.int v1), .val (.int n1), .val (.long (l1.toInt64)), .second] [])) (fun t k => XS.ifNo X0.here hx rfl (Jvm.hb hby d4_21) rfl ((if0 _ _).trans (flt (mt (lw_gt (0 : Int64) (v1.toInt64)).mp hc21_12)).2.2.1) k) ?_
      refine own_go (B := s₁.setTop (mkF m 25 #[.val (.int w1), .val (.int l1), .val (.int v1), .val (.int n1), .val (.long (l1.toInt64)), .second] [(.int v1)])) (fun t k => XS.iloadN X0.here hx rfl (Jvm.hb hby d4_24) rfl k) ?_
      refine own_go (B := s₁.setTop (mkF m 26 #[.val (.int w1), .val (.int l1), .val (.int v1), .val (.int n1), .val (.long (l1.toInt64)), .second] [(.long (v1.toInt64))])) (fun t k => XS.i2l X0.here hx rfl (Jvm.hb hby d4_25) rfl k) ?_
      refine own_go (B := s₁.setTop (mkF m 28 #[.val (.int w1), .val (.int l1), .val (.int v1), .val (.int n1), .val (.long (l1.toInt64)), .second] [(.long (l1.toInt64)), (.long (v1.toInt64))])) (fun t k => XS.lload X0.here hx rfl (Jvm.hb hby d4_26) rfl k) ?_
      refine own_go (B := s₁.setTop (mkF m 29 #[.val (.int w1), .val (.int l1), .val (.int v1), .val (.int n1), .val (.long (l1.toInt64)), .second] [(.int (lcmpW (v1.toInt64) (l1.toInt64)))])) (fun t k => XS.lcmp X0.here hx rfl (Jvm.hb hby d4_28) rfl k) ?_
      by_cases hc29_13 : (l1.toInt64) < (v1.toInt64)
      · refine own_go (B := s₁.setTop (mkF m 36 #[.val (.int w1), .val (.int l1), .val (.int v1), .val (.int n1), .val (.long (l1.toInt64)), .second] [])) (fun t k => XS.ifYes X0.here hx rfl (pc0 := 29) (pc' := 36) rfl (Jvm.hb hby d4_29) rfl ((if0 _ _).trans (tlt ((lw_gt (v1.toInt64) (l1.toInt64)).mpr hc29_13)).2.2.1) (by decide) (by decide) k) ?_
        refine own_go (B := s₁.setTop (mkF m 37 #[.val (.int w1), .val (.int l1), .val (.int v1), .val (.int n1), .val (.long (l1.toInt64)), .second] [(.int (0 : Int32))])) (fun t k => XS.iconst X0.here hx rfl (Jvm.hb hby d4_36) k) ?_
        refine own_out X0 (v := (some (.int (0 : Int32)))) (fun h => by rw [Bd.returns] at h; cases h) Bd.notSynchronized (fun fs hr => retOut X0 hx (t := .boolean) Bd.returns rfl (by first | exact Or.inl ⟨rfl, by simp, _, rfl⟩) (Jvm.hb hby d4_37) hr) ?_ (by decide) (by decide)
        show own_Q4 Z w1 l1 v1 n1 h0 n0 (some (.int (0 : Int32))) s₁.heap _
        rw [e0]
        exact ⟨congrArg (fun z => some (Value.int z)) (by unfold own_f4; simp only [if_pos hc1_11, if_neg hc21_12, if_pos hc29_13]), N0, rfl⟩
      · refine own_go (B := s₁.setTop (mkF m 32 #[.val (.int w1), .val (.int l1), .val (.int v1), .val (.int n1), .val (.long (l1.toInt64)), .second] [])) (fun t k => XS.ifNo X0.here hx rfl (Jvm.hb hby d4_29) rfl ((if0 _ _).trans (flt (mt (lw_gt (v1.toInt64) (l1.toInt64)).mp hc29_13)).2.2.1) k) ?_
        refine own_go (B := s₁.setTop (mkF m 33 #[.val (.int w1), .val (.int l1), .val (.int v1), .val (.int n1), .val (.long (l1.toInt64)), .second] [(.int (1 : Int32))])) (fun t k => XS.iconst X0.here hx rfl (Jvm.hb hby d4_32) k) ?_
        refine own_go (B := s₁.setTop (mkF m 37 #[.val (.int w1), .val (.int l1), .val (.int v1), .val (.int n1), .val (.long (l1.toInt64)), .second] [(.int (1 : Int32))])) (fun t k => XS.goto X0.here hx rfl (pc0 := 33) (pc' := 37) rfl (Jvm.hb hby d4_33) (by decide) (by decide) k) ?_
        refine own_out X0 (v := (some (.int (1 : Int32)))) (fun h => by rw [Bd.returns] at h; cases h) Bd.notSynchronized (fun fs hr => retOut X0 hx (t := .boolean) Bd.returns rfl (by first | exact Or.inl ⟨rfl, by simp, _, rfl⟩) (Jvm.hb hby d4_37) hr) ?_ (by decide) (by decide)
        show own_Q4 Z w1 l1 v1 n1 h0 n0 (some (.int (1 : Int32))) s₁.heap _
        rw [e0]
        exact ⟨congrArg (fun z => some (Value.int z)) (by unfold own_f4; simp only [if_pos hc1_11, if_neg hc21_12, if_neg hc29_13]), N0, rfl⟩
  · refine own_go (B := s₁.setTop (mkF m 4 #[.val (.int w1), .val (.int l1), .val (.int v1), .val (.int n1), .unset, .unset] [])) (fun t k => XS.ifNo X0.here hx rfl (Jvm.hb hby d4_1) rfl ((if0 _ _).trans (feq hc1_11).1) k) ?_
    refine own_go (B := s₁.setTop (mkF m 5 #[.val (.int w1), .val (.int l1), .val (.int v1), .val (.int n1), .unset, .unset] [(.int n1)])) (fun t k => XS.iloadN X0.here hx rfl (Jvm.hb hby d4_4) rfl k) ?_
    refine own_go (B := s₁.setTop (mkF m 6 #[.val (.int w1), .val (.int l1), .val (.int v1), .val (.int n1), .unset, .unset] [(.long (n1.toInt64))])) (fun t k => XS.i2l X0.here hx rfl (Jvm.hb hby d4_5) rfl k) ?_
    refine own_go (B := s₁.setTop (mkF m 7 #[.val (.int w1), .val (.int l1), .val (.int v1), .val (.int n1), .unset, .unset] [(.long (1 : Int64)), (.long (n1.toInt64))])) (fun t k => XS.lconst X0.here hx rfl (Jvm.hb hby d4_6) k) ?_
    refine own_go (B := s₁.setTop (mkF m 8 #[.val (.int w1), .val (.int l1), .val (.int v1), .val (.int n1), .unset, .unset] [(.long ((n1.toInt64) - (1 : Int64)))])) (fun t k => XS.lsub X0.here hx rfl (Jvm.hb hby d4_7) rfl k) ?_
    refine own_go (B := s₁.setTop (mkF m 10 #[.val (.int w1), .val (.int l1), .val (.int v1), .val (.int n1), .val (.long ((n1.toInt64) - (1 : Int64))), .second] [])) (fun t k => XS.lstore X0.here hx rfl (Jvm.hb hby d4_8) rfl (l' := #[.val (.int w1), .val (.int l1), .val (.int v1), .val (.int n1), .val (.long ((n1.toInt64) - (1 : Int64))), .second]) rfl k) ?_
    refine own_go (B := s₁.setTop (mkF m 17 #[.val (.int w1), .val (.int l1), .val (.int v1), .val (.int n1), .val (.long ((n1.toInt64) - (1 : Int64))), .second] [])) (fun t k => XS.goto X0.here hx rfl (pc0 := 10) (pc' := 17) rfl (Jvm.hb hby d4_10) (by decide) (by decide) k) ?_
    refine own_go (B := s₁.setTop (mkF m 18 #[.val (.int w1), .val (.int l1), .val (.int v1), .val (.int n1), .val (.long ((n1.toInt64) - (1 : Int64))), .second] [(.long (0 : Int64))])) (fun t k => XS.lconst X0.here hx rfl (Jvm.hb hby d4_17) k) ?_
    refine own_go (B := s₁.setTop (mkF m 19 #[.val (.int w1), .val (.int l1), .val (.int v1), .val (.int n1), .val (.long ((n1.toInt64) - (1 : Int64))), .second] [(.int v1), (.long (0 : Int64))])) (fun t k => XS.iloadN X0.here hx rfl (Jvm.hb hby d4_18) rfl k) ?_
    refine own_go (B := s₁.setTop (mkF m 20 #[.val (.int w1), .val (.int l1), .val (.int v1), .val (.int n1), .val (.long ((n1.toInt64) - (1 : Int64))), .second] [(.long (v1.toInt64)), (.long (0 : Int64))])) (fun t k => XS.i2l X0.here hx rfl (Jvm.hb hby d4_19) rfl k) ?_
    refine own_go (B := s₁.setTop (mkF m 21 #[.val (.int w1), .val (.int l1), .val (.int v1), .val (.int n1), .val (.long ((n1.toInt64) - (1 : Int64))), .second] [(.int (lcmpW (0 : Int64) (v1.toInt64)))])) (fun t k => XS.lcmp X0.here hx rfl (Jvm.hb hby d4_20) rfl k) ?_
    by_cases hc21_14 : (v1.toInt64) < (0 : Int64)
    · refine own_go (B := s₁.setTop (mkF m 36 #[.val (.int w1), .val (.int l1), .val (.int v1), .val (.int n1), .val (.long ((n1.toInt64) - (1 : Int64))), .second] [])) (fun t k => XS.ifYes X0.here hx rfl (pc0 := 21) (pc' := 36) rfl (Jvm.hb hby d4_21) rfl ((if0 _ _).trans (tlt ((lw_gt (0 : Int64) (v1.toInt64)).mpr hc21_14)).2.2.1) (by decide) (by decide) k) ?_
      refine own_go (B := s₁.setTop (mkF m 37 #[.val (.int w1), .val (.int l1), .val (.int v1), .val (.int n1), .val (.long ((n1.toInt64) - (1 : Int64))), .second] [(.int (0 : Int32))])) (fun t k => XS.iconst X0.here hx rfl (Jvm.hb hby d4_36) k) ?_
      refine own_out X0 (v := (some (.int (0 : Int32)))) (fun h => by rw [Bd.returns] at h; cases h) Bd.notSynchronized (fun fs hr => retOut X0 hx (t := .boolean) Bd.returns rfl (by first | exact Or.inl ⟨rfl, by simp, _, rfl⟩) (Jvm.hb hby d4_37) hr) ?_ (by decide) (by decide)
      show own_Q4 Z w1 l1 v1 n1 h0 n0 (some (.int (0 : Int32))) s₁.heap _
      rw [e0]
      exact ⟨congrArg (fun z => some (Value.int z)) (by unfold own_f4; simp only [if_neg hc1_11, if_pos hc21_14]), N0, rfl⟩
    · refine own_go (B := s₁.setTop (mkF m 24 #[.val (.int w1), .val (.int l1), .val (.int v1), .val (.int n1), .val (.long ((n1.toInt64) - (1 : Int64))), .second] [])) (fun t k => XS.ifNo X0.here hx rfl (Jvm.hb hby d4_21) rfl ((if0 _ _).trans (flt (mt (lw_gt (0 : Int64) (v1.toInt64)).mp hc21_14)).2.2.1) k) ?_
      refine own_go (B := s₁.setTop (mkF m 25 #[.val (.int w1), .val (.int l1), .val (.int v1), .val (.int n1), .val (.long ((n1.toInt64) - (1 : Int64))), .second] [(.int v1)])) (fun t k => XS.iloadN X0.here hx rfl (Jvm.hb hby d4_24) rfl k) ?_
      refine own_go (B := s₁.setTop (mkF m 26 #[.val (.int w1), .val (.int l1), .val (.int v1), .val (.int n1), .val (.long ((n1.toInt64) - (1 : Int64))), .second] [(.long (v1.toInt64))])) (fun t k => XS.i2l X0.here hx rfl (Jvm.hb hby d4_25) rfl k) ?_
      refine own_go (B := s₁.setTop (mkF m 28 #[.val (.int w1), .val (.int l1), .val (.int v1), .val (.int n1), .val (.long ((n1.toInt64) - (1 : Int64))), .second] [(.long ((n1.toInt64) - (1 : Int64))), (.long (v1.toInt64))])) (fun t k => XS.lload X0.here hx rfl (Jvm.hb hby d4_26) rfl k) ?_
      refine own_go (B := s₁.setTop (mkF m 29 #[.val (.int w1), .val (.int l1), .val (.int v1), .val (.int n1), .val (.long ((n1.toInt64) - (1 : Int64))), .second] [(.int (lcmpW (v1.toInt64) ((n1.toInt64) - (1 : Int64))))])) (fun t k => XS.lcmp X0.here hx rfl (Jvm.hb hby d4_28) rfl k) ?_
      by_cases hc29_15 : ((n1.toInt64) - (1 : Int64)) < (v1.toInt64)
      · refine own_go (B := s₁.setTop (mkF m 36 #[.val (.int w1), .val (.int l1), .val (.int v1), .val (.int n1), .val (.long ((n1.toInt64) - (1 : Int64))), .second] [])) (fun t k => XS.ifYes X0.here hx rfl (pc0 := 29) (pc' := 36) rfl (Jvm.hb hby d4_29) rfl ((if0 _ _).trans (tlt ((lw_gt (v1.toInt64) ((n1.toInt64) - (1 : Int64))).mpr hc29_15)).2.2.1) (by decide) (by decide) k) ?_
        refine own_go (B := s₁.setTop (mkF m 37 #[.val (.int w1), .val (.int l1), .val (.int v1), .val (.int n1), .val (.long ((n1.toInt64) - (1 : Int64))), .second] [(.int (0 : Int32))])) (fun t k => XS.iconst X0.here hx rfl (Jvm.hb hby d4_36) k) ?_
        refine own_out X0 (v := (some (.int (0 : Int32)))) (fun h => by rw [Bd.returns] at h; cases h) Bd.notSynchronized (fun fs hr => retOut X0 hx (t := .boolean) Bd.returns rfl (by first | exact Or.inl ⟨rfl, by simp, _, rfl⟩) (Jvm.hb hby d4_37) hr) ?_ (by decide) (by decide)
        show own_Q4 Z w1 l1 v1 n1 h0 n0 (some (.int (0 : Int32))) s₁.heap _
        rw [e0]
        exact ⟨congrArg (fun z => some (Value.int z)) (by unfold own_f4; simp only [if_neg hc1_11, if_neg hc21_14, if_pos hc29_15]), N0, rfl⟩
      · refine own_go (B := s₁.setTop (mkF m 32 #[.val (.int w1), .val (.int l1), .val (.int v1), .val (.int n1), .val (.long ((n1.toInt64) - (1 : Int64))), .second] [])) (fun t k => XS.ifNo X0.here hx rfl (Jvm.hb hby d4_29) rfl ((if0 _ _).trans (flt (mt (lw_gt (v1.toInt64) ((n1.toInt64) - (1 : Int64))).mp hc29_15)).2.2.1) k) ?_
        refine own_go (B := s₁.setTop (mkF m 33 #[.val (.int w1), .val (.int l1), .val (.int v1), .val (.int n1), .val (.long ((n1.toInt64) - (1 : Int64))), .second] [(.int (1 : Int32))])) (fun t k => XS.iconst X0.here hx rfl (Jvm.hb hby d4_32) k) ?_
        refine own_go (B := s₁.setTop (mkF m 37 #[.val (.int w1), .val (.int l1), .val (.int v1), .val (.int n1), .val (.long ((n1.toInt64) - (1 : Int64))), .second] [(.int (1 : Int32))])) (fun t k => XS.goto X0.here hx rfl (pc0 := 33) (pc' := 37) rfl (Jvm.hb hby d4_33) (by decide) (by decide) k) ?_
        refine own_out X0 (v := (some (.int (1 : Int32)))) (fun h => by rw [Bd.returns] at h; cases h) Bd.notSynchronized (fun fs hr => retOut X0 hx (t := .boolean) Bd.returns rfl (by first | exact Or.inl ⟨rfl, by simp, _, rfl⟩) (Jvm.hb hby d4_37) hr) ?_ (by decide) (by decide)
        show own_Q4 Z w1 l1 v1 n1 h0 n0 (some (.int (1 : Int32))) s₁.heap _
        rw [e0]
        exact ⟨congrArg (fun z => some (Value.int z)) (by unfold own_f4; simp only [if_neg hc1_11, if_neg hc21_14, if_neg hc29_15]), N0, rfl⟩
theorem own_nn (x : Int32) : (¬ (x < (0 : Int32))) ↔ 0 ≤ x.toInt := by
  rw [Int32.lt_iff_toInt_lt]; have : (0 : Int32).toInt = 0 := rfl; omega
theorem own_eq (w l v n : Int32) (f : Nat → Int32) (k : Nat) (hf : f k = l) (hn : 0 ≤ n.toInt) (h : (¬ (w = (0 : Int32)) ∧ l = (-1 : Int32)) ∨ (w = (0 : Int32) ∧ 0 ≤ l.toInt)) : own_fits v n f k = own_f4 w l v n := by
  unfold own_fits own_f4
  rw [hf]
  have o0 : (0 : Int32).toInt = 0 := rfl
  have o1 : (-1 : Int32).toInt = -1 := rfl
  have o2 : (0 : Int64).toInt = 0 := rfl
  have o3 : (1 : Int64).toInt = 1 := rfl
  have a := c_lsub n.toInt64 1
  have r := rng64 (n.toInt64 - 1)
  have r1 := rng32 n
  rw [c_i2l, o3] at a
  simp only [Int64.lt_iff_toInt_lt, Int32.lt_iff_toInt_lt, ← Int32.toInt_inj, c_i2l, o0, o1, o2] at *
  have a2 : (n.toInt64 - 1).toInt = n.toInt - 1 := by omega
  simp only [a2]
  (repeat' split) <;> first | rfl | omega
theorem pd_0 : parseMethodDescriptor "([I)V" = some ⟨[(.array .int)], none⟩ := by decide +kernel
theorem pd_1 : parseMethodDescriptor "(III)Z" = some ⟨[.int, .int, .int], some .boolean⟩ := by decide +kernel
theorem pd_2 : parseMethodDescriptor "(ZIII)Z" = some ⟨[.boolean, .int, .int, .int], some .boolean⟩ := by decide +kernel
theorem ef_0 (m : MethodId) (x0 : Int32) (x1 : Int32) (x2 : Int32) (x3 : Int32) (x4 : Int32) (x5 : Int32) : entryFrame m #[(.int x0), (.int x1), (.int x2), (.int x3), (.int x4), (.int x5)] maxLocals = mkF m 0 #[.val (.int x0), .val (.int x1), .val (.int x2), .val (.int x3), .val (.int x4), .val (.int x5), .unset, .unset, .unset, .unset, .unset, .unset, .unset, .unset] [] := by first | (simp [entryFrame, mkF, argsToLocals, Value.category, maxLocals]; done) | rfl
def own_Q0 (Z : State) (p1 : Int32) (p2 : Int32) (p3 : Int32) (p4 : Int32) (p5 : Int32) (p6 : Int32) (h0 : Heap) (n0 : Nat) (v : Option Value) (h : Heap) (L : List Loc) : Prop := v = some (.int 1) ∧ Fr n0 L
set_option maxRecDepth 65536 in
set_option maxHeartbeats 40000000 in
theorem rm0 (l : Launch) (Z : State) (a0 : Array Value) (hw : ∀ d ∈ tables_1, d.before a0 Z = true) (ws : List Jvm.Cond) (p1 : Int32) (p2 : Int32) (p3 : Int32) (p4 : Int32) (p5 : Int32) (p6 : Int32) (h0 : Heap) (n0 : Nat) (Z0 : n0 ≤ h0.size)  :
    MetFree l x (head1 (Jvm.Cond.code x code maxLocals ret :: ws) room_1) (fun a U => a = #[(.int p1), (.int p2), (.int p3), (.int p4), (.int p5), (.int p6)] ∧ Z.Warmed39 U.vm ∧ U.heap = h0) (fun _ _ _ _ _ => True) (fun _ U o U' => ∃ v L, o = .returned v ∧ own_Q0 Z p1 p2 p3 p4 p5 p6 h0 n0 v U'.heap L ∧ FrameEnd U o U' L room_1.cells room_1.slots) := by
  refine MetFree.of_bodySF (plainFor_of_name pn_tessera_FormatFitsPinLaw) hisR ?_
  intro p e s m args below meth c s₁ Bd hml0 hP hK
  obtain ⟨rfl, hZ, hh⟩ := hP
  have hx := Bd.exec
  have hby := Bd.bytes
  have hml : c.maxLocals = 14 := hml0
  have hown : s.vm.findClass "tessera/FormatFitsPinLaw" = some m.cls := findClass_of_methodNamed Bd.named
  have hnm := (name_of_methodNamed Bd.named Bd.method).1
  have X0 : Stand p l e room_1 s m #[(.int p1), (.int p2), (.int p3), (.int p4), (.int p5), (.int p6)] below meth c s₁ [] 0 0 := Stand.of_body Bd
  have e0 : s₁.heap = h0 := by rw [← hh, Bd.state]; rfl
  have N0 := Fr.nil n0
  have Zs := Z0
  show own_Goes p e below s (own_Q0 Z p1 p2 p3 p4 p5 p6 h0 n0) room_1.cells room_1.slots _
  refine own_go (B := s₁.setTop (mkF m 0 #[.val (.int p1), .val (.int p2), .val (.int p3), .val (.int p4), .val (.int p5), .val (.int p6), .unset, .unset, .unset, .unset, .unset, .unset, .unset, .unset] [])) (fun t k => castTop (ef_0 m p1 p2 p3 p4 p5 p6) k) ?_
  have J13 : ∀ (Tj13 : State) (Lj13 : List Loc) (Xj13 : Stand p l e room_1 s m #[(.int p1), (.int p2), (.int p3), (.int p4), (.int p5), (.int p6)] below meth c Tj13 Lj13 0 0) (ej13 : Tj13.heap = h0) (Nj13 : Fr n0 Lj13) (wa : Int32), own_Goes p e below s (own_Q0 Z p1 p2 p3 p4 p5 p6 h0 n0) room_1.cells room_1.slots (Tj13.setTop (mkF m 13 #[.val (.int p1), .val (.int p2), .val (.int p3), .val (.int p4), .val (.int p5), .val (.int p6), .val (.int wa), .unset, .unset, .unset, .unset, .unset, .unset, .unset] [])) := by
    intro Tj13 Lj13 Xj13 ej13 Nj13 wa
    have J26 : ∀ (Tj26 : State) (Lj26 : List Loc) (Xj26 : Stand p l e room_1 s m #[(.int p1), (.int p2), (.int p3), (.int p4), (.int p5), (.int p6)] below meth c Tj26 Lj26 0 0) (ej26 : Tj26.heap = h0) (Nj26 : Fr n0 Lj26) (wb : Int32), own_Goes p e below s (own_Q0 Z p1 p2 p3 p4 p5 p6 h0 n0) room_1.cells room_1.slots (Tj26.setTop (mkF m 26 #[.val (.int p1), .val (.int p2), .val (.int p3), .val (.int p4), .val (.int p5), .val (.int p6), .val (.int wa), .val (.int wb), .unset, .unset, .unset, .unset, .unset, .unset] [])) := by
      intro Tj26 Lj26 Xj26 ej26 Nj26 wb
      have J41 : ∀ (Tj41 : State) (Lj41 : List Loc) (Xj41 : Stand p l e room_1 s m #[(.int p1), (.int p2), (.int p3), (.int p4), (.int p5), (.int p6)] below meth c Tj41 Lj41 0 0) (ej41 : Tj41.heap = h0) (Nj41 : Fr n0 Lj41) (la : Int32) (hla : (¬ (wa = (0 : Int32)) ∧ la = (-1 : Int32)) ∨ (wa = (0 : Int32) ∧ 0 ≤ la.toInt)), own_Goes p e below s (own_Q0 Z p1 p2 p3 p4 p5 p6 h0 n0) room_1.cells room_1.slots (Tj41.setTop (mkF m 41 #[.val (.int p1), .val (.int p2), .val (.int p3), .val (.int p4), .val (.int p5), .val (.int p6), .val (.int wa), .val (.int wb), .val (.int la), .unset, .unset, .unset, .unset, .unset] [])) := by
        intro Tj41 Lj41 Xj41 ej41 Nj41 la hla
        have J56 : ∀ (Tj56 : State) (Lj56 : List Loc) (Xj56 : Stand p l e room_1 s m #[(.int p1), (.int p2), (.int p3), (.int p4), (.int p5), (.int p6)] below meth c Tj56 Lj56 0 0) (ej56 : Tj56.heap = h0) (Nj56 : Fr n0 Lj56) (lb : Int32) (hlb : (¬ (wb = (0 : Int32)) ∧ lb = (-1 : Int32)) ∨ (wb = (0 : Int32) ∧ 0 ≤ lb.toInt)), own_Goes p e below s (own_Q0 Z p1 p2 p3 p4 p5 p6 h0 n0) room_1.cells room_1.slots (Tj56.setTop (mkF m 56 #[.val (.int p1), .val (.int p2), .val (.int p3), .val (.int p4), .val (.int p5), .val (.int p6), .val (.int wa), .val (.int wb), .val (.int la), .val (.int lb), .unset, .unset, .unset, .unset] [])) := by
          intro Tj56 Lj56 Xj56 ej56 Nj56 lb hlb
          refine own_go (B := Tj56.setTop (mkF m 58 #[.val (.int p1), .val (.int p2), .val (.int p3), .val (.int p4), .val (.int p5), .val (.int p6), .val (.int wa), .val (.int wb), .val (.int la), .val (.int lb), .unset, .unset, .unset, .unset] [(.int p6)])) (fun t k => XS.iload Xj56.here hx rfl (Jvm.hb hby at_56) rfl k) ?_
          refine own_go (B := Tj56.setTop (mkF m 60 #[.val (.int p1), .val (.int p2), .val (.int p3), .val (.int p4), .val (.int p5), .val (.int p6), .val (.int wa), .val (.int wb), .val (.int la), .val (.int lb), .unset, .unset, .unset, .unset] [(.int (2147483647 : Int32)), (.int p6)])) (fun t k => Xj56.ldcInt hx hown (mvT hZ (own_w hw 0 rfl)) (g := (mkF m 58 #[.val (.int p1), .val (.int p2), .val (.int p3), .val (.int p4), .val (.int p5), .val (.int p6), .val (.int wa), .val (.int wb), .val (.int la), .val (.int lb), .unset, .unset, .unset, .unset] [(.int p6)])) rfl (Jvm.hb hby at_58) _ k) ?_
          refine own_go (B := Tj56.setTop (mkF m 61 #[.val (.int p1), .val (.int p2), .val (.int p3), .val (.int p4), .val (.int p5), .val (.int p6), .val (.int wa), .val (.int wb), .val (.int la), .val (.int lb), .unset, .unset, .unset, .unset] [(.int (p6 &&& (2147483647 : Int32)))])) (fun t k => XS.iand Xj56.here hx rfl (Jvm.hb hby at_60) rfl k) ?_
          obtain ⟨vn, hvn⟩ : ∃ z : Int32, z = (p6 &&& (2147483647 : Int32)) := ⟨_, rfl⟩
          rw [← hvn]
          have hvn0 : 0 ≤ vn.toInt := by rw [hvn]; exact (c_and p6 2147483647 (by decide)).1
          refine own_go (B := Tj56.setTop (mkF m 63 #[.val (.int p1), .val (.int p2), .val (.int p3), .val (.int p4), .val (.int p5), .val (.int p6), .val (.int wa), .val (.int wb), .val (.int la), .val (.int lb), .val (.int vn), .unset, .unset, .unset] [])) (fun t k => XS.istore Xj56.here hx rfl (Jvm.hb hby at_61) rfl (l' := #[.val (.int p1), .val (.int p2), .val (.int p3), .val (.int p4), .val (.int p5), .val (.int p6), .val (.int wa), .val (.int wb), .val (.int la), .val (.int lb), .val (.int vn), .unset, .unset, .unset]) rfl k) ?_
          obtain ⟨T16, h16, X16, e16, E16, A16, D16, -, st16⟩ := newO Xj56 hx hZ hown (own_w hw 1 rfl) (own_w hw 2 rfl) (own_w hw 3 rfl) ej56 (g := (mkF m 63 #[.val (.int p1), .val (.int p2), .val (.int p3), .val (.int p4), .val (.int p5), .val (.int p6), .val (.int wa), .val (.int wb), .val (.int la), .val (.int lb), .val (.int vn), .unset, .unset, .unset] [])) rfl (Jvm.hb hby at_63) (by decide) (by decide)
          obtain ⟨b16, g16⟩ : ∃ z, z = h0.size := ⟨_, rfl⟩
          rw [← g16] at A16 D16 st16
          have g_b16 : n0 ≤ b16 := Nat.le_trans Zs (Nat.le_of_eq g16.symm)
          have Zs := Nat.le_trans Zs E16.1
          have E_b16 := A16
          have F_b16_largest : Fld Z h16 b16 "tessera/SynchronousNetwork$Format" "largest" "[I" .null := D16 (Or.inr (own_w hw 21 rfl)) (ty := (.array .int)) (by decide)
          refine own_go (B := T16.setTop (mkF m 66 #[.val (.int p1), .val (.int p2), .val (.int p3), .val (.int p4), .val (.int p5), .val (.int p6), .val (.int wa), .val (.int wb), .val (.int la), .val (.int lb), .val (.int vn), .unset, .unset, .unset] [(.ref b16)])) (fun t k => st16 _ k) ?_
          refine own_go (B := T16.setTop (mkF m 67 #[.val (.int p1), .val (.int p2), .val (.int p3), .val (.int p4), .val (.int p5), .val (.int p6), .val (.int wa), .val (.int wb), .val (.int la), .val (.int lb), .val (.int vn), .unset, .unset, .unset] [(.ref b16), (.ref b16)])) (fun t k => XS.dup X16.here hx rfl (Jvm.hb hby at_66) rfl rfl k) ?_
          refine own_go (B := T16.setTop (mkF m 68 #[.val (.int p1), .val (.int p2), .val (.int p3), .val (.int p4), .val (.int p5), .val (.int p6), .val (.int wa), .val (.int wb), .val (.int la), .val (.int lb), .val (.int vn), .unset, .unset, .unset] [(.int (2 : Int32)), (.ref b16), (.ref b16)])) (fun t k => XS.iconst X16.here hx rfl (Jvm.hb hby at_67) k) ?_
          obtain ⟨T17, h17, k17, X17, e17, E17, A17, Ea17, st17⟩ := newPE X16 hx hZ (own_w hw 4 rfl) e16 (g := (mkF m 68 #[.val (.int p1), .val (.int p2), .val (.int p3), .val (.int p4), .val (.int p5), .val (.int p6), .val (.int wa), .val (.int wb), .val (.int la), .val (.int lb), .val (.int vn), .unset, .unset, .unset] [(.int (2 : Int32)), (.ref b16), (.ref b16)])) rfl (Jvm.hb hby at_68) rfl (by decide) (cap := 2) (by decide) (by decide) (by decide) (by decide) (ad := "[I") (by decide)
          obtain ⟨b17, g17⟩ : ∃ z, z = h16.size := ⟨_, rfl⟩
          rw [← g17] at A17 Ea17 st17
          have ne_b16_b17 : b16 ≠ b17 := Nat.ne_of_lt (Nat.lt_of_lt_of_le E_b16.lt (Nat.le_of_eq g17.symm))
          have g_b17 : n0 ≤ b17 := Nat.le_trans Zs (Nat.le_of_eq g17.symm)
          have E_b16 := E_b16.ext E17
          have F_b16_largest := F_b16_largest.ext E17
          have Zs := Nat.le_trans Zs E17.1
          have E_b17 := Ea17
          have V_b17 : own_IA Z h17 b17 .int 2 (fun _ => 0) := own_Inew A17 (by decide) rfl
          refine own_go (B := T17.setTop (mkF m 70 #[.val (.int p1), .val (.int p2), .val (.int p3), .val (.int p4), .val (.int p5), .val (.int p6), .val (.int wa), .val (.int wb), .val (.int la), .val (.int lb), .val (.int vn), .unset, .unset, .unset] [(.ref b17), (.ref b16), (.ref b16)])) (fun t k => st17 _ k) ?_
          refine own_go (B := T17.setTop (mkF m 71 #[.val (.int p1), .val (.int p2), .val (.int p3), .val (.int p4), .val (.int p5), .val (.int p6), .val (.int wa), .val (.int wb), .val (.int la), .val (.int lb), .val (.int vn), .unset, .unset, .unset] [(.ref b17), (.ref b17), (.ref b16), (.ref b16)])) (fun t k => XS.dup X17.here hx rfl (Jvm.hb hby at_70) rfl rfl k) ?_
          refine own_go (B := T17.setTop (mkF m 72 #[.val (.int p1), .val (.int p2), .val (.int p3), .val (.int p4), .val (.int p5), .val (.int p6), .val (.int wa), .val (.int wb), .val (.int la), .val (.int lb), .val (.int vn), .unset, .unset, .unset] [(.int (0 : Int32)), (.ref b17), (.ref b17), (.ref b16), (.ref b16)])) (fun t k => XS.iconst X17.here hx rfl (Jvm.hb hby at_71) k) ?_
          refine own_go (B := T17.setTop (mkF m 74 #[.val (.int p1), .val (.int p2), .val (.int p3), .val (.int p4), .val (.int p5), .val (.int p6), .val (.int wa), .val (.int wb), .val (.int la), .val (.int lb), .val (.int vn), .unset, .unset, .unset] [(.int la), (.int (0 : Int32)), (.ref b17), (.ref b17), (.ref b16), (.ref b16)])) (fun t k => XS.iload X17.here hx rfl (Jvm.hb hby at_72) rfl k) ?_
          obtain ⟨T18, h18, X18, e18, W18, V18, st18⟩ := own_iastore X17 hx hZ e17 V_b17 (j := (0 : Int32)) (k := 0) (by decide) (by decide) (by decide) (g := (mkF m 74 #[.val (.int p1), .val (.int p2), .val (.int p3), .val (.int p4), .val (.int p5), .val (.int p6), .val (.int wa), .val (.int wb), .val (.int la), .val (.int lb), .val (.int vn), .unset, .unset, .unset] [(.int la), (.int (0 : Int32)), (.ref b17), (.ref b17), (.ref b16), (.ref b16)])) rfl rfl (Jvm.hb hby at_74)
          have N18 := Fr.snoc X18 Nj56 g_b17
          have E_b16 := E_b16.wr W18
          have F_b16_largest := F_b16_largest.other W18 (Or.inl ne_b16_b17)
          have E_b17 := E_b17.wr W18
          have Zs := Nat.le_trans Zs (Keep.of_wr W18).1
          have V_b17 := V18
          refine own_go (B := T18.setTop (mkF m 75 #[.val (.int p1), .val (.int p2), .val (.int p3), .val (.int p4), .val (.int p5), .val (.int p6), .val (.int wa), .val (.int wb), .val (.int la), .val (.int lb), .val (.int vn), .unset, .unset, .unset] [(.ref b17), (.ref b16), (.ref b16)])) (fun t k => st18 _ k) ?_
          refine own_go (B := T18.setTop (mkF m 76 #[.val (.int p1), .val (.int p2), .val (.int p3), .val (.int p4), .val (.int p5), .val (.int p6), .val (.int wa), .val (.int wb), .val (.int la), .val (.int lb), .val (.int vn), .unset, .unset, .unset] [(.ref b17), (.ref b17), (.ref b16), (.ref b16)])) (fun t k => XS.dup X18.here hx rfl (Jvm.hb hby at_75) rfl rfl k) ?_
          refine own_go (B := T18.setTop (mkF m 77 #[.val (.int p1), .val (.int p2), .val (.int p3), .val (.int p4), .val (.int p5), .val (.int p6), .val (.int wa), .val (.int wb), .val (.int la), .val (.int lb), .val (.int vn), .unset, .unset, .unset] [(.int (1 : Int32)), (.ref b17), (.ref b17), (.ref b16), (.ref b16)])) (fun t k => XS.iconst X18.here hx rfl (Jvm.hb hby at_76) k) ?_
          refine own_go (B := T18.setTop (mkF m 79 #[.val (.int p1), .val (.int p2), .val (.int p3), .val (.int p4), .val (.int p5), .val (.int p6), .val (.int wa), .val (.int wb), .val (.int la), .val (.int lb), .val (.int vn), .unset, .unset, .unset] [(.int lb), (.int (1 : Int32)), (.ref b17), (.ref b17), (.ref b16), (.ref b16)])) (fun t k => XS.iload X18.here hx rfl (Jvm.hb hby at_77) rfl k) ?_
          obtain ⟨T19, h19, X19, e19, W19, V19, st19⟩ := own_iastore X18 hx hZ e18 V_b17 (j := (1 : Int32)) (k := 1) (by decide) (by decide) (by decide) (g := (mkF m 79 #[.val (.int p1), .val (.int p2), .val (.int p3), .val (.int p4), .val (.int p5), .val (.int p6), .val (.int wa), .val (.int wb), .val (.int la), .val (.int lb), .val (.int vn), .unset, .unset, .unset] [(.int lb), (.int (1 : Int32)), (.ref b17), (.ref b17), (.ref b16), (.ref b16)])) rfl rfl (Jvm.hb hby at_79)
          have N19 := Fr.snoc X19 N18 g_b17
          have E_b16 := E_b16.wr W19
          have F_b16_largest := F_b16_largest.other W19 (Or.inl ne_b16_b17)
          have E_b17 := E_b17.wr W19
          have Zs := Nat.le_trans Zs (Keep.of_wr W19).1
          have V_b17 := V19
          refine own_go (B := T19.setTop (mkF m 80 #[.val (.int p1), .val (.int p2), .val (.int p3), .val (.int p4), .val (.int p5), .val (.int p6), .val (.int wa), .val (.int wb), .val (.int la), .val (.int lb), .val (.int vn), .unset, .unset, .unset] [(.ref b17), (.ref b16), (.ref b16)])) (fun t k => st19 _ k) ?_
          obtain ⟨_, _, ⟨T20, La20, ka20, na20⟩, -, X20, ⟨Lc20, hQ20, l20, y20, z20⟩, st20⟩ := X19.specialBack hx (y := (⟨"tessera/SynchronousNetwork$Format", "<init>", "([I)V"⟩ : MethodName)) rfl hown (mvT hZ (own_w hw 5 rfl)) (mvT hZ (own_w hw 6 rfl)) (mvT hZ (own_w hw 7 rfl)) (by decide) (backOf (W := 1) (rm1 l Z a0 hw [] b16 b17 (own_upd (own_upd (fun _ => 0) 0 la) 1 lb) h19 n0 Zs E_b16 F_b16_largest E_b17 V_b17 g_b16 ne_b16_b17) hZ (own_w hw 7 rfl) (own_w hw 3 rfl) (by decide) (by decide)) (g := (mkF m 80 #[.val (.int p1), .val (.int p2), .val (.int p3), .val (.int p4), .val (.int p5), .val (.int p6), .val (.int wa), .val (.int wb), .val (.int la), .val (.int lb), .val (.int vn), .unset, .unset, .unset] [(.ref b17), (.ref b16), (.ref b16)])) rfl (by rw [hml]; rfl) (Steps.refl _) (a := b16) (argsL := [(.ref b17)]) (rest := [(.ref b16)]) (lenOf pd_0 rfl) rfl (by show 2 * 0 + _ ≤ _; exact Nat.le_of_eq rfl) (Jvm.hb hby at_80) (fun _ _ => ⟨rfl, e19, (by decide : 2 + 1 ≤ _), (by decide : 3 + 2 ≤ _)⟩)
          dsimp only [Pt.U, Pt.locs, Pt.cells, Pt.slots] at X20 l20 y20 z20 st20 hQ20
          subst l20 y20 z20
          obtain ⟨rfl, N20q, b21, sq_b21, Kc20, E_b16_q, F_b16_largest_q, V_b21_q⟩ := hQ20
          have g_b21 : n0 ≤ b21 := Nat.le_trans Zs sq_b21
          have ne_b16_b21 : b16 ≠ b21 := Nat.ne_of_lt (Nat.lt_of_lt_of_le E_b16.lt sq_b21)
          have ne_b17_b21 : b17 ≠ b21 := Nat.ne_of_lt (Nat.lt_of_lt_of_le E_b17.lt sq_b21)
          have N20 := Fr.app N19 N20q
          have E_b17 := E_b17.keep Kc20
          have V_b17 := V_b17.keep Kc20 (ninS (Ne.symm ne_b16_b17) nin0)
          have Zs := Nat.le_trans Zs Kc20.1
          have E_b16 := E_b16_q
          have F_b16_largest := F_b16_largest_q
          have V_b21 := V_b21_q
          refine own_go (B := T20.setTop (mkF m 83 #[.val (.int p1), .val (.int p2), .val (.int p3), .val (.int p4), .val (.int p5), .val (.int p6), .val (.int wa), .val (.int wb), .val (.int la), .val (.int lb), .val (.int vn), .unset, .unset, .unset] [(.ref b16)])) (fun t k => own_st st20 k) ?_
          refine own_go (B := T20.setTop (mkF m 85 #[.val (.int p1), .val (.int p2), .val (.int p3), .val (.int p4), .val (.int p5), .val (.int p6), .val (.int wa), .val (.int wb), .val (.int la), .val (.int lb), .val (.int vn), .val (.ref b16), .unset, .unset] [])) (fun t k => XS.astore X20.here hx rfl (Jvm.hb hby at_83) rfl rfl (l' := #[.val (.int p1), .val (.int p2), .val (.int p3), .val (.int p4), .val (.int p5), .val (.int p6), .val (.int wa), .val (.int wb), .val (.int la), .val (.int lb), .val (.int vn), .val (.ref b16), .unset, .unset]) rfl k) ?_
          refine own_go (B := T20.setTop (mkF m 87 #[.val (.int p1), .val (.int p2), .val (.int p3), .val (.int p4), .val (.int p5), .val (.int p6), .val (.int wa), .val (.int wb), .val (.int la), .val (.int lb), .val (.int vn), .val (.ref b16), .unset, .unset] [(.ref b16)])) (fun t k => XS.aload X20.here hx rfl (Jvm.hb hby at_85) rfl rfl k) ?_
          refine own_go (B := T20.setTop (mkF m 88 #[.val (.int p1), .val (.int p2), .val (.int p3), .val (.int p4), .val (.int p5), .val (.int p6), .val (.int wa), .val (.int wb), .val (.int la), .val (.int lb), .val (.int vn), .val (.ref b16), .unset, .unset] [(.int (0 : Int32)), (.ref b16)])) (fun t k => XS.iconst X20.here hx rfl (Jvm.hb hby at_87) k) ?_
          refine own_go (B := T20.setTop (mkF m 89 #[.val (.int p1), .val (.int p2), .val (.int p3), .val (.int p4), .val (.int p5), .val (.int p6), .val (.int wa), .val (.int wb), .val (.int la), .val (.int lb), .val (.int vn), .val (.ref b16), .unset, .unset] [(.int p4), (.int (0 : Int32)), (.ref b16)])) (fun t k => XS.iloadN X20.here hx rfl (Jvm.hb hby at_88) rfl k) ?_
          refine own_go (B := T20.setTop (mkF m 91 #[.val (.int p1), .val (.int p2), .val (.int p3), .val (.int p4), .val (.int p5), .val (.int p6), .val (.int wa), .val (.int wb), .val (.int la), .val (.int lb), .val (.int vn), .val (.ref b16), .unset, .unset] [(.int vn), (.int p4), (.int (0 : Int32)), (.ref b16)])) (fun t k => XS.iload X20.here hx rfl (Jvm.hb hby at_89) rfl k) ?_
          obtain ⟨cq22, kq22, q22a, q22b, q22c⟩ := isOf hZ rfl E_b16
          obtain ⟨_, _, ⟨T22, La22, ka22, na22⟩, -, X22, ⟨Lc22, hQ22, l22, y22, z22⟩, st22⟩ := X20.virtualBack hx (y := (⟨"tessera/SynchronousNetwork$Format", "fits", "(III)Z"⟩ : MethodName)) (z := (⟨"tessera/SynchronousNetwork$Format", "fits", "(III)Z"⟩ : MethodName)) hown (mvT hZ (own_w hw 22 rfl)) (mvT hZ (own_w hw 23 rfl)) (notFace_of_selects (args := #[]) (mvT hZ (own_w hw 25 rfl))) (mvT hZ (own_w hw 25 rfl)) (mvT hZ (own_w hw 24 rfl)) (by decide) (backOf (W := 0) (rm3 l Z a0 hw [] b16 (0 : Int32) p4 vn b21 (own_upd (own_upd (fun _ => 0) 0 la) 1 lb) 0 T20.heap n0 Zs F_b16_largest V_b21 (by decide) (by decide) (by decide)) hZ (own_w hw 26 rfl) (own_w hw 3 rfl) (by decide) (by decide)) q22a q22c (g := (mkF m 91 #[.val (.int p1), .val (.int p2), .val (.int p3), .val (.int p4), .val (.int p5), .val (.int p6), .val (.int wa), .val (.int wb), .val (.int la), .val (.int lb), .val (.int vn), .val (.ref b16), .unset, .unset] [(.int vn), (.int p4), (.int (0 : Int32)), (.ref b16)])) rfl (by rw [hml]; rfl) (Steps.refl _) (argsL := [(.int (0 : Int32)), (.int p4), (.int vn)]) (rest := []) (lenOf pd_1 rfl) rfl (by show 2 * 0 + _ ≤ _; exact Nat.le_of_eq rfl) (Jvm.hb hby at_91) (fun _ _ => ⟨rfl, rfl, (by decide : 3 + 0 ≤ _), (by decide : 5 + 0 ≤ _)⟩)
          dsimp only [Pt.U, Pt.locs, Pt.cells, Pt.slots] at X22 l22 y22 z22 st22 hQ22
          subst l22 y22 z22
          obtain ⟨rfl, N22q, e22⟩ := hQ22
          have N22 := Fr.app N20 N22q
          refine own_go (B := T22.setTop (mkF m 94 #[.val (.int p1), .val (.int p2), .val (.int p3), .val (.int p4), .val (.int p5), .val (.int p6), .val (.int wa), .val (.int wb), .val (.int la), .val (.int lb), .val (.int vn), .val (.ref b16), .unset, .unset] [(.int (own_fits p4 vn (own_upd (own_upd (fun _ => 0) 0 la) 1 lb) 0))])) (fun t k => own_st st22 k) ?_
          refine own_go (B := T22.setTop (mkF m 96 #[.val (.int p1), .val (.int p2), .val (.int p3), .val (.int p4), .val (.int p5), .val (.int p6), .val (.int wa), .val (.int wb), .val (.int la), .val (.int lb), .val (.int vn), .val (.ref b16), .val (.int (own_fits p4 vn (own_upd (own_upd (fun _ => 0) 0 la) 1 lb) 0)), .unset] [])) (fun t k => XS.istore X22.here hx rfl (Jvm.hb hby at_94) rfl (l' := #[.val (.int p1), .val (.int p2), .val (.int p3), .val (.int p4), .val (.int p5), .val (.int p6), .val (.int wa), .val (.int wb), .val (.int la), .val (.int lb), .val (.int vn), .val (.ref b16), .val (.int (own_fits p4 vn (own_upd (own_upd (fun _ => 0) 0 la) 1 lb) 0)), .unset]) rfl k) ?_
          refine own_go (B := T22.setTop (mkF m 98 #[.val (.int p1), .val (.int p2), .val (.int p3), .val (.int p4), .val (.int p5), .val (.int p6), .val (.int wa), .val (.int wb), .val (.int la), .val (.int lb), .val (.int vn), .val (.ref b16), .val (.int (own_fits p4 vn (own_upd (own_upd (fun _ => 0) 0 la) 1 lb) 0)), .unset] [(.ref b16)])) (fun t k => XS.aload X22.here hx rfl (Jvm.hb hby at_96) rfl rfl k) ?_
          refine own_go (B := T22.setTop (mkF m 99 #[.val (.int p1), .val (.int p2), .val (.int p3), .val (.int p4), .val (.int p5), .val (.int p6), .val (.int wa), .val (.int wb), .val (.int la), .val (.int lb), .val (.int vn), .val (.ref b16), .val (.int (own_fits p4 vn (own_upd (own_upd (fun _ => 0) 0 la) 1 lb) 0)), .unset] [(.int (1 : Int32)), (.ref b16)])) (fun t k => XS.iconst X22.here hx rfl (Jvm.hb hby at_98) k) ?_
          refine own_go (B := T22.setTop (mkF m 101 #[.val (.int p1), .val (.int p2), .val (.int p3), .val (.int p4), .val (.int p5), .val (.int p6), .val (.int wa), .val (.int wb), .val (.int la), .val (.int lb), .val (.int vn), .val (.ref b16), .val (.int (own_fits p4 vn (own_upd (own_upd (fun _ => 0) 0 la) 1 lb) 0)), .unset] [(.int p5), (.int (1 : Int32)), (.ref b16)])) (fun t k => XS.iload X22.here hx rfl (Jvm.hb hby at_99) rfl k) ?_
          refine own_go (B := T22.setTop (mkF m 103 #[.val (.int p1), .val (.int p2), .val (.int p3), .val (.int p4), .val (.int p5), .val (.int p6), .val (.int wa), .val (.int wb), .val (.int la), .val (.int lb), .val (.int vn), .val (.ref b16), .val (.int (own_fits p4 vn (own_upd (own_upd (fun _ => 0) 0 la) 1 lb) 0)), .unset] [(.int vn), (.int p5), (.int (1 : Int32)), (.ref b16)])) (fun t k => XS.iload X22.here hx rfl (Jvm.hb hby at_101) rfl k) ?_
          obtain ⟨cq23, kq23, q23a, q23b, q23c⟩ := isOf hZ e22 E_b16
          obtain ⟨_, _, ⟨T23, La23, ka23, na23⟩, -, X23, ⟨Lc23, hQ23, l23, y23, z23⟩, st23⟩ := X22.virtualBack hx (y := (⟨"tessera/SynchronousNetwork$Format", "fits", "(III)Z"⟩ : MethodName)) (z := (⟨"tessera/SynchronousNetwork$Format", "fits", "(III)Z"⟩ : MethodName)) hown (mvT hZ (own_w hw 22 rfl)) (mvT hZ (own_w hw 23 rfl)) (notFace_of_selects (args := #[]) (mvT hZ (own_w hw 25 rfl))) (mvT hZ (own_w hw 25 rfl)) (mvT hZ (own_w hw 24 rfl)) (by decide) (backOf (W := 0) (rm3 l Z a0 hw [] b16 (1 : Int32) p5 vn b21 (own_upd (own_upd (fun _ => 0) 0 la) 1 lb) 1 T20.heap n0 Zs F_b16_largest V_b21 (by decide) (by decide) (by decide)) hZ (own_w hw 26 rfl) (own_w hw 3 rfl) (by decide) (by decide)) q23a q23c (g := (mkF m 103 #[.val (.int p1), .val (.int p2), .val (.int p3), .val (.int p4), .val (.int p5), .val (.int p6), .val (.int wa), .val (.int wb), .val (.int la), .val (.int lb), .val (.int vn), .val (.ref b16), .val (.int (own_fits p4 vn (own_upd (own_upd (fun _ => 0) 0 la) 1 lb) 0)), .unset] [(.int vn), (.int p5), (.int (1 : Int32)), (.ref b16)])) rfl (by rw [hml]; rfl) (Steps.refl _) (argsL := [(.int (1 : Int32)), (.int p5), (.int vn)]) (rest := []) (lenOf pd_1 rfl) rfl (by show 2 * 0 + _ ≤ _; exact Nat.le_of_eq rfl) (Jvm.hb hby at_103) (fun _ _ => ⟨rfl, e22, (by decide : 3 + 0 ≤ _), (by decide : 5 + 0 ≤ _)⟩)
          dsimp only [Pt.U, Pt.locs, Pt.cells, Pt.slots] at X23 l23 y23 z23 st23 hQ23
          subst l23 y23 z23
          obtain ⟨rfl, N23q, e23⟩ := hQ23
          have N23 := Fr.app N22 N23q
          refine own_go (B := T23.setTop (mkF m 106 #[.val (.int p1), .val (.int p2), .val (.int p3), .val (.int p4), .val (.int p5), .val (.int p6), .val (.int wa), .val (.int wb), .val (.int la), .val (.int lb), .val (.int vn), .val (.ref b16), .val (.int (own_fits p4 vn (own_upd (own_upd (fun _ => 0) 0 la) 1 lb) 0)), .unset] [(.int (own_fits p5 vn (own_upd (own_upd (fun _ => 0) 0 la) 1 lb) 1))])) (fun t k => own_st st23 k) ?_
          refine own_go (B := T23.setTop (mkF m 108 #[.val (.int p1), .val (.int p2), .val (.int p3), .val (.int p4), .val (.int p5), .val (.int p6), .val (.int wa), .val (.int wb), .val (.int la), .val (.int lb), .val (.int vn), .val (.ref b16), .val (.int (own_fits p4 vn (own_upd (own_upd (fun _ => 0) 0 la) 1 lb) 0)), .val (.int (own_fits p5 vn (own_upd (own_upd (fun _ => 0) 0 la) 1 lb) 1))] [])) (fun t k => XS.istore X23.here hx rfl (Jvm.hb hby at_106) rfl (l' := #[.val (.int p1), .val (.int p2), .val (.int p3), .val (.int p4), .val (.int p5), .val (.int p6), .val (.int wa), .val (.int wb), .val (.int la), .val (.int lb), .val (.int vn), .val (.ref b16), .val (.int (own_fits p4 vn (own_upd (own_upd (fun _ => 0) 0 la) 1 lb) 0)), .val (.int (own_fits p5 vn (own_upd (own_upd (fun _ => 0) 0 la) 1 lb) 1))]) rfl k) ?_
          refine own_go (B := T23.setTop (mkF m 110 #[.val (.int p1), .val (.int p2), .val (.int p3), .val (.int p4), .val (.int p5), .val (.int p6), .val (.int wa), .val (.int wb), .val (.int la), .val (.int lb), .val (.int vn), .val (.ref b16), .val (.int (own_fits p4 vn (own_upd (own_upd (fun _ => 0) 0 la) 1 lb) 0)), .val (.int (own_fits p5 vn (own_upd (own_upd (fun _ => 0) 0 la) 1 lb) 1))] [(.int (own_fits p4 vn (own_upd (own_upd (fun _ => 0) 0 la) 1 lb) 0))])) (fun t k => XS.iload X23.here hx rfl (Jvm.hb hby at_108) rfl k) ?_
          refine own_go (B := T23.setTop (mkF m 112 #[.val (.int p1), .val (.int p2), .val (.int p3), .val (.int p4), .val (.int p5), .val (.int p6), .val (.int wa), .val (.int wb), .val (.int la), .val (.int lb), .val (.int vn), .val (.ref b16), .val (.int (own_fits p4 vn (own_upd (own_upd (fun _ => 0) 0 la) 1 lb) 0)), .val (.int (own_fits p5 vn (own_upd (own_upd (fun _ => 0) 0 la) 1 lb) 1))] [(.int wa), (.int (own_fits p4 vn (own_upd (own_upd (fun _ => 0) 0 la) 1 lb) 0))])) (fun t k => XS.iload X23.here hx rfl (Jvm.hb hby at_110) rfl k) ?_
          refine own_go (B := T23.setTop (mkF m 114 #[.val (.int p1), .val (.int p2), .val (.int p3), .val (.int p4), .val (.int p5), .val (.int p6), .val (.int wa), .val (.int wb), .val (.int la), .val (.int lb), .val (.int vn), .val (.ref b16), .val (.int (own_fits p4 vn (own_upd (own_upd (fun _ => 0) 0 la) 1 lb) 0)), .val (.int (own_fits p5 vn (own_upd (own_upd (fun _ => 0) 0 la) 1 lb) 1))] [(.int la), (.int wa), (.int (own_fits p4 vn (own_upd (own_upd (fun _ => 0) 0 la) 1 lb) 0))])) (fun t k => XS.iload X23.here hx rfl (Jvm.hb hby at_112) rfl k) ?_
          refine own_go (B := T23.setTop (mkF m 115 #[.val (.int p1), .val (.int p2), .val (.int p3), .val (.int p4), .val (.int p5), .val (.int p6), .val (.int wa), .val (.int wb), .val (.int la), .val (.int lb), .val (.int vn), .val (.ref b16), .val (.int (own_fits p4 vn (own_upd (own_upd (fun _ => 0) 0 la) 1 lb) 0)), .val (.int (own_fits p5 vn (own_upd (own_upd (fun _ => 0) 0 la) 1 lb) 1))] [(.int p4), (.int la), (.int wa), (.int (own_fits p4 vn (own_upd (own_upd (fun _ => 0) 0 la) 1 lb) 0))])) (fun t k => XS.iloadN X23.here hx rfl (Jvm.hb hby at_114) rfl k) ?_
          refine own_go (B := T23.setTop (mkF m 117 #[.val (.int p1), .val (.int p2), .val (.int p3), .val (.int p4), .val (.int p5), .val (.int p6), .val (.int wa), .val (.int wb), .val (.int la), .val (.int lb), .val (.int vn), .val (.ref b16), .val (.int (own_fits p4 vn (own_upd (own_upd (fun _ => 0) 0 la) 1 lb) 0)), .val (.int (own_fits p5 vn (own_upd (own_upd (fun _ => 0) 0 la) 1 lb) 1))] [(.int vn), (.int p4), (.int la), (.int wa), (.int (own_fits p4 vn (own_upd (own_upd (fun _ => 0) 0 la) 1 lb) 0))])) (fun t k => XS.iload X23.here hx rfl (Jvm.hb hby at_115) rfl k) ?_
          obtain ⟨_, _, ⟨T24, La24, ka24, na24⟩, -, X24, ⟨Lc24, hQ24, l24, y24, z24⟩, st24⟩ := Jvm.LawKit.callS X23 hx (y := (⟨"tessera/FormatFitsPinLaw", "expected", "(ZIII)Z"⟩ : MethodName)) hown (mvT hZ (own_w hw 27 rfl)) (mvT hZ (own_w hw 28 rfl)) (mvT hZ (own_w hw 29 rfl)) (mvT hZ (own_w hw 30 rfl)) (by decide) (backOf (W := 1) (rm4 l Z a0 hw [] wa la p4 vn T20.heap n0 Zs) hZ (own_w hw 30 rfl) (own_w hw 29 rfl) (by decide) (by decide)) (g := (mkF m 117 #[.val (.int p1), .val (.int p2), .val (.int p3), .val (.int p4), .val (.int p5), .val (.int p6), .val (.int wa), .val (.int wb), .val (.int la), .val (.int lb), .val (.int vn), .val (.ref b16), .val (.int (own_fits p4 vn (own_upd (own_upd (fun _ => 0) 0 la) 1 lb) 0)), .val (.int (own_fits p5 vn (own_upd (own_upd (fun _ => 0) 0 la) 1 lb) 1))] [(.int vn), (.int p4), (.int la), (.int wa), (.int (own_fits p4 vn (own_upd (own_upd (fun _ => 0) 0 la) 1 lb) 0))])) rfl (by rw [hml]; rfl) (argsL := [(.int wa), (.int la), (.int p4), (.int vn)]) (rest := [(.int (own_fits p4 vn (own_upd (own_upd (fun _ => 0) 0 la) 1 lb) 0))]) (lenOf pd_2 rfl) rfl (by show 2 * 0 + _ ≤ _; exact Nat.le_of_eq rfl) (Jvm.hb hby at_117) (fun _ _ => ⟨rfl, e23, (by decide : 3 + 0 ≤ _), (by decide : 5 + 0 ≤ _)⟩)
          dsimp only [Pt.U, Pt.locs, Pt.cells, Pt.slots] at X24 l24 y24 z24 st24 hQ24
          subst l24 y24 z24
          obtain ⟨rfl, N24q, e24⟩ := hQ24
          have N24 := Fr.app N23 N24q
          refine own_go (B := T24.setTop (mkF m 120 #[.val (.int p1), .val (.int p2), .val (.int p3), .val (.int p4), .val (.int p5), .val (.int p6), .val (.int wa), .val (.int wb), .val (.int la), .val (.int lb), .val (.int vn), .val (.ref b16), .val (.int (own_fits p4 vn (own_upd (own_upd (fun _ => 0) 0 la) 1 lb) 0)), .val (.int (own_fits p5 vn (own_upd (own_upd (fun _ => 0) 0 la) 1 lb) 1))] [(.int (own_f4 wa la p4 vn)), (.int (own_fits p4 vn (own_upd (own_upd (fun _ => 0) 0 la) 1 lb) 0))])) (fun t k => st24 _ k) ?_
          refine own_go (B := T24.setTop (mkF m 123 #[.val (.int p1), .val (.int p2), .val (.int p3), .val (.int p4), .val (.int p5), .val (.int p6), .val (.int wa), .val (.int wb), .val (.int la), .val (.int lb), .val (.int vn), .val (.ref b16), .val (.int (own_fits p4 vn (own_upd (own_upd (fun _ => 0) 0 la) 1 lb) 0)), .val (.int (own_fits p5 vn (own_upd (own_upd (fun _ => 0) 0 la) 1 lb) 1))] [])) (fun t k => XS.icmpNo X24.here hx rfl (Jvm.hb hby at_120) rfl (teq (own_eq wa la p4 vn _ 0 (by rfl) hvn0 hla)).2 k) ?_
          refine own_go (B := T24.setTop (mkF m 125 #[.val (.int p1), .val (.int p2), .val (.int p3), .val (.int p4), .val (.int p5), .val (.int p6), .val (.int wa), .val (.int wb), .val (.int la), .val (.int lb), .val (.int vn), .val (.ref b16), .val (.int (own_fits p4 vn (own_upd (own_upd (fun _ => 0) 0 la) 1 lb) 0)), .val (.int (own_fits p5 vn (own_upd (own_upd (fun _ => 0) 0 la) 1 lb) 1))] [(.int (own_fits p5 vn (own_upd (own_upd (fun _ => 0) 0 la) 1 lb) 1))])) (fun t k => XS.iload X24.here hx rfl (Jvm.hb hby at_123) rfl k) ?_
          refine own_go (B := T24.setTop (mkF m 127 #[.val (.int p1), .val (.int p2), .val (.int p3), .val (.int p4), .val (.int p5), .val (.int p6), .val (.int wa), .val (.int wb), .val (.int la), .val (.int lb), .val (.int vn), .val (.ref b16), .val (.int (own_fits p4 vn (own_upd (own_upd (fun _ => 0) 0 la) 1 lb) 0)), .val (.int (own_fits p5 vn (own_upd (own_upd (fun _ => 0) 0 la) 1 lb) 1))] [(.int wb), (.int (own_fits p5 vn (own_upd (own_upd (fun _ => 0) 0 la) 1 lb) 1))])) (fun t k => XS.iload X24.here hx rfl (Jvm.hb hby at_125) rfl k) ?_
          refine own_go (B := T24.setTop (mkF m 129 #[.val (.int p1), .val (.int p2), .val (.int p3), .val (.int p4), .val (.int p5), .val (.int p6), .val (.int wa), .val (.int wb), .val (.int la), .val (.int lb), .val (.int vn), .val (.ref b16), .val (.int (own_fits p4 vn (own_upd (own_upd (fun _ => 0) 0 la) 1 lb) 0)), .val (.int (own_fits p5 vn (own_upd (own_upd (fun _ => 0) 0 la) 1 lb) 1))] [(.int lb), (.int wb), (.int (own_fits p5 vn (own_upd (own_upd (fun _ => 0) 0 la) 1 lb) 1))])) (fun t k => XS.iload X24.here hx rfl (Jvm.hb hby at_127) rfl k) ?_
          refine own_go (B := T24.setTop (mkF m 131 #[.val (.int p1), .val (.int p2), .val (.int p3), .val (.int p4), .val (.int p5), .val (.int p6), .val (.int wa), .val (.int wb), .val (.int la), .val (.int lb), .val (.int vn), .val (.ref b16), .val (.int (own_fits p4 vn (own_upd (own_upd (fun _ => 0) 0 la) 1 lb) 0)), .val (.int (own_fits p5 vn (own_upd (own_upd (fun _ => 0) 0 la) 1 lb) 1))] [(.int p5), (.int lb), (.int wb), (.int (own_fits p5 vn (own_upd (own_upd (fun _ => 0) 0 la) 1 lb) 1))])) (fun t k => XS.iload X24.here hx rfl (Jvm.hb hby at_129) rfl k) ?_
          refine own_go (B := T24.setTop (mkF m 133 #[.val (.int p1), .val (.int p2), .val (.int p3), .val (.int p4), .val (.int p5), .val (.int p6), .val (.int wa), .val (.int wb), .val (.int la), .val (.int lb), .val (.int vn), .val (.ref b16), .val (.int (own_fits p4 vn (own_upd (own_upd (fun _ => 0) 0 la) 1 lb) 0)), .val (.int (own_fits p5 vn (own_upd (own_upd (fun _ => 0) 0 la) 1 lb) 1))] [(.int vn), (.int p5), (.int lb), (.int wb), (.int (own_fits p5 vn (own_upd (own_upd (fun _ => 0) 0 la) 1 lb) 1))])) (fun t k => XS.iload X24.here hx rfl (Jvm.hb hby at_131) rfl k) ?_
          obtain ⟨_, _, ⟨T25, La25, ka25, na25⟩, -, X25, ⟨Lc25, hQ25, l25, y25, z25⟩, st25⟩ := Jvm.LawKit.callS X24 hx (y := (⟨"tessera/FormatFitsPinLaw", "expected", "(ZIII)Z"⟩ : MethodName)) hown (mvT hZ (own_w hw 27 rfl)) (mvT hZ (own_w hw 28 rfl)) (mvT hZ (own_w hw 29 rfl)) (mvT hZ (own_w hw 30 rfl)) (by decide) (backOf (W := 1) (rm4 l Z a0 hw [] wb lb p5 vn T20.heap n0 Zs) hZ (own_w hw 30 rfl) (own_w hw 29 rfl) (by decide) (by decide)) (g := (mkF m 133 #[.val (.int p1), .val (.int p2), .val (.int p3), .val (.int p4), .val (.int p5), .val (.int p6), .val (.int wa), .val (.int wb), .val (.int la), .val (.int lb), .val (.int vn), .val (.ref b16), .val (.int (own_fits p4 vn (own_upd (own_upd (fun _ => 0) 0 la) 1 lb) 0)), .val (.int (own_fits p5 vn (own_upd (own_upd (fun _ => 0) 0 la) 1 lb) 1))] [(.int vn), (.int p5), (.int lb), (.int wb), (.int (own_fits p5 vn (own_upd (own_upd (fun _ => 0) 0 la) 1 lb) 1))])) rfl (by rw [hml]; rfl) (argsL := [(.int wb), (.int lb), (.int p5), (.int vn)]) (rest := [(.int (own_fits p5 vn (own_upd (own_upd (fun _ => 0) 0 la) 1 lb) 1))]) (lenOf pd_2 rfl) rfl (by show 2 * 0 + _ ≤ _; exact Nat.le_of_eq rfl) (Jvm.hb hby at_133) (fun _ _ => ⟨rfl, e24, (by decide : 3 + 0 ≤ _), (by decide : 5 + 0 ≤ _)⟩)
          dsimp only [Pt.U, Pt.locs, Pt.cells, Pt.slots] at X25 l25 y25 z25 st25 hQ25
          subst l25 y25 z25
          obtain ⟨rfl, N25q, e25⟩ := hQ25
          have N25 := Fr.app N24 N25q
          refine own_go (B := T25.setTop (mkF m 136 #[.val (.int p1), .val (.int p2), .val (.int p3), .val (.int p4), .val (.int p5), .val (.int p6), .val (.int wa), .val (.int wb), .val (.int la), .val (.int lb), .val (.int vn), .val (.ref b16), .val (.int (own_fits p4 vn (own_upd (own_upd (fun _ => 0) 0 la) 1 lb) 0)), .val (.int (own_fits p5 vn (own_upd (own_upd (fun _ => 0) 0 la) 1 lb) 1))] [(.int (own_f4 wb lb p5 vn)), (.int (own_fits p5 vn (own_upd (own_upd (fun _ => 0) 0 la) 1 lb) 1))])) (fun t k => st25 _ k) ?_
          refine own_go (B := T25.setTop (mkF m 139 #[.val (.int p1), .val (.int p2), .val (.int p3), .val (.int p4), .val (.int p5), .val (.int p6), .val (.int wa), .val (.int wb), .val (.int la), .val (.int lb), .val (.int vn), .val (.ref b16), .val (.int (own_fits p4 vn (own_upd (own_upd (fun _ => 0) 0 la) 1 lb) 0)), .val (.int (own_fits p5 vn (own_upd (own_upd (fun _ => 0) 0 la) 1 lb) 1))] [])) (fun t k => XS.icmpNo X25.here hx rfl (Jvm.hb hby at_136) rfl (teq (own_eq wb lb p5 vn _ 1 (by rfl) hvn0 hlb)).2 k) ?_
          refine own_go (B := T25.setTop (mkF m 140 #[.val (.int p1), .val (.int p2), .val (.int p3), .val (.int p4), .val (.int p5), .val (.int p6), .val (.int wa), .val (.int wb), .val (.int la), .val (.int lb), .val (.int vn), .val (.ref b16), .val (.int (own_fits p4 vn (own_upd (own_upd (fun _ => 0) 0 la) 1 lb) 0)), .val (.int (own_fits p5 vn (own_upd (own_upd (fun _ => 0) 0 la) 1 lb) 1))] [(.int (1 : Int32))])) (fun t k => XS.iconst X25.here hx rfl (Jvm.hb hby at_139) k) ?_
          refine own_go (B := T25.setTop (mkF m 144 #[.val (.int p1), .val (.int p2), .val (.int p3), .val (.int p4), .val (.int p5), .val (.int p6), .val (.int wa), .val (.int wb), .val (.int la), .val (.int lb), .val (.int vn), .val (.ref b16), .val (.int (own_fits p4 vn (own_upd (own_upd (fun _ => 0) 0 la) 1 lb) 0)), .val (.int (own_fits p5 vn (own_upd (own_upd (fun _ => 0) 0 la) 1 lb) 1))] [(.int (1 : Int32))])) (fun t k => XS.goto X25.here hx rfl (pc0 := 140) (pc' := 144) rfl (Jvm.hb hby at_140) (by decide) (by decide) k) ?_
          refine own_out X25 (v := (some (.int (1 : Int32)))) (fun h => by rw [Bd.returns] at h; cases h) Bd.notSynchronized (fun fs hr => retOut X25 hx (t := .boolean) Bd.returns rfl (by first | exact Or.inl ⟨rfl, by simp, _, rfl⟩) (Jvm.hb hby at_144) hr) ?_ (by decide) (by decide)
          show own_Q0 Z p1 p2 p3 p4 p5 p6 h0 n0 (some (.int (1 : Int32))) T25.heap _
          rw [e25]
          exact ⟨rfl, N25⟩
        refine own_go (B := Tj41.setTop (mkF m 43 #[.val (.int p1), .val (.int p2), .val (.int p3), .val (.int p4), .val (.int p5), .val (.int p6), .val (.int wa), .val (.int wb), .val (.int la), .unset, .unset, .unset, .unset, .unset] [(.int wb)])) (fun t k => XS.iload Xj41.here hx rfl (Jvm.hb hby at_41) rfl k) ?_
        by_cases hc43_26 : wb = (0 : Int32)
        · refine own_go (B := Tj41.setTop (mkF m 50 #[.val (.int p1), .val (.int p2), .val (.int p3), .val (.int p4), .val (.int p5), .val (.int p6), .val (.int wa), .val (.int wb), .val (.int la), .unset, .unset, .unset, .unset, .unset] [])) (fun t k => XS.ifYes Xj41.here hx rfl (pc0 := 43) (pc' := 50) rfl (Jvm.hb hby at_43) rfl ((if0 _ _).trans (teq hc43_26).1) (by decide) (by decide) k) ?_
          refine own_go (B := Tj41.setTop (mkF m 51 #[.val (.int p1), .val (.int p2), .val (.int p3), .val (.int p4), .val (.int p5), .val (.int p6), .val (.int wa), .val (.int wb), .val (.int la), .unset, .unset, .unset, .unset, .unset] [(.int p2)])) (fun t k => XS.iloadN Xj41.here hx rfl (Jvm.hb hby at_50) rfl k) ?_
          refine own_go (B := Tj41.setTop (mkF m 53 #[.val (.int p1), .val (.int p2), .val (.int p3), .val (.int p4), .val (.int p5), .val (.int p6), .val (.int wa), .val (.int wb), .val (.int la), .unset, .unset, .unset, .unset, .unset] [(.int (2147483647 : Int32)), (.int p2)])) (fun t k => Xj41.ldcInt hx hown (mvT hZ (own_w hw 0 rfl)) (g := (mkF m 51 #[.val (.int p1), .val (.int p2), .val (.int p3), .val (.int p4), .val (.int p5), .val (.int p6), .val (.int wa), .val (.int wb), .val (.int la), .unset, .unset, .unset, .unset, .unset] [(.int p2)])) rfl (Jvm.hb hby at_51) _ k) ?_
          refine own_go (B := Tj41.setTop (mkF m 54 #[.val (.int p1), .val (.int p2), .val (.int p3), .val (.int p4), .val (.int p5), .val (.int p6), .val (.int wa), .val (.int wb), .val (.int la), .unset, .unset, .unset, .unset, .unset] [(.int (p2 &&& (2147483647 : Int32)))])) (fun t k => XS.iand Xj41.here hx rfl (Jvm.hb hby at_53) rfl k) ?_
          refine own_go (B := Tj41.setTop (mkF m 56 #[.val (.int p1), .val (.int p2), .val (.int p3), .val (.int p4), .val (.int p5), .val (.int p6), .val (.int wa), .val (.int wb), .val (.int la), .val (.int (p2 &&& (2147483647 : Int32))), .unset, .unset, .unset, .unset] [])) (fun t k => XS.istore Xj41.here hx rfl (Jvm.hb hby at_54) rfl (l' := #[.val (.int p1), .val (.int p2), .val (.int p3), .val (.int p4), .val (.int p5), .val (.int p6), .val (.int wa), .val (.int wb), .val (.int la), .val (.int (p2 &&& (2147483647 : Int32))), .unset, .unset, .unset, .unset]) rfl k) ?_
          exact J56 Tj41 _ Xj41 ej41 Nj41 (p2 &&& (2147483647 : Int32)) (Or.inr ⟨hc43_26, (c_and p2 2147483647 (by decide)).1⟩)
        · refine own_go (B := Tj41.setTop (mkF m 46 #[.val (.int p1), .val (.int p2), .val (.int p3), .val (.int p4), .val (.int p5), .val (.int p6), .val (.int wa), .val (.int wb), .val (.int la), .unset, .unset, .unset, .unset, .unset] [])) (fun t k => XS.ifNo Xj41.here hx rfl (Jvm.hb hby at_43) rfl ((if0 _ _).trans (feq hc43_26).1) k) ?_
          refine own_go (B := Tj41.setTop (mkF m 47 #[.val (.int p1), .val (.int p2), .val (.int p3), .val (.int p4), .val (.int p5), .val (.int p6), .val (.int wa), .val (.int wb), .val (.int la), .unset, .unset, .unset, .unset, .unset] [(.int (-1 : Int32))])) (fun t k => XS.iconst Xj41.here hx rfl (Jvm.hb hby at_46) k) ?_
          refine own_go (B := Tj41.setTop (mkF m 54 #[.val (.int p1), .val (.int p2), .val (.int p3), .val (.int p4), .val (.int p5), .val (.int p6), .val (.int wa), .val (.int wb), .val (.int la), .unset, .unset, .unset, .unset, .unset] [(.int (-1 : Int32))])) (fun t k => XS.goto Xj41.here hx rfl (pc0 := 47) (pc' := 54) rfl (Jvm.hb hby at_47) (by decide) (by decide) k) ?_
          refine own_go (B := Tj41.setTop (mkF m 56 #[.val (.int p1), .val (.int p2), .val (.int p3), .val (.int p4), .val (.int p5), .val (.int p6), .val (.int wa), .val (.int wb), .val (.int la), .val (.int (-1 : Int32)), .unset, .unset, .unset, .unset] [])) (fun t k => XS.istore Xj41.here hx rfl (Jvm.hb hby at_54) rfl (l' := #[.val (.int p1), .val (.int p2), .val (.int p3), .val (.int p4), .val (.int p5), .val (.int p6), .val (.int wa), .val (.int wb), .val (.int la), .val (.int (-1 : Int32)), .unset, .unset, .unset, .unset]) rfl k) ?_
          exact J56 Tj41 _ Xj41 ej41 Nj41 (-1 : Int32) (Or.inl ⟨hc43_26, rfl⟩)
      refine own_go (B := Tj26.setTop (mkF m 28 #[.val (.int p1), .val (.int p2), .val (.int p3), .val (.int p4), .val (.int p5), .val (.int p6), .val (.int wa), .val (.int wb), .unset, .unset, .unset, .unset, .unset, .unset] [(.int wa)])) (fun t k => XS.iload Xj26.here hx rfl (Jvm.hb hby at_26) rfl k) ?_
      by_cases hc28_27 : wa = (0 : Int32)
      · refine own_go (B := Tj26.setTop (mkF m 35 #[.val (.int p1), .val (.int p2), .val (.int p3), .val (.int p4), .val (.int p5), .val (.int p6), .val (.int wa), .val (.int wb), .unset, .unset, .unset, .unset, .unset, .unset] [])) (fun t k => XS.ifYes Xj26.here hx rfl (pc0 := 28) (pc' := 35) rfl (Jvm.hb hby at_28) rfl ((if0 _ _).trans (teq hc28_27).1) (by decide) (by decide) k) ?_
        refine own_go (B := Tj26.setTop (mkF m 36 #[.val (.int p1), .val (.int p2), .val (.int p3), .val (.int p4), .val (.int p5), .val (.int p6), .val (.int wa), .val (.int wb), .unset, .unset, .unset, .unset, .unset, .unset] [(.int p1)])) (fun t k => XS.iloadN Xj26.here hx rfl (Jvm.hb hby at_35) rfl k) ?_
        refine own_go (B := Tj26.setTop (mkF m 38 #[.val (.int p1), .val (.int p2), .val (.int p3), .val (.int p4), .val (.int p5), .val (.int p6), .val (.int wa), .val (.int wb), .unset, .unset, .unset, .unset, .unset, .unset] [(.int (2147483647 : Int32)), (.int p1)])) (fun t k => Xj26.ldcInt hx hown (mvT hZ (own_w hw 0 rfl)) (g := (mkF m 36 #[.val (.int p1), .val (.int p2), .val (.int p3), .val (.int p4), .val (.int p5), .val (.int p6), .val (.int wa), .val (.int wb), .unset, .unset, .unset, .unset, .unset, .unset] [(.int p1)])) rfl (Jvm.hb hby at_36) _ k) ?_
        refine own_go (B := Tj26.setTop (mkF m 39 #[.val (.int p1), .val (.int p2), .val (.int p3), .val (.int p4), .val (.int p5), .val (.int p6), .val (.int wa), .val (.int wb), .unset, .unset, .unset, .unset, .unset, .unset] [(.int (p1 &&& (2147483647 : Int32)))])) (fun t k => XS.iand Xj26.here hx rfl (Jvm.hb hby at_38) rfl k) ?_
        refine own_go (B := Tj26.setTop (mkF m 41 #[.val (.int p1), .val (.int p2), .val (.int p3), .val (.int p4), .val (.int p5), .val (.int p6), .val (.int wa), .val (.int wb), .val (.int (p1 &&& (2147483647 : Int32))), .unset, .unset, .unset, .unset, .unset] [])) (fun t k => XS.istore Xj26.here hx rfl (Jvm.hb hby at_39) rfl (l' := #[.val (.int p1), .val (.int p2), .val (.int p3), .val (.int p4), .val (.int p5), .val (.int p6), .val (.int wa), .val (.int wb), .val (.int (p1 &&& (2147483647 : Int32))), .unset, .unset, .unset, .unset, .unset]) rfl k) ?_
        exact J41 Tj26 _ Xj26 ej26 Nj26 (p1 &&& (2147483647 : Int32)) (Or.inr ⟨hc28_27, (c_and p1 2147483647 (by decide)).1⟩)
      · refine own_go (B := Tj26.setTop (mkF m 31 #[.val (.int p1), .val (.int p2), .val (.int p3), .val (.int p4), .val (.int p5), .val (.int p6), .val (.int wa), .val (.int wb), .unset, .unset, .unset, .unset, .unset, .unset] [])) (fun t k => XS.ifNo Xj26.here hx rfl (Jvm.hb hby at_28) rfl ((if0 _ _).trans (feq hc28_27).1) k) ?_
        refine own_go (B := Tj26.setTop (mkF m 32 #[.val (.int p1), .val (.int p2), .val (.int p3), .val (.int p4), .val (.int p5), .val (.int p6), .val (.int wa), .val (.int wb), .unset, .unset, .unset, .unset, .unset, .unset] [(.int (-1 : Int32))])) (fun t k => XS.iconst Xj26.here hx rfl (Jvm.hb hby at_31) k) ?_
        refine own_go (B := Tj26.setTop (mkF m 39 #[.val (.int p1), .val (.int p2), .val (.int p3), .val (.int p4), .val (.int p5), .val (.int p6), .val (.int wa), .val (.int wb), .unset, .unset, .unset, .unset, .unset, .unset] [(.int (-1 : Int32))])) (fun t k => XS.goto Xj26.here hx rfl (pc0 := 32) (pc' := 39) rfl (Jvm.hb hby at_32) (by decide) (by decide) k) ?_
        refine own_go (B := Tj26.setTop (mkF m 41 #[.val (.int p1), .val (.int p2), .val (.int p3), .val (.int p4), .val (.int p5), .val (.int p6), .val (.int wa), .val (.int wb), .val (.int (-1 : Int32)), .unset, .unset, .unset, .unset, .unset] [])) (fun t k => XS.istore Xj26.here hx rfl (Jvm.hb hby at_39) rfl (l' := #[.val (.int p1), .val (.int p2), .val (.int p3), .val (.int p4), .val (.int p5), .val (.int p6), .val (.int wa), .val (.int wb), .val (.int (-1 : Int32)), .unset, .unset, .unset, .unset, .unset]) rfl k) ?_
        exact J41 Tj26 _ Xj26 ej26 Nj26 (-1 : Int32) (Or.inl ⟨hc28_27, rfl⟩)
    refine own_go (B := Tj13.setTop (mkF m 14 #[.val (.int p1), .val (.int p2), .val (.int p3), .val (.int p4), .val (.int p5), .val (.int p6), .val (.int wa), .unset, .unset, .unset, .unset, .unset, .unset, .unset] [(.int p3)])) (fun t k => XS.iloadN Xj13.here hx rfl (Jvm.hb hby at_13) rfl k) ?_
    refine own_go (B := Tj13.setTop (mkF m 15 #[.val (.int p1), .val (.int p2), .val (.int p3), .val (.int p4), .val (.int p5), .val (.int p6), .val (.int wa), .unset, .unset, .unset, .unset, .unset, .unset, .unset] [(.int (2 : Int32)), (.int p3)])) (fun t k => XS.iconst Xj13.here hx rfl (Jvm.hb hby at_14) k) ?_
    refine own_go (B := Tj13.setTop (mkF m 16 #[.val (.int p1), .val (.int p2), .val (.int p3), .val (.int p4), .val (.int p5), .val (.int p6), .val (.int wa), .unset, .unset, .unset, .unset, .unset, .unset, .unset] [(.int (p3 &&& (2 : Int32)))])) (fun t k => XS.iand Xj13.here hx rfl (Jvm.hb hby at_15) rfl k) ?_
    by_cases hc16_28 : (p3 &&& (2 : Int32)) = (0 : Int32)
    · refine own_go (B := Tj13.setTop (mkF m 23 #[.val (.int p1), .val (.int p2), .val (.int p3), .val (.int p4), .val (.int p5), .val (.int p6), .val (.int wa), .unset, .unset, .unset, .unset, .unset, .unset, .unset] [])) (fun t k => XS.ifYes Xj13.here hx rfl (pc0 := 16) (pc' := 23) rfl (Jvm.hb hby at_16) rfl ((if0 _ _).trans (teq hc16_28).1) (by decide) (by decide) k) ?_
      refine own_go (B := Tj13.setTop (mkF m 24 #[.val (.int p1), .val (.int p2), .val (.int p3), .val (.int p4), .val (.int p5), .val (.int p6), .val (.int wa), .unset, .unset, .unset, .unset, .unset, .unset, .unset] [(.int (0 : Int32))])) (fun t k => XS.iconst Xj13.here hx rfl (Jvm.hb hby at_23) k) ?_
      refine own_go (B := Tj13.setTop (mkF m 26 #[.val (.int p1), .val (.int p2), .val (.int p3), .val (.int p4), .val (.int p5), .val (.int p6), .val (.int wa), .val (.int (0 : Int32)), .unset, .unset, .unset, .unset, .unset, .unset] [])) (fun t k => XS.istore Xj13.here hx rfl (Jvm.hb hby at_24) rfl (l' := #[.val (.int p1), .val (.int p2), .val (.int p3), .val (.int p4), .val (.int p5), .val (.int p6), .val (.int wa), .val (.int (0 : Int32)), .unset, .unset, .unset, .unset, .unset, .unset]) rfl k) ?_
      exact J26 Tj13 _ Xj13 ej13 Nj13 (0 : Int32)
    · refine own_go (B := Tj13.setTop (mkF m 19 #[.val (.int p1), .val (.int p2), .val (.int p3), .val (.int p4), .val (.int p5), .val (.int p6), .val (.int wa), .unset, .unset, .unset, .unset, .unset, .unset, .unset] [])) (fun t k => XS.ifNo Xj13.here hx rfl (Jvm.hb hby at_16) rfl ((if0 _ _).trans (feq hc16_28).1) k) ?_
      refine own_go (B := Tj13.setTop (mkF m 20 #[.val (.int p1), .val (.int p2), .val (.int p3), .val (.int p4), .val (.int p5), .val (.int p6), .val (.int wa), .unset, .unset, .unset, .unset, .unset, .unset, .unset] [(.int (1 : Int32))])) (fun t k => XS.iconst Xj13.here hx rfl (Jvm.hb hby at_19) k) ?_
      refine own_go (B := Tj13.setTop (mkF m 24 #[.val (.int p1), .val (.int p2), .val (.int p3), .val (.int p4), .val (.int p5), .val (.int p6), .val (.int wa), .unset, .unset, .unset, .unset, .unset, .unset, .unset] [(.int (1 : Int32))])) (fun t k => XS.goto Xj13.here hx rfl (pc0 := 20) (pc' := 24) rfl (Jvm.hb hby at_20) (by decide) (by decide) k) ?_
      refine own_go (B := Tj13.setTop (mkF m 26 #[.val (.int p1), .val (.int p2), .val (.int p3), .val (.int p4), .val (.int p5), .val (.int p6), .val (.int wa), .val (.int (1 : Int32)), .unset, .unset, .unset, .unset, .unset, .unset] [])) (fun t k => XS.istore Xj13.here hx rfl (Jvm.hb hby at_24) rfl (l' := #[.val (.int p1), .val (.int p2), .val (.int p3), .val (.int p4), .val (.int p5), .val (.int p6), .val (.int wa), .val (.int (1 : Int32)), .unset, .unset, .unset, .unset, .unset, .unset]) rfl k) ?_
      exact J26 Tj13 _ Xj13 ej13 Nj13 (1 : Int32)
  refine own_go (B := s₁.setTop (mkF m 1 #[.val (.int p1), .val (.int p2), .val (.int p3), .val (.int p4), .val (.int p5), .val (.int p6), .unset, .unset, .unset, .unset, .unset, .unset, .unset, .unset] [(.int p3)])) (fun t k => XS.iloadN X0.here hx rfl (Jvm.hb hby at_0) rfl k) ?_
  refine own_go (B := s₁.setTop (mkF m 2 #[.val (.int p1), .val (.int p2), .val (.int p3), .val (.int p4), .val (.int p5), .val (.int p6), .unset, .unset, .unset, .unset, .unset, .unset, .unset, .unset] [(.int (1 : Int32)), (.int p3)])) (fun t k => XS.iconst X0.here hx rfl (Jvm.hb hby at_1) k) ?_
  refine own_go (B := s₁.setTop (mkF m 3 #[.val (.int p1), .val (.int p2), .val (.int p3), .val (.int p4), .val (.int p5), .val (.int p6), .unset, .unset, .unset, .unset, .unset, .unset, .unset, .unset] [(.int (p3 &&& (1 : Int32)))])) (fun t k => XS.iand X0.here hx rfl (Jvm.hb hby at_2) rfl k) ?_
  by_cases hc3_29 : (p3 &&& (1 : Int32)) = (0 : Int32)
  · refine own_go (B := s₁.setTop (mkF m 10 #[.val (.int p1), .val (.int p2), .val (.int p3), .val (.int p4), .val (.int p5), .val (.int p6), .unset, .unset, .unset, .unset, .unset, .unset, .unset, .unset] [])) (fun t k => XS.ifYes X0.here hx rfl (pc0 := 3) (pc' := 10) rfl (Jvm.hb hby at_3) rfl ((if0 _ _).trans (teq hc3_29).1) (by decide) (by decide) k) ?_
    refine own_go (B := s₁.setTop (mkF m 11 #[.val (.int p1), .val (.int p2), .val (.int p3), .val (.int p4), .val (.int p5), .val (.int p6), .unset, .unset, .unset, .unset, .unset, .unset, .unset, .unset] [(.int (0 : Int32))])) (fun t k => XS.iconst X0.here hx rfl (Jvm.hb hby at_10) k) ?_
    refine own_go (B := s₁.setTop (mkF m 13 #[.val (.int p1), .val (.int p2), .val (.int p3), .val (.int p4), .val (.int p5), .val (.int p6), .val (.int (0 : Int32)), .unset, .unset, .unset, .unset, .unset, .unset, .unset] [])) (fun t k => XS.istore X0.here hx rfl (Jvm.hb hby at_11) rfl (l' := #[.val (.int p1), .val (.int p2), .val (.int p3), .val (.int p4), .val (.int p5), .val (.int p6), .val (.int (0 : Int32)), .unset, .unset, .unset, .unset, .unset, .unset, .unset]) rfl k) ?_
    exact J13 s₁ _ X0 e0 N0 (0 : Int32)
  · refine own_go (B := s₁.setTop (mkF m 6 #[.val (.int p1), .val (.int p2), .val (.int p3), .val (.int p4), .val (.int p5), .val (.int p6), .unset, .unset, .unset, .unset, .unset, .unset, .unset, .unset] [])) (fun t k => XS.ifNo X0.here hx rfl (Jvm.hb hby at_3) rfl ((if0 _ _).trans (feq hc3_29).1) k) ?_
    refine own_go (B := s₁.setTop (mkF m 7 #[.val (.int p1), .val (.int p2), .val (.int p3), .val (.int p4), .val (.int p5), .val (.int p6), .unset, .unset, .unset, .unset, .unset, .unset, .unset, .unset] [(.int (1 : Int32))])) (fun t k => XS.iconst X0.here hx rfl (Jvm.hb hby at_6) k) ?_
    refine own_go (B := s₁.setTop (mkF m 11 #[.val (.int p1), .val (.int p2), .val (.int p3), .val (.int p4), .val (.int p5), .val (.int p6), .unset, .unset, .unset, .unset, .unset, .unset, .unset, .unset] [(.int (1 : Int32))])) (fun t k => XS.goto X0.here hx rfl (pc0 := 7) (pc' := 11) rfl (Jvm.hb hby at_7) (by decide) (by decide) k) ?_
    refine own_go (B := s₁.setTop (mkF m 13 #[.val (.int p1), .val (.int p2), .val (.int p3), .val (.int p4), .val (.int p5), .val (.int p6), .val (.int (1 : Int32)), .unset, .unset, .unset, .unset, .unset, .unset, .unset] [])) (fun t k => XS.istore X0.here hx rfl (Jvm.hb hby at_11) rfl (l' := #[.val (.int p1), .val (.int p2), .val (.int p3), .val (.int p4), .val (.int p5), .val (.int p6), .val (.int (1 : Int32)), .unset, .unset, .unset, .unset, .unset, .unset, .unset]) rfl k) ?_
    exact J13 s₁ _ X0 e0 N0 (1 : Int32)
set_option maxRecDepth 65536 in
set_option maxHeartbeats 40000000 in
theorem comes_1 {Post : Tables → Env → Array Value → State → Outcome → State → Prop} (hpost : ∀ tb e args s v u, (limb_1_1.after args s (.returned v) u = true ∧ limb_1_2.after args s (.returned v) u = true ∧ True) → FrameEnd s (.returned v) u (Jvm.fieldLocs frame_1_writes args s ++ Jvm.arrayLocs frame_1_arrays args s ++ Jvm.staticLocs frame_1_statics s) 16 128 → Post tb e args s (.returned v) u) :
    ArmFor flags0 classFile x code maxLocals ret World_1 tables_1 room_1 Calls_1 rest_1 Pre_1 Post := by
  intro l hfl _ _ p e ha hc hk s m args below hf hA hF happ hP
  obtain ⟨hcalls, hrest, hpre⟩ := hP
  obtain ⟨-, -, -, hnamed, -, -, -, hat⟩ := (Spec.applies_iff hf).mp happ
  obtain ⟨hg, hn⟩ := and_e (Cond.before_iff.mp (show (Jvm.Cond.and given_1 narrow_1).before args s = true from hpre))
  obtain ⟨g1a, g1b⟩ := and_e hg
  obtain ⟨g2a, g2b⟩ := and_e g1b
  obtain ⟨g3a, g3b⟩ := and_e g2b
  obtain ⟨g4a, g4b⟩ := and_e g3b
  obtain ⟨g5a, g5b⟩ := and_e g4b
  obtain ⟨g6a, g6b⟩ := and_e g5b
  obtain ⟨w0, w1, w2, w3, w4, w5, rfl⟩ : ∃ w0 w1 w2 w3 w4 w5 : Value, args = #[w0, w1, w2, w3, w4, w5] := by
    have hs : args.size = 6 := by simpa [Cond.value, given_1] using g1a
    obtain ⟨L⟩ := args
    match L, hs with
    | [w0, w1, w2, w3, w4, w5], _ => exact ⟨w0, w1, w2, w3, w4, w5, rfl⟩
  have hw := fun d (hd : d ∈ tables_1) => atoms_spec (ws := Jvm.Cond.code x code maxLocals ret :: tables_1) hat d (List.mem_cons_of_mem _ hd)
  obtain ⟨i0, ei0⟩ := is_v g2a
  obtain rfl : w0 = (.int i0) := Option.some.inj ei0
  obtain ⟨i1, ei1⟩ := is_v g3a
  obtain rfl : w1 = (.int i1) := Option.some.inj ei1
  obtain ⟨i2, ei2⟩ := is_v g4a
  obtain rfl : w2 = (.int i2) := Option.some.inj ei2
  obtain ⟨i3, ei3⟩ := is_v g5a
  obtain rfl : w3 = (.int i3) := Option.some.inj ei3
  obtain ⟨i4, ei4⟩ := is_v g6a
  obtain rfl : w4 = (.int i4) := Option.some.inj ei4
  obtain ⟨i5, ei5⟩ := is_v g6b
  obtain rfl : w5 = (.int i5) := Option.some.inj ei5
  obtain ⟨n, o, h1, h2, h3, _, L, rfl, ⟨rfl, N⟩, hq⟩ := rm0 l s _ hw tables_1 i0 i1 i2 i3 i4 i5 s.heap s.heap.size (Nat.le_refl _) p e ha hc hk s m _ below hf ((Spec.applies_iff_loose hf).mp happ).1 ⟨rfl, State.Warmed39.refl s, rfl⟩ trivial
  refine ⟨n, _, h1, h2, h3, hpost _ _ _ _ _ _ ⟨Cond.after_iff.mpr rfl, Cond.after_iff.mpr (eq_i res_at (Term.int_eval (1)) rfl), trivial⟩ ⟨hq.1, hq.2.1, (hq.2.2.sift fun y hy => Or.inr (N y hy)).mono (by decide) (by decide)⟩⟩
theorem main_1_1 : Claimed_1_1 := comes_1 fun _ _ _ _ _ _ h hF => ⟨h.1, hF⟩
theorem main_1_2 : Claimed_1_2 := comes_1 fun _ _ _ _ _ _ h hF => ⟨h.2.1, hF⟩
end Jvm.Pilot.@@N@@
namespace Jvm.Pilot.@@N@@
open Jvm Jvm.ClassFile Sem Op Lib Jvm.Free Jvm.Stand Jvm.Pilot.@@N@@.Jvm.D
/-! MADE BY PROGRAM (witnessworld.py) out of the Statement's table words and the real class files: 9 classes; the members and pool entries that the words name. The judged class is class 1, her method 1. -/
namespace start1
open Jvm.ClassFile
def u (s : String) : CpInfo := .utf8 (stringToUtf16 s)
/-- a pool by its gaps: so many unusable entries, then the entry; so many at the end -/
def gap : Nat → List CpInfo → List CpInfo
  | 0, r => r
  | n + 1, r => .unusable :: gap n r
def poolList (es : List (Nat × CpInfo)) (last : Nat) : List CpInfo := es.foldr (fun e r => gap e.1 (e.2 :: r)) (gap last [])
def pool (es : List (Nat × CpInfo)) (last : Nat) : Array CpInfo := ⟨poolList es last⟩
def fileOf (pool : Array CpInfo) (this : Nat) (attrs : Array Attribute := #[]) (ms : Array MethodInfo := #[]) (fl : Nat := 33) (sup : Nat := 0) (ifs : Array Nat := #[]) (fds : Array FieldInfo := #[]) : ClassFile where
  minorVersion := 0
  majorVersion := 65
  constantPool := pool
  accessFlags := fl
  thisClass := this
  superClass := sup
  interfaces := ifs
  fields := fds
  methods := ms
  attributes := attrs
def plain (name : String) (sup : Option ClassId) : Class where
  name := name
  kind := .ordinary
  loader := none
  accessFlags := 33
  super := sup
  interfaces := #[]
  cf := none
  fields := #[]
  methods := #[]
  instanceTypes := #[]
  staticTypes := #[]
  resolved := #[]
  callSites := []
  init := .initialized
  statics := none
  mirror := none

def pool0 : Array CpInfo := pool [(5, u "<init>"), (0, u "()V"), (1, .class_ 10), (1, u "java/lang/Object"), (85, u "clone"), (0, u "()Ljava/lang/Object;")] 26

def k0c0 : Code := { maxStack := 0, maxLocals := 1, code := object_method_1_code, exceptionTable := #[], attributes := #[] }
def k0m0 : Method := { name := "<init>", desc := "()V", sig := { parameters := [], returnType := none }, accessFlags := 1, code := some k0c0 }
def k0m1 : Method := { name := "clone", desc := "()Ljava/lang/Object;", sig := { parameters := [], returnType := some (.object "java/lang/Object") }, accessFlags := 260, code := none }
/-- java/lang/Object -/
def k0 : Class := { plain "java/lang/Object" none with
  accessFlags := 33
  interfaces := #[]
  cf := some (fileOf pool0 8 #[] #[{ accessFlags := 1, nameIndex := 5, descriptorIndex := 6, attributes := #[] }, { accessFlags := 260, nameIndex := 96, descriptorIndex := 97, attributes := #[] }] 33 0 #[] #[])
  fields := #[]
  methods := #[k0m0, k0m1]
  instanceTypes := #[]
  staticTypes := #[]
  resolved := Array.replicate 124 none
  statics := none }

def pool1 : Array CpInfo := pool [(2, .class_ 4), (1, u "java/lang/Object"), (0, u "<init>"), (0, u "()V"), (0, .class_ 8), (0, u "tessera/SynchronousNetwork$Format"), (0, .integer 2147483647), (0, .methodref 7 11), (0, .nameAndType 5 12), (0, u "([I)V"), (0, .methodref 7 14), (0, .nameAndType 15 16), (0, u "fits"), (0, u "(III)Z"), (0, .methodref 18 19), (0, .class_ 20), (0, .nameAndType 21 22), (0, u "tessera/FormatFitsPinLaw"), (0, u "expected"), (0, u "(ZIII)Z"), (2, u "law"), (0, u "(IIIIII)Z")] 7

def k1m0 : Method := { name := "<init>", desc := "()V", sig := { parameters := [], returnType := none }, accessFlags := 1, code := none }
def k1c1 : Code := { maxStack := 6, maxLocals := 14, code := code, exceptionTable := #[], attributes := #[] }
def k1m1 : Method := { name := "law", desc := "(IIIIII)Z", sig := { parameters := [.int, .int, .int, .int, .int, .int], returnType := some .boolean }, accessFlags := 9, code := some k1c1 }
def k1c2 : Code := { maxStack := 4, maxLocals := 6, code := method_3_code, exceptionTable := #[], attributes := #[] }
def k1m2 : Method := { name := "expected", desc := "(ZIII)Z", sig := { parameters := [.boolean, .int, .int, .int], returnType := some .boolean }, accessFlags := 10, code := some k1c2 }
/-- tessera/FormatFitsPinLaw -/
def k1 : Class := { plain "tessera/FormatFitsPinLaw" (some 0) with
  accessFlags := 49
  interfaces := #[]
  cf := some (fileOf pool1 18 #[] #[{ accessFlags := 1, nameIndex := 5, descriptorIndex := 6, attributes := #[] }, { accessFlags := 9, nameIndex := 25, descriptorIndex := 26, attributes := #[] }, { accessFlags := 10, nameIndex := 21, descriptorIndex := 22, attributes := #[] }] 49 2 #[] #[])
  fields := #[]
  methods := #[k1m0, k1m1, k1m2]
  instanceTypes := #[]
  staticTypes := #[]
  resolved := Array.replicate 34 none
  statics := none }

def pool2 : Array CpInfo := pool [(1, .methodref 2 3), (0, .class_ 4), (0, .nameAndType 5 6), (0, u "java/lang/Object"), (0, u "<init>"), (0, u "()V"), (0, .methodref 8 9), (0, .class_ 10), (0, .nameAndType 11 12), (0, u "[I"), (0, u "clone"), (0, u "()Ljava/lang/Object;"), (0, .fieldref 14 15), (0, .class_ 16), (0, .nameAndType 17 10), (0, u "tessera/SynchronousNetwork$Format"), (0, u "largest"), (12, u "VERTEX"), (0, u "I"), (2, u "([I)V"), (6, u "fits"), (0, u "(III)Z"), (3, .class_ 47), (0, u "tessera/SynchronousNetwork")] 2

def k2c0 : Code := { maxStack := 2, maxLocals := 2, code := prog_65_method_1_code, exceptionTable := #[], attributes := #[] }
def k2m0 : Method := { name := "<init>", desc := "([I)V", sig := { parameters := [(.array .int)], returnType := none }, accessFlags := 128, code := some k2c0 }
def k2c1 : Code := { maxStack := 3, maxLocals := 4, code := prog_65_method_4_code, exceptionTable := #[], attributes := #[] }
def k2m1 : Method := { name := "fits", desc := "(III)Z", sig := { parameters := [.int, .int, .int], returnType := some .boolean }, accessFlags := 0, code := some k2c1 }
/-- tessera/SynchronousNetwork$Format -/
def k2 : Class := { plain "tessera/SynchronousNetwork$Format" (some 0) with
  accessFlags := 48
  interfaces := #[]
  cf := some (fileOf pool2 14 #[.nestHost 46] #[{ accessFlags := 128, nameIndex := 5, descriptorIndex := 34, attributes := #[] }, { accessFlags := 0, nameIndex := 41, descriptorIndex := 42, attributes := #[] }] 48 2 #[] #[{ accessFlags := 24, nameIndex := 30, descriptorIndex := 31, attributes := #[] }, { accessFlags := 18, nameIndex := 17, descriptorIndex := 10, attributes := #[] }])
  fields := #[{ name := "VERTEX", type := .int, accessFlags := 24, slot := 0, constantValue := 0 }, { name := "largest", type := (.array .int), accessFlags := 18, slot := 0, constantValue := 0 }]
  methods := #[k2m0, k2m1]
  instanceTypes := #[(.array .int)]
  staticTypes := #[.int]
  resolved := Array.replicate 50 none
  statics := none }

def pool3 : Array CpInfo := pool [(1, .class_ 2), (0, u "java/lang/Cloneable"), (0, .class_ 4), (0, u "java/lang/Object")] 2

/-- java/lang/Cloneable -/
def k3 : Class := { plain "java/lang/Cloneable" (some 0) with
  accessFlags := 1537
  interfaces := #[]
  cf := some (fileOf pool3 1 #[] #[] 1537 3 #[] #[])
  fields := #[]
  methods := #[]
  instanceTypes := #[]
  staticTypes := #[]
  resolved := Array.replicate 7 none
  statics := none }

def pool4 : Array CpInfo := pool [(1, u "java/io/Serializable"), (0, .class_ 1), (0, u "java/lang/Object"), (0, .class_ 3)] 3

/-- java/io/Serializable -/
def k4 : Class := { plain "java/io/Serializable" (some 0) with
  accessFlags := 1537
  interfaces := #[]
  cf := some (fileOf pool4 2 #[] #[] 1537 4 #[] #[])
  fields := #[]
  methods := #[]
  instanceTypes := #[]
  staticTypes := #[]
  resolved := Array.replicate 8 none
  statics := none }

/-- the primitive byte -/
def k5 : Class := { plain "byte" none with kind := .primitive 'B', accessFlags := 0x411 }
/-- [B -/
def k6 : Class := { plain "[B" (some 0) with kind := .array 5 .byte, interfaces := #[3, 4], accessFlags := 1041 }

/-- the primitive int -/
def k7 : Class := { plain "int" none with kind := .primitive 'I', accessFlags := 0x411 }
/-- [I -/
def k8 : Class := { plain "[I" (some 0) with kind := .array 7 .int, interfaces := #[3, 4], accessFlags := 1041 }

def heap : Heap := #[]
def classes : Array Class := #[k0, k1, k2, k3, k4, k5, k6, k7, k8]
def interned : List (Array UInt16 × Addr) := []
def slotsUsed : Nat := 0
def theMethod : MethodId := ⟨1, 1⟩
def args0 : Array Value := #[.int 5, .int 5, .int 5, .int 5, .int 5, .int 5]
def aboutOver (below : List Frame) : State where
  vm := { classes := classes, interned := interned.toArray }
  heap := heap
  slotsUsed := slotsUsed
  threads := #[{ frames := .invoking theMethod args0 :: below }]
def below0 : List Frame := [.native { method := ⟨0, 0⟩, args := #[] }]
def about1 : State := aboutOver below0
def p0 : Program := .bare "" "" ""
def e0 : Env := launch0.env 0 0 0
theorem w_frames : about1.frames = Frame.invoking theMethod args0 :: below0 := rfl
set_option maxRecDepth 65536 in
theorem w_args : argsFit about1.vm theMethod args0 = true := by decide +kernel
set_option maxRecDepth 65536 in
theorem w_heap : heapFits about1 = true := by decide +kernel
set_option maxRecDepth 65536 in
theorem w_runnable : about1.curStatus? = some .runnable := by decide +kernel
set_option maxRecDepth 65536 in
theorem w_alone : about1.alone = true := by decide +kernel
set_option maxRecDepth 65536 in
theorem w_named : about1.methodNamed? x = some theMethod := by decide +kernel
set_option maxRecDepth 65536 in
theorem w_hears : about1.hears theMethod below0 = true := by decide +kernel
set_option maxRecDepth 65536 in
theorem w_ripe : about1.ripe theMethod args0 below0 = true := by decide +kernel
theorem w_running : about1.status = .running := rfl
set_option maxRecDepth 65536 in
theorem w_room : about1.hasRoom e0.platform room_1 = true :=
  launch0.hasRoom_least _ room_1 (by decide +kernel) (by decide +kernel) (by decide +kernel) (by decide +kernel) (by decide +kernel) (by decide +kernel)
theorem allAtoms_all (ts : List Jvm.Cond) (a : Array Jvm.Value) (st : Jvm.State) : (allAtoms ts).before a st = ts.all (fun c => c.before a st) := by
  induction ts with
  | nil => rfl
  | cons c t ih =>
    show (Jvm.Cond.and c (allAtoms t)).before a st = _
    rw [Jvm.Cond.before_and, ih, List.all_cons]
def words1 : List Jvm.Cond := Jvm.Cond.code x code maxLocals ret :: tables_1
/-- a 'code' word, met by the world's own term for the bytes: nothing is compared byte by byte -/
theorem code_word {y : MethodName} {bytes : ByteArray} {mx : Nat} {rt : Option FieldType} {a : Array Value} {s : State} {m : MethodId} {meth : Method} {c : Code} (h1 : s.methodNamed? y = some m) (h2 : s.vm.method? m = some meth) (h3 : meth.code = some c) (h4 : c.code = bytes)
    (h5 : (c.maxLocals == mx && c.exceptionTable.isEmpty && decide (c.maxStack ≤ mostOperands) && decide (meth.sig.returnType = rt) && !meth.locks && decide (parseMethodDescriptor y.desc = some meth.sig)) = true) : (Jvm.Cond.code y bytes mx rt).before a s = true := by
  simp only [Bool.and_eq_true, beq_iff_eq, Bool.not_eq_true', decide_eq_true_eq] at h5
  obtain ⟨⟨⟨⟨⟨g1, g2⟩, g3⟩, g4⟩, g5⟩, g6⟩ := h5
  simp [Cond.before, Cond.holds, Cond.value, h1, h2, h3, h4, g1, g2, g3, g4, g5, g6]
def isCode : Jvm.Cond → Bool
  | .code _ _ _ _ => true
  | _ => false
theorem all_split {L : List Jvm.Cond} {P : Jvm.Cond → Bool} (h1 : L.all (fun c => isCode c || P c) = true) (h2 : ∀ c ∈ L.filter isCode, P c = true) : L.all P = true := by
  refine List.all_eq_true.mpr fun c hc => ?_
  have h := List.all_eq_true.mp h1 c hc
  rcases Bool.eq_false_or_eq_true (isCode c) with hi | hi
  · exact h2 c (List.mem_filter.mpr ⟨hc, hi⟩)
  · simpa [hi] using h
set_option maxRecDepth 65536 in
theorem w_c0 : (Jvm.Cond.code x code maxLocals ret).before args0 about1 = true := code_word (m := ⟨1, 1⟩) (meth := k1m1) (c := k1c1) (by decide +kernel) rfl rfl rfl (by decide +kernel)
set_option maxRecDepth 65536 in
theorem w_c1 : (Jvm.Cond.code ({ cls := "tessera/SynchronousNetwork$Format", name := "<init>", desc := "([I)V" } : Jvm.MethodName) prog_65_method_1_code (2 : Nat) (Option.none : Option Jvm.ClassFile.FieldType)).before args0 about1 = true := code_word (m := ⟨2, 0⟩) (meth := k2m0) (c := k2c0) (by decide +kernel) rfl rfl rfl (by decide +kernel)
set_option maxRecDepth 65536 in
theorem w_c2 : (Jvm.Cond.code ({ cls := "java/lang/Object", name := "<init>", desc := "()V" } : Jvm.MethodName) object_method_1_code (1 : Nat) (Option.none : Option Jvm.ClassFile.FieldType)).before args0 about1 = true := code_word (m := ⟨0, 0⟩) (meth := k0m0) (c := k0c0) (by decide +kernel) rfl rfl rfl (by decide +kernel)
set_option maxRecDepth 65536 in
theorem w_c3 : (Jvm.Cond.code ({ cls := "tessera/SynchronousNetwork$Format", name := "fits", desc := "(III)Z" } : Jvm.MethodName) prog_65_method_4_code (4 : Nat) (Option.some Jvm.ClassFile.FieldType.boolean)).before args0 about1 = true := code_word (m := ⟨2, 1⟩) (meth := k2m1) (c := k2c1) (by decide +kernel) rfl rfl rfl (by decide +kernel)
set_option maxRecDepth 65536 in
theorem w_c4 : (Jvm.Cond.code ({ cls := "tessera/FormatFitsPinLaw", name := "expected", desc := "(ZIII)Z" } : Jvm.MethodName) method_3_code (6 : Nat) (Option.some Jvm.ClassFile.FieldType.boolean)).before args0 about1 = true := code_word (m := ⟨1, 2⟩) (meth := k1m2) (c := k1c2) (by decide +kernel) rfl rfl rfl (by decide +kernel)
def codes1 : List Jvm.Cond := [Jvm.Cond.code x code maxLocals ret, Jvm.Cond.code ({ cls := "tessera/SynchronousNetwork$Format", name := "<init>", desc := "([I)V" } : Jvm.MethodName) prog_65_method_1_code (2 : Nat) (Option.none : Option Jvm.ClassFile.FieldType), Jvm.Cond.code ({ cls := "java/lang/Object", name := "<init>", desc := "()V" } : Jvm.MethodName) object_method_1_code (1 : Nat) (Option.none : Option Jvm.ClassFile.FieldType), Jvm.Cond.code ({ cls := "tessera/SynchronousNetwork$Format", name := "fits", desc := "(III)Z" } : Jvm.MethodName) prog_65_method_4_code (4 : Nat) (Option.some Jvm.ClassFile.FieldType.boolean), Jvm.Cond.code ({ cls := "tessera/FormatFitsPinLaw", name := "expected", desc := "(ZIII)Z" } : Jvm.MethodName) method_3_code (6 : Nat) (Option.some Jvm.ClassFile.FieldType.boolean)]
set_option maxRecDepth 65536 in
theorem codes_eq : words1.filter isCode = codes1 := rfl
theorem w_codes : ∀ c ∈ words1.filter isCode, c.before args0 about1 = true := by
  rw [codes_eq]
  intro c hc
  simp only [codes1, List.mem_cons, List.not_mem_nil, or_false] at hc
  rcases hc with rfl | rfl | rfl | rfl | rfl
  · exact w_c0
  · exact w_c1
  · exact w_c2
  · exact w_c3
  · exact w_c4
set_option maxRecDepth 65536 in
theorem w_t1 : (words1.take 24).all (fun c => isCode c || c.before args0 about1) = true := by decide +kernel
set_option maxRecDepth 65536 in
theorem w_t2 : (words1.drop 24).all (fun c => isCode c || c.before args0 about1) = true := by decide +kernel
theorem w_tables : (allAtoms (Jvm.Cond.code x code maxLocals ret :: tables_1)).before args0 about1 = true := by
  rw [allAtoms_all]
  show words1.all (fun c => c.before args0 about1) = true
  refine all_split ?_ w_codes
  rw [← List.take_append_drop 24 words1, List.all_append, w_t1, w_t2]
  rfl
set_option maxRecDepth 65536 in
theorem w_case : (Jvm.Cond.and given_1 narrow_1).before args0 about1 = true := by decide +kernel
theorem w_applies : (headSpec (Jvm.Cond.code x code maxLocals ret :: tables_1) room_1).applies x e0.platform about1 = true :=
  (Spec.applies_iff w_frames).mpr ⟨w_running, w_runnable, w_alone, w_named, w_hears, w_ripe, w_room, w_tables⟩
theorem atStart : AtStart classFile x code maxLocals ret World_1 tables_1 room_1 Calls_1 rest_1 Pre_1 launch0 p0 e0 about1 theMethod args0 below0 :=
  ⟨lists_1, trivial, launch0.admits_env _ _ _, launch0.least_env, fairChoices_fair.cas, fairChoices_fair.clock, w_frames, w_args, w_heap, w_applies, trivial, trivial, w_case⟩
end start1
theorem witness_1 : WitnessClaimed_1 := ⟨start1.p0, start1.e0, start1.about1, start1.theMethod, start1.args0, start1.below0, start1.atStart⟩
end Jvm.Pilot.@@N@@
