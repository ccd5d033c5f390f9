import JvmDerived
import JvmDerived.Pilot.@@N@@Statement
import JvmDerived.Pilot.@@N@@Code
set_option linter.unusedVariables false
set_option linter.unusedSimpArgs false
namespace Jvm.Pilot.@@N@@
open Jvm Jvm.ClassFile Sem Op Lib Jvm.Free Jvm.Stand Jvm.LawKit Jvm.RoadKit Bundle Jvm.Pilot.@@N@@.Jvm.D
section Own
variable {p : Program} {l : Launch} {e : Env} {R : Room} {s : State} {m : MethodId} {args : Array Value} {below : List Frame} {meth : Method} {c : Code} {T : State} {locs : List Loc} {cells slots : Nat} {Z : State} {h h' : Heap} {a b : Addr}
/-- from A the run comes to its return, and Q holds there -/
def own_Goes (p : Program) (e : Env) (below : List Frame) (s : State) (Q : Option Value → Heap → List Loc → Prop) (kc ks : Nat) (A : State) : Prop :=
  ∃ s₂ o, Steps p.tables e below A s₂ ∧ s₂.status = .running ∧ Ended s₂ below o ∧ ∃ v L, o = .returned v ∧ Q v s₂.heap L ∧ FrameEnd s o s₂ L kc ks
theorem own_go {Q : Option Value → Heap → List Loc → Prop} {kc ks : Nat} {A B : State} (st : ∀ t, Steps p.tables e below B t → Steps p.tables e below A t) (k : own_Goes p e below s Q kc ks B) : own_Goes p e below s Q kc ks A := by
  obtain ⟨s2, o, h1, h2⟩ := k
  exact ⟨s2, o, st _ h1, h2⟩
theorem own_w {a0 : Array Value} {Z : State} (hw : ∀ d ∈ tables_1, d.before a0 Z = true) (i : Nat) {d : Jvm.Cond} (h : tables_1[i]? = some d) : d.before a0 Z = true := hw d (List.mem_of_getElem? h)
theorem own_selP {y y' : MethodName} (hs : (Cond.selects y'.cls y' y').before args s = true) (he : y.cls = y'.cls) (hpriv : s.PrivateAt y) (hinst : (Cond.instanceMethod y).before args s = true) (hy : y.cls ≠ "java/lang/invoke/MethodHandle" ∧ y.cls ≠ "java/lang/invoke/VarHandle") : (Cond.selects y.cls y y).before args s = true := by
  obtain ⟨c2, r2, m2, q1, q2, q3, q4, kP, hkP, hkPi⟩ := Cond.selects_spec hs
  exact selects_self_of_private (by rw [he]; exact findClass_of_methodNamed q3) hkP hkPi hpriv hinst hy
theorem own_st {tb : Tables} {A B t : State} (h1 : Steps tb e below A B) (k : Steps tb e below B t) : Steps tb e below A t := h1.trans k
theorem own_out {Q : Option Value → Heap → List Loc → Prop} {kc ks : Nat} {A : State} (X : Stand p l e R s m args below meth c T locs cells slots) {v : Option Value} (hv : meth.sig.returnType = none → v = none) (hlk : meth.locks = false)
    (st : ∀ fs, (∀ (f : JFrame) (acts : List Action), f.method = m → f.locked = none → f.entered = [] → (doReturn e (T.setTop f) acts v).1 = T.setFrames fs) → Steps p.tables e below A (T.setFrames fs))
    (hq : Q v T.heap locs) (hc : cells ≤ kc) (hs : slots ≤ ks) : own_Goes p e below s Q kc ks A := by
  obtain ⟨fs, hr, hrun, hended, hW, hsame⟩ := X.leave hv hlk
  exact ⟨_, _, st fs hr, hrun, hended, _, _, rfl, hq, ⟨_, rfl⟩, hW, hsame.mono hc hs⟩
theorem own_irem {tb : Tables} [Ours tb] {T target : State} {g : JFrame} (h : At T m c below) (hx : tb.exec = Jvm.exec) (hg : g.method = m) {x y : Int32} {rest : List Value} (hd : decode c.code g.pc = .ok (.irem, 1)) (hs : g.stack = .int y :: .int x :: rest) (hy : y ≠ 0)
    (hr : Steps tb e below (T.setTop { g with pc := g.pc + 1, stack := .int (x % y) :: rest }) target) : Steps tb e below (T.setTop g) target := XS.irem h hx hg hd hs hy (by rw [irem_eq_mod]; exact hr)
theorem own_lrem {tb : Tables} [Ours tb] {T target : State} {g : JFrame} (h : At T m c below) (hx : tb.exec = Jvm.exec) (hg : g.method = m) {x y : Int64} {rest : List Value} (hd : decode c.code g.pc = .ok (.lrem, 1)) (hs : g.stack = .long y :: .long x :: rest) (hy : y ≠ 0)
    (hr : Steps tb e below (T.setTop { g with pc := g.pc + 1, stack := .long (x % y) :: rest }) target) : Steps tb e below (T.setTop g) target := XS.lrem h hx hg hd hs hy (by rw [lrem_mod]; exact hr)
/-- an array of ints (bytes, booleans): its length, and what each place holds -/
def own_IA (Z : State) (h : Heap) (a : Addr) (ty : FieldType) (n : Nat) (f : Nat → Int32) : Prop := ∃ c : Cell, Arr Z h a c ty ∧ c.slots.size = n ∧ ∀ i, i < n → c.slots[i]? = some (.int (f i))
/-- an array of longs -/
def own_LA (Z : State) (h : Heap) (a : Addr) (n : Nat) (f : Nat → Int64) : Prop := ∃ c : Cell, Arr Z h a c .long ∧ c.slots.size = n ∧ ∀ i, i < n → c.slots[i]? = some (.long (f i))
def own_upd {α : Type} (f : Nat → α) (j : Nat) (x : α) (i : Nat) : α := if i = j then x else f i
theorem own_upd_hit {α : Type} (f : Nat → α) (j : Nat) (x : α) : own_upd f j x j = x := if_pos rfl
theorem own_upd_miss {α : Type} (f : Nat → α) {i j : Nat} (x : α) (q : i ≠ j) : own_upd f j x i = f i := if_neg q
section Arrays
variable {ty : FieldType} {n : Nat} {f : Nat → Int32} {fl : Nat → Int64} {sl : Nat} {v : Value} {ws : List Addr}
theorem own_IA.lt (F : own_IA Z h a ty n f) : a < h.size := by obtain ⟨c, A, -⟩ := F; exact A.lt
theorem own_LA.lt (F : own_LA Z h a n fl) : a < h.size := by obtain ⟨c, A, -⟩ := F; exact A.lt
theorem own_IA.ext (F : own_IA Z h a ty n f) (E : Ext h h') : own_IA Z h' a ty n f := by obtain ⟨c, A, r⟩ := F; exact ⟨c, A.ext E, r⟩
theorem own_LA.ext (F : own_LA Z h a n fl) (E : Ext h h') : own_LA Z h' a n fl := by obtain ⟨c, A, r⟩ := F; exact ⟨c, A.ext E, r⟩
theorem own_IA.other (F : own_IA Z h b ty n f) (W : Wr h h' a sl v) (q : b ≠ a) : own_IA Z h' b ty n f := by obtain ⟨c, A, r⟩ := F; exact ⟨c, A.other W q, r⟩
theorem own_LA.other (F : own_LA Z h b n fl) (W : Wr h h' a sl v) (q : b ≠ a) : own_LA Z h' b n fl := by obtain ⟨c, A, r⟩ := F; exact ⟨c, A.other W q, r⟩
theorem own_IA.keep (F : own_IA Z h a ty n f) (K : Keep h h' ws) (q : a ∉ ws) : own_IA Z h' a ty n f := by obtain ⟨c, A, r⟩ := F; exact ⟨c, ⟨K.2.1 a c A.1 q, A.2⟩, r⟩
theorem own_LA.keep (F : own_LA Z h a n fl) (K : Keep h h' ws) (q : a ∉ ws) : own_LA Z h' a n fl := by obtain ⟨c, A, r⟩ := F; exact ⟨c, ⟨K.2.1 a c A.1 q, A.2⟩, r⟩
theorem own_IA.cong {g : Nat → Int32} (F : own_IA Z h a ty n f) (q : ∀ i, i < n → f i = g i) : own_IA Z h a ty n g := by obtain ⟨c, A, r, u⟩ := F; exact ⟨c, A, r, fun i hi => by rw [u i hi, q i hi]⟩
theorem own_LA.cong {g : Nat → Int64} (F : own_LA Z h a n fl) (q : ∀ i, i < n → fl i = g i) : own_LA Z h a n g := by obtain ⟨c, A, r, u⟩ := F; exact ⟨c, A, r, fun i hi => by rw [u i hi, q i hi]⟩
theorem own_in {cl : Cell} {j : Int32} {k : Nat} (S : cl.slots.size = n) (h1 : ¬ j < 0) (hk : j.toNatClampNeg = k) (h2 : k < n) : ¬ (j < 0 ∨ cl.slots.size ≤ j.toNatClampNeg) := by
  rintro (q | q)
  · exact h1 q
  · rw [S, hk] at q; exact absurd h2 (Nat.not_lt.mpr q)
theorem own_set {cl : Cell} {k : Nat} (S : cl.slots.size = n) (h2 : k < n) (v : Value) (i : Nat) : (cl.setSlot k v).slots[i]? = if i = k then some v else cl.slots[i]? := by
  by_cases q : i = k
  · subst q; rw [if_pos rfl]; exact Array.getElem?_setIfInBounds_self_of_lt (by rw [S]; exact h2)
  · rw [if_neg q]; exact Array.getElem?_setIfInBounds_ne (fun z => q z.symm)
theorem own_Inew {k : ClassId} {z : Int32} (A : Arr Z h a (newA k ty z) ty) (hz : z.toNatClampNeg = n) (hd : defaultValue ty = .int 0) : own_IA Z h a ty n (fun _ => 0) := by
  refine ⟨_, A, by rw [sz_new, hz], fun i hi => ?_⟩
  show (Array.replicate z.toNatClampNeg (defaultValue ty))[i]? = _
  rw [hz, hd, Array.getElem?_replicate, if_pos hi]
theorem own_Lnew {k : ClassId} {z : Int32} (A : Arr Z h a (newA k .long z) .long) (hz : z.toNatClampNeg = n) : own_LA Z h a n (fun _ => 0) := by
  refine ⟨_, A, by rw [sz_new, hz], fun i hi => ?_⟩
  show (Array.replicate z.toNatClampNeg (defaultValue .long))[i]? = _
  rw [hz, Array.getElem?_replicate, if_pos hi]; rfl
theorem own_iaload (X : Stand p l e R s m args below meth c T locs cells slots) (hx : p.tables.exec = Jvm.exec) (hZ : Z.Warmed39 s.vm) (eT : T.heap = h) (V : own_IA Z h a .int n f) {j : Int32} {k : Nat} (h1 : ¬ j < 0) (hk : j.toNatClampNeg = k) (h2 : k < n) {pc : Nat} {Ls : Array Slot} {rest : List Value} (hd : decode c.code pc = .ok (.iaload, 1)) (t : State)
    (kk : Steps p.tables e below (T.setTop (mkF m (pc + 1) Ls (.int (f k) :: rest))) t) : Steps p.tables e below (T.setTop (mkF m pc Ls (.int j :: .ref a :: rest))) t := by
  obtain ⟨cl, A, S, H⟩ := V
  exact X.iaload hx (j := j) (v := .int (f k)) (by rw [eT]; exact A.1) (State.isArrayOf_alike hZ.alike A.2.1) A.2.2 (own_in S h1 hk h2) (by rw [hk]; exact H _ h2) (g := mkF m pc Ls (.int j :: .ref a :: rest)) rfl rfl hd t kk
theorem own_baload (X : Stand p l e R s m args below meth c T locs cells slots) (hx : p.tables.exec = Jvm.exec) (hZ : Z.Warmed39 s.vm) (eT : T.heap = h) (V : own_IA Z h a .byte n f) {j : Int32} {k : Nat} (h1 : ¬ j < 0) (hk : j.toNatClampNeg = k) (h2 : k < n) {pc : Nat} {Ls : Array Slot} {rest : List Value} (hd : decode c.code pc = .ok (.baload, 1)) (t : State)
    (kk : Steps p.tables e below (T.setTop (mkF m (pc + 1) Ls (.int (f k) :: rest))) t) : Steps p.tables e below (T.setTop (mkF m pc Ls (.int j :: .ref a :: rest))) t := by
  obtain ⟨cl, A, S, H⟩ := V
  exact X.baloadBytes hx (j := j) (v := .int (f k)) (by rw [eT]; exact A.1) (State.isArrayOf_alike hZ.alike A.2.1) A.2.2 (own_in S h1 hk h2) (by rw [hk]; exact H _ h2) (g := mkF m pc Ls (.int j :: .ref a :: rest)) rfl rfl hd t kk
theorem own_laload (X : Stand p l e R s m args below meth c T locs cells slots) (hx : p.tables.exec = Jvm.exec) (hZ : Z.Warmed39 s.vm) (eT : T.heap = h) (V : own_LA Z h a n fl) {j : Int32} {k : Nat} (h1 : ¬ j < 0) (hk : j.toNatClampNeg = k) (h2 : k < n) {pc : Nat} {Ls : Array Slot} {rest : List Value} (hd : decode c.code pc = .ok (.laload, 1)) (t : State)
    (kk : Steps p.tables e below (T.setTop (mkF m (pc + 1) Ls (.long (fl k) :: rest))) t) : Steps p.tables e below (T.setTop (mkF m pc Ls (.int j :: .ref a :: rest))) t := by
  obtain ⟨cl, A, S, H⟩ := V
  exact X.laload hx (j := j) (v := .long (fl k)) (by rw [eT]; exact A.1) (State.isArrayOf_alike hZ.alike A.2.1) A.2.2 (own_in S h1 hk h2) (by rw [hk]; exact H _ h2) (g := mkF m pc Ls (.int j :: .ref a :: rest)) rfl rfl hd t kk
theorem own_alen (X : Stand p l e R s m args below meth c T locs cells slots) (hx : p.tables.exec = Jvm.exec) (hZ : Z.Warmed39 s.vm) (eT : T.heap = h) (V : own_IA Z h a ty n f) {z : Int32} (hl : n.toInt32 = z) {pc : Nat} {Ls : Array Slot} {rest : List Value} (hd : decode c.code pc = .ok (.arraylength, 1)) (t : State)
    (kk : Steps p.tables e below (T.setTop (mkF m (pc + 1) Ls (.int z :: rest))) t) : Steps p.tables e below (T.setTop (mkF m pc Ls (.ref a :: rest))) t := by
  obtain ⟨cl, A, S, H⟩ := V
  exact X.arraylength hx (by rw [eT]; exact A.1) (State.isArrayOf_alike hZ.alike A.2.1) (g := mkF m pc Ls (.ref a :: rest)) rfl rfl hd t (by rw [S, hl]; exact kk)
theorem own_alenL (X : Stand p l e R s m args below meth c T locs cells slots) (hx : p.tables.exec = Jvm.exec) (hZ : Z.Warmed39 s.vm) (eT : T.heap = h) (V : own_LA Z h a n fl) {z : Int32} (hl : n.toInt32 = z) {pc : Nat} {Ls : Array Slot} {rest : List Value} (hd : decode c.code pc = .ok (.arraylength, 1)) (t : State)
    (kk : Steps p.tables e below (T.setTop (mkF m (pc + 1) Ls (.int z :: rest))) t) : Steps p.tables e below (T.setTop (mkF m pc Ls (.ref a :: rest))) t := by
  obtain ⟨cl, A, S, H⟩ := V
  exact X.arraylength hx (by rw [eT]; exact A.1) (State.isArrayOf_alike hZ.alike A.2.1) (g := mkF m pc Ls (.ref a :: rest)) rfl rfl hd t (by rw [S, hl]; exact kk)
theorem own_iastore (X : Stand p l e R s m args below meth c T locs cells slots) (hx : p.tables.exec = Jvm.exec) (hZ : Z.Warmed39 s.vm) (eT : T.heap = h) (V : own_IA Z h a .int n f) {j x : Int32} {k : Nat} (h1 : ¬ j < 0) (hk : j.toNatClampNeg = k) (h2 : k < n) {g : JFrame} (hg : g.method = m) {rest : List Value} (hs : g.stack = .int x :: .int j :: .ref a :: rest) (hd : decode c.code g.pc = .ok (.iastore, 1)) :
    ∃ T' h', Stand p l e R s m args below meth c T' (locs ++ [⟨a, k⟩]) cells slots ∧ T'.heap = h' ∧ Wr h h' a k (.int x) ∧ own_IA Z h' a .int n (own_upd f k x) ∧ ∀ target, Steps p.tables e below (T'.setTop { g with pc := g.pc + 1, stack := rest }) target → Steps p.tables e below (T.setTop g) target := by
  obtain ⟨cl, A, S, H⟩ := V
  obtain ⟨T', h', X', e', W, st⟩ := stI X hx hZ eT A (own_in S h1 hk h2) hg hs hd
  rw [hk] at X' W
  refine ⟨T', h', X', e', W, ⟨_, A.same W, by rw [sz_set, S], fun i hi => ?_⟩, st⟩
  rw [own_set S h2]; unfold own_upd
  by_cases q : i = k
  · rw [if_pos q, if_pos q]
  · rw [if_neg q, if_neg q]; exact H i hi
theorem own_bastore (X : Stand p l e R s m args below meth c T locs cells slots) (hx : p.tables.exec = Jvm.exec) (hZ : Z.Warmed39 s.vm) (eT : T.heap = h) (V : own_IA Z h a .byte n f) {j x : Int32} {k : Nat} (h1 : ¬ j < 0) (hk : j.toNatClampNeg = k) (h2 : k < n) {g : JFrame} (hg : g.method = m) {rest : List Value} (hs : g.stack = .int x :: .int j :: .ref a :: rest) (hd : decode c.code g.pc = .ok (.bastore, 1)) :
    ∃ T' h', Stand p l e R s m args below meth c T' (locs ++ [⟨a, k⟩]) cells slots ∧ T'.heap = h' ∧ Wr h h' a k (.int x.toInt8.toInt32) ∧ own_IA Z h' a .byte n (own_upd f k x.toInt8.toInt32) ∧ ∀ target, Steps p.tables e below (T'.setTop { g with pc := g.pc + 1, stack := rest }) target → Steps p.tables e below (T.setTop g) target := by
  obtain ⟨cl, A, S, H⟩ := V
  obtain ⟨T', h', X', e', W, st⟩ := stB X hx hZ eT A (own_in S h1 hk h2) hg hs hd
  rw [hk] at X' W
  refine ⟨T', h', X', e', W, ⟨_, A.same W, by rw [sz_set, S], fun i hi => ?_⟩, st⟩
  rw [own_set S h2]; unfold own_upd
  by_cases q : i = k
  · rw [if_pos q, if_pos q]; rfl
  · rw [if_neg q, if_neg q]; exact H i hi
theorem own_lastore (X : Stand p l e R s m args below meth c T locs cells slots) (hx : p.tables.exec = Jvm.exec) (hZ : Z.Warmed39 s.vm) (eT : T.heap = h) (V : own_LA Z h a n fl) {j : Int32} {x : Int64} {k : Nat} (h1 : ¬ j < 0) (hk : j.toNatClampNeg = k) (h2 : k < n) {g : JFrame} (hg : g.method = m) {rest : List Value} (hs : g.stack = .long x :: .int j :: .ref a :: rest) (hd : decode c.code g.pc = .ok (.lastore, 1)) :
    ∃ T' h', Stand p l e R s m args below meth c T' (locs ++ [⟨a, k⟩]) cells slots ∧ T'.heap = h' ∧ Wr h h' a k (.long x) ∧ own_LA Z h' a n (own_upd fl k x) ∧ ∀ target, Steps p.tables e below (T'.setTop { g with pc := g.pc + 1, stack := rest }) target → Steps p.tables e below (T.setTop g) target := by
  obtain ⟨cl, A, S, H⟩ := V
  obtain ⟨T', h', X', e', W, st⟩ := stJ X hx hZ eT A (own_in S h1 hk h2) hg hs hd
  rw [hk] at X' W
  refine ⟨T', h', X', e', W, ⟨_, A.same W, by rw [sz_set, S], fun i hi => ?_⟩, st⟩
  rw [own_set S h2]; unfold own_upd
  by_cases q : i = k
  · rw [if_pos q, if_pos q]
  · rw [if_neg q, if_neg q]; exact H i hi
theorem own_clone (X : Stand p l e R s m args below meth c T locs cells slots) (hx : p.tables.exec = Jvm.exec) (hZ : Z.Warmed39 s.vm) {a0 : Array Value} {own ad : String} {index : Nat} (hown : s.vm.findClass own = some m.cls)
    (w1 : (Cond.methodLink own index ⟨ad, "clone", "()Ljava/lang/Object;"⟩).before a0 Z = true) (w2 : (Cond.sameMethod ad "java/lang/Object" "clone" "()Ljava/lang/Object;").before a0 Z = true) (w3 : (Cond.native ⟨"java/lang/Object", "clone", "()Ljava/lang/Object;"⟩).before a0 Z = true)
    (w4 : (Cond.instanceMethod ⟨"java/lang/Object", "clone", "()Ljava/lang/Object;"⟩).before a0 Z = true) (w5 : (Cond.selects ad ⟨ad, "clone", "()Ljava/lang/Object;"⟩ ⟨"java/lang/Object", "clone", "()Ljava/lang/Object;"⟩).before a0 Z = true) (w6 : (Cond.castable ad "java/lang/Cloneable").before a0 Z = true)
    (eT : T.heap = h) (V : own_IA Z h a .int n f) (E : Exa Z h a ad) {g : JFrame} (hg : g.method = m) (hsize : g.locals.size = c.maxLocals) {rest : List Value} (hst : g.stack = .ref a :: rest) (hd : decode c.code g.pc = .ok (.invokevirtual index, 3))
    (hf : 1 ≤ R.frames) {W cap : Nat} (hW : 2 * g.monitorRoom + (rest.map fun v => v.category).sum ≤ W) (hl : W + 14 ≤ R.locals) (hcap : n ≤ cap) (hc : cells + 1 ≤ R.cells) (hsl : slots + cap ≤ R.slots) :
    ∃ T' h', Stand p l e R s m args below meth c T' locs (cells + 1) (slots + cap) ∧ T'.heap = h' ∧ Ext h h' ∧ own_IA Z h' h.size .int n f ∧ Exa Z h' h.size ad ∧
      ∀ target, Steps p.tables e below (T'.setTop { g with pc := g.pc + 3, stack := .ref h.size :: rest }) target → Steps p.tables e below (T.setTop g) target := by
  obtain ⟨cl, A, S, H⟩ := V
  have FC : FitC Z cl := fitC_of A fun i hi v hv => by rw [H i (by rw [← S]; exact hi)] at hv; cases hv; rfl
  obtain ⟨T', h', X', e', ex, A', E', st⟩ := cloneA X hx hZ hown w1 w2 w3 w4 w5 w6 eT A E FC hg hsize hst hd hf hW hl (by rw [S]; exact hcap) hc hsl
  exact ⟨T', h', X', e', ex, ⟨cloneOf cl, A', S, H⟩, E', st⟩
end Arrays
end Own
def own_mk (x : Int64) (k : Int32) : Int32 := (if ((x >>> (((40 : Int32) + k) &&& 0x3f).toInt64) &&& (1 : Int64)) = (0 : Int64) then ((x >>> (((8 : Int32) * k) &&& 0x3f).toInt64).toInt32).toInt8.toInt32 else ((48 : Int32) + ((((x >>> (((8 : Int32) * k) &&& 0x3f).toInt64).toInt32) &&& (255 : Int32)) % (10 : Int32))).toInt8.toInt32)
theorem own_nb (z : Int32) : narrow .byte (.int z.toInt8.toInt32) = .int z.toInt8.toInt32 := by
  have h : z.toInt8.toInt32.toInt8 = z.toInt8 := by simp
  show Value.int (z.toInt8.toInt32).toInt8.toInt32 = _
  rw [h]
theorem pn_com_example_serra_serra_input_LineFieldsSkipDigitsPinLaw : plainName "com/example/serra/serra/input/LineFieldsSkipDigitsPinLaw" = true := by first | (simp [plainName, overriddenIn]; done) | decide +kernel
theorem d1_0 : decode method_3_code 0 = .ok (.lload_n 0, 1) := by decide +kernel
theorem d1_1 : decode method_3_code 1 = .ok (.bipush 8, 2) := by decide +kernel
theorem d1_3 : decode method_3_code 3 = .ok (.iload_n 2, 1) := by decide +kernel
theorem d1_4 : decode method_3_code 4 = .ok (.imul, 1) := by decide +kernel
theorem d1_5 : decode method_3_code 5 = .ok (.lshr, 1) := by decide +kernel
theorem d1_6 : decode method_3_code 6 = .ok (.l2i, 1) := by decide +kernel
theorem d1_7 : decode method_3_code 7 = .ok (.istore_n 3, 1) := by decide +kernel
theorem d1_8 : decode method_3_code 8 = .ok (.lload_n 0, 1) := by decide +kernel
theorem d1_9 : decode method_3_code 9 = .ok (.bipush 40, 2) := by decide +kernel
theorem d1_11 : decode method_3_code 11 = .ok (.iload_n 2, 1) := by decide +kernel
theorem d1_12 : decode method_3_code 12 = .ok (.iadd, 1) := by decide +kernel
theorem d1_13 : decode method_3_code 13 = .ok (.lshr, 1) := by decide +kernel
theorem d1_14 : decode method_3_code 14 = .ok (.lconst 1, 1) := by decide +kernel
theorem d1_15 : decode method_3_code 15 = .ok (.land, 1) := by decide +kernel
theorem d1_16 : decode method_3_code 16 = .ok (.lconst 0, 1) := by decide +kernel
theorem d1_17 : decode method_3_code 17 = .ok (.lcmp, 1) := by decide +kernel
theorem d1_18 : decode method_3_code 18 = .ok (.ifCond .eq 7, 3) := by decide +kernel
theorem d1_21 : decode method_3_code 21 = .ok (.iconst 1, 1) := by decide +kernel
theorem d1_22 : decode method_3_code 22 = .ok (.goto 4, 3) := by decide +kernel
theorem d1_25 : decode method_3_code 25 = .ok (.iconst 0, 1) := by decide +kernel
theorem d1_26 : decode method_3_code 26 = .ok (.istore 4, 2) := by decide +kernel
theorem d1_28 : decode method_3_code 28 = .ok (.iload 4, 2) := by decide +kernel
theorem d1_30 : decode method_3_code 30 = .ok (.ifCond .eq 18, 3) := by decide +kernel
theorem d1_33 : decode method_3_code 33 = .ok (.bipush 48, 2) := by decide +kernel
theorem d1_35 : decode method_3_code 35 = .ok (.iload_n 3, 1) := by decide +kernel
theorem d1_36 : decode method_3_code 36 = .ok (.sipush 255, 3) := by decide +kernel
theorem d1_39 : decode method_3_code 39 = .ok (.iand, 1) := by decide +kernel
theorem d1_40 : decode method_3_code 40 = .ok (.bipush 10, 2) := by decide +kernel
theorem d1_42 : decode method_3_code 42 = .ok (.irem, 1) := by decide +kernel
theorem d1_43 : decode method_3_code 43 = .ok (.iadd, 1) := by decide +kernel
theorem d1_44 : decode method_3_code 44 = .ok (.i2b, 1) := by decide +kernel
theorem d1_45 : decode method_3_code 45 = .ok (.goto 5, 3) := by decide +kernel
theorem d1_48 : decode method_3_code 48 = .ok (.iload_n 3, 1) := by decide +kernel
theorem d1_49 : decode method_3_code 49 = .ok (.i2b, 1) := by decide +kernel
theorem d1_50 : decode method_3_code 50 = .ok (.ireturn, 1) := by decide +kernel
theorem ef_1 (m : MethodId) (x0 : Int64) (x1 : Int32) : entryFrame m #[(.long x0), (.int x1)] 5 = mkF m 0 #[.val (.long x0), .second, .val (.int x1), .unset, .unset] [] := by first | (simp [entryFrame, mkF, argsToLocals, Value.category]; done) | rfl
def own_Q1 (Z : State) (x1 : Int64) (k1 : Int32) (h0 : Heap) (n0 : Nat) (v : Option Value) (h : Heap) (L : List Loc) : Prop := v = some (.int (own_mk x1 k1)) ∧ Fr n0 L ∧ h = h0
set_option maxRecDepth 65536 in
set_option maxHeartbeats 40000000 in
theorem rm1 (l : Launch) (Z : State) (a0 : Array Value) (hw : ∀ d ∈ tables_1, d.before a0 Z = true) (ws : List Jvm.Cond) (x1 : Int64) (k1 : Int32) (h0 : Heap) (n0 : Nat) (Z0 : n0 ≤ h0.size)  :
    MetFree l (⟨"com/example/serra/serra/input/LineFieldsSkipDigitsPinLaw", "mk", "(JI)B"⟩ : MethodName) (head1 (Jvm.Cond.code (⟨"com/example/serra/serra/input/LineFieldsSkipDigitsPinLaw", "mk", "(JI)B"⟩ : MethodName) method_3_code 5 (some .byte) :: ws) ({ frames := 0, cells := 0, slots := 0, locals := 0 } : Room)) (fun a U => a = #[(.long x1), (.int k1)] ∧ Z.Warmed39 U.vm ∧ U.heap = h0) (fun _ _ _ _ _ => True) (fun _ U o U' => ∃ v L, o = .returned v ∧ own_Q1 Z x1 k1 h0 n0 v U'.heap L ∧ FrameEnd U o U' L ({ frames := 0, cells := 0, slots := 0, locals := 0 } : Room).cells ({ frames := 0, cells := 0, slots := 0, locals := 0 } : Room).slots) := by
  refine MetFree.of_bodySF (plainFor_of_name pn_com_example_serra_serra_input_LineFieldsSkipDigitsPinLaw) hisR ?_
  intro p e s m args below meth c s₁ Bd hml0 hP hK
  obtain ⟨rfl, hZ, hh⟩ := hP
  have hx := Bd.exec
  have hby := Bd.bytes
  have hml : c.maxLocals = 5 := hml0
  have hown : s.vm.findClass "com/example/serra/serra/input/LineFieldsSkipDigitsPinLaw" = some m.cls := findClass_of_methodNamed Bd.named
  have hnm := (name_of_methodNamed Bd.named Bd.method).1
  have X0 : Stand p l e ({ frames := 0, cells := 0, slots := 0, locals := 0 } : Room) s m #[(.long x1), (.int k1)] below meth c s₁ [] 0 0 := Stand.of_body Bd
  have e0 : s₁.heap = h0 := by rw [← hh, Bd.state]; rfl
  have N0 := Fr.nil n0
  have Zs := Z0
  show own_Goes p e below s (own_Q1 Z x1 k1 h0 n0) ({ frames := 0, cells := 0, slots := 0, locals := 0 } : Room).cells ({ frames := 0, cells := 0, slots := 0, locals := 0 } : Room).slots _
  refine own_go (B := s₁.setTop (mkF m 0 #[.val (.long x1), .second, .val (.int k1), .unset, .unset] [])) (fun t k => castTop (ef_1 m x1 k1) k) ?_
  refine own_go (B := s₁.setTop (mkF m 1 #[.val (.long x1), .second, .val (.int k1), .unset, .unset] [(.long x1)])) (fun t k => XS.lloadN X0.here hx rfl (Jvm.hb hby d1_0) rfl k) ?_
  refine own_go (B := s₁.setTop (mkF m 3 #[.val (.long x1), .second, .val (.int k1), .unset, .unset] [(.int (8 : Int32)), (.long x1)])) (fun t k => XS.bipush X0.here hx rfl (Jvm.hb hby d1_1) k) ?_
  refine own_go (B := s₁.setTop (mkF m 4 #[.val (.long x1), .second, .val (.int k1), .unset, .unset] [(.int k1), (.int (8 : Int32)), (.long x1)])) (fun t k => XS.iloadN X0.here hx rfl (Jvm.hb hby d1_3) rfl k) ?_
  refine own_go (B := s₁.setTop (mkF m 5 #[.val (.long x1), .second, .val (.int k1), .unset, .unset] [(.int ((8 : Int32) * k1)), (.long x1)])) (fun t k => XS.imul X0.here hx rfl (Jvm.hb hby d1_4) rfl k) ?_
  refine own_go (B := s₁.setTop (mkF m 6 #[.val (.long x1), .second, .val (.int k1), .unset, .unset] [(.long (x1 >>> (((8 : Int32) * k1) &&& 0x3f).toInt64))])) (fun t k => XS.lshr X0.here hx rfl (Jvm.hb hby d1_5) rfl k) ?_
  refine own_go (B := s₁.setTop (mkF m 7 #[.val (.long x1), .second, .val (.int k1), .unset, .unset] [(.int ((x1 >>> (((8 : Int32) * k1) &&& 0x3f).toInt64).toInt32))])) (fun t k => XS.l2i X0.here hx rfl (Jvm.hb hby d1_6) rfl k) ?_
  refine own_go (B := s₁.setTop (mkF m 8 #[.val (.long x1), .second, .val (.int k1), .val (.int ((x1 >>> (((8 : Int32) * k1) &&& 0x3f).toInt64).toInt32)), .unset] [])) (fun t k => XS.istoreN X0.here hx rfl (Jvm.hb hby d1_7) rfl (l' := #[.val (.long x1), .second, .val (.int k1), .val (.int ((x1 >>> (((8 : Int32) * k1) &&& 0x3f).toInt64).toInt32)), .unset]) rfl k) ?_
  refine own_go (B := s₁.setTop (mkF m 9 #[.val (.long x1), .second, .val (.int k1), .val (.int ((x1 >>> (((8 : Int32) * k1) &&& 0x3f).toInt64).toInt32)), .unset] [(.long x1)])) (fun t k => XS.lloadN X0.here hx rfl (Jvm.hb hby d1_8) rfl k) ?_
  refine own_go (B := s₁.setTop (mkF m 11 #[.val (.long x1), .second, .val (.int k1), .val (.int ((x1 >>> (((8 : Int32) * k1) &&& 0x3f).toInt64).toInt32)), .unset] [(.int (40 : Int32)), (.long x1)])) (fun t k => XS.bipush X0.here hx rfl (Jvm.hb hby d1_9) k) ?_
  refine own_go (B := s₁.setTop (mkF m 12 #[.val (.long x1), .second, .val (.int k1), .val (.int ((x1 >>> (((8 : Int32) * k1) &&& 0x3f).toInt64).toInt32)), .unset] [(.int k1), (.int (40 : Int32)), (.long x1)])) (fun t k => XS.iloadN X0.here hx rfl (Jvm.hb hby d1_11) rfl k) ?_
  refine own_go (B := s₁.setTop (mkF m 13 #[.val (.long x1), .second, .val (.int k1), .val (.int ((x1 >>> (((8 : Int32) * k1) &&& 0x3f).toInt64).toInt32)), .unset] [(.int ((40 : Int32) + k1)), (.long x1)])) (fun t k => XS.iadd X0.here hx rfl (Jvm.hb hby d1_12) rfl k) ?_
  refine own_go (B := s₁.setTop (mkF m 14 #[.val (.long x1), .second, .val (.int k1), .val (.int ((x1 >>> (((8 : Int32) * k1) &&& 0x3f).toInt64).toInt32)), .unset] [(.long (x1 >>> (((40 : Int32) + k1) &&& 0x3f).toInt64))])) (fun t k => XS.lshr X0.here hx rfl (Jvm.hb hby d1_13) rfl k) ?_
  refine own_go (B := s₁.setTop (mkF m 15 #[.val (.long x1), .second, .val (.int k1), .val (.int ((x1 >>> (((8 : Int32) * k1) &&& 0x3f).toInt64).toInt32)), .unset] [(.long (1 : Int64)), (.long (x1 >>> (((40 : Int32) + k1) &&& 0x3f).toInt64))])) (fun t k => XS.lconst X0.here hx rfl (Jvm.hb hby d1_14) k) ?_
  refine own_go (B := s₁.setTop (mkF m 16 #[.val (.long x1), .second, .val (.int k1), .val (.int ((x1 >>> (((8 : Int32) * k1) &&& 0x3f).toInt64).toInt32)), .unset] [(.long ((x1 >>> (((40 : Int32) + k1) &&& 0x3f).toInt64) &&& (1 : Int64)))])) (fun t k => XS.land X0.here hx rfl (Jvm.hb hby d1_15) rfl k) ?_
  refine own_go (B := s₁.setTop (mkF m 17 #[.val (.long x1), .second, .val (.int k1), .val (.int ((x1 >>> (((8 : Int32) * k1) &&& 0x3f).toInt64).toInt32)), .unset] [(.long (0 : Int64)), (.long ((x1 >>> (((40 : Int32) + k1) &&& 0x3f).toInt64) &&& (1 : Int64)))])) (fun t k => XS.lconst X0.here hx rfl (Jvm.hb hby d1_16) k) ?_
  refine own_go (B := s₁.setTop (mkF m 18 #[.val (.long x1), .second, .val (.int k1), .val (.int ((x1 >>> (((8 : Int32) * k1) &&& 0x3f).toInt64).toInt32)), .unset] [(.int (lcmpW ((x1 >>> (((40 : Int32) + k1) &&& 0x3f).toInt64) &&& (1 : Int64)) (0 : Int64)))])) (fun t k => XS.lcmp X0.here hx rfl (Jvm.hb hby d1_17) rfl k) ?_
  by_cases hc18_1 : ((x1 >>> (((40 : Int32) + k1) &&& 0x3f).toInt64) &&& (1 : Int64)) = (0 : Int64)
  · refine own_go (B := s₁.setTop (mkF m 25 #[.val (.long x1), .second, .val (.int k1), .val (.int ((x1 >>> (((8 : Int32) * k1) &&& 0x3f).toInt64).toInt32)), .unset] [])) (fun t k => XS.ifYes X0.here hx rfl (pc0 := 18) (pc' := 25) rfl (Jvm.hb hby d1_18) rfl ((if0 _ _).trans (teq ((lw_eq ((x1 >>> (((40 : Int32) + k1) &&& 0x3f).toInt64) &&& (1 : Int64)) (0 : Int64)).mpr hc18_1)).1) (by decide) (by decide) k) ?_
    refine own_go (B := s₁.setTop (mkF m 26 #[.val (.long x1), .second, .val (.int k1), .val (.int ((x1 >>> (((8 : Int32) * k1) &&& 0x3f).toInt64).toInt32)), .unset] [(.int (0 : Int32))])) (fun t k => XS.iconst X0.here hx rfl (Jvm.hb hby d1_25) k) ?_
    refine own_go (B := s₁.setTop (mkF m 28 #[.val (.long x1), .second, .val (.int k1), .val (.int ((x1 >>> (((8 : Int32) * k1) &&& 0x3f).toInt64).toInt32)), .val (.int (0 : Int32))] [])) (fun t k => XS.istore X0.here hx rfl (Jvm.hb hby d1_26) rfl (l' := #[.val (.long x1), .second, .val (.int k1), .val (.int ((x1 >>> (((8 : Int32) * k1) &&& 0x3f).toInt64).toInt32)), .val (.int (0 : Int32))]) rfl k) ?_
    refine own_go (B := s₁.setTop (mkF m 30 #[.val (.long x1), .second, .val (.int k1), .val (.int ((x1 >>> (((8 : Int32) * k1) &&& 0x3f).toInt64).toInt32)), .val (.int (0 : Int32))] [(.int (0 : Int32))])) (fun t k => XS.iload X0.here hx rfl (Jvm.hb hby d1_28) rfl k) ?_
    refine own_go (B := s₁.setTop (mkF m 48 #[.val (.long x1), .second, .val (.int k1), .val (.int ((x1 >>> (((8 : Int32) * k1) &&& 0x3f).toInt64).toInt32)), .val (.int (0 : Int32))] [])) (fun t k => XS.ifYes X0.here hx rfl (pc0 := 30) (pc' := 48) rfl (Jvm.hb hby d1_30) rfl ((if0 _ _).trans (teq (by decide : (0 : Int32) = (0 : Int32))).1) (by decide) (by decide) k) ?_
    refine own_go (B := s₁.setTop (mkF m 49 #[.val (.long x1), .second, .val (.int k1), .val (.int ((x1 >>> (((8 : Int32) * k1) &&& 0x3f).toInt64).toInt32)), .val (.int (0 : Int32))] [(.int ((x1 >>> (((8 : Int32) * k1) &&& 0x3f).toInt64).toInt32))])) (fun t k => XS.iloadN X0.here hx rfl (Jvm.hb hby d1_48) rfl k) ?_
    refine own_go (B := s₁.setTop (mkF m 50 #[.val (.long x1), .second, .val (.int k1), .val (.int ((x1 >>> (((8 : Int32) * k1) &&& 0x3f).toInt64).toInt32)), .val (.int (0 : Int32))] [(.int (((x1 >>> (((8 : Int32) * k1) &&& 0x3f).toInt64).toInt32).toInt8.toInt32))])) (fun t k => XS.i2b X0.here hx rfl (Jvm.hb hby d1_49) rfl k) ?_
    refine own_out X0 (v := (some (.int (((x1 >>> (((8 : Int32) * k1) &&& 0x3f).toInt64).toInt32).toInt8.toInt32)))) (fun h => by rw [Bd.returns] at h; cases h) Bd.notSynchronized (fun fs hr => retOut X0 hx (t := .byte) Bd.returns (own_nb _) (by first | exact Or.inl ⟨rfl, by simp, _, rfl⟩) (Jvm.hb hby d1_50) hr) ?_ (by decide) (by decide)
    show own_Q1 Z x1 k1 h0 n0 (some (.int (((x1 >>> (((8 : Int32) * k1) &&& 0x3f).toInt64).toInt32).toInt8.toInt32))) s₁.heap _
    rw [e0]
    exact ⟨congrArg (fun z => some (Value.int z)) (by unfold own_mk; simp only [if_pos hc18_1]), N0, rfl⟩
  · refine own_go (B := s₁.setTop (mkF m 21 #[.val (.long x1), .second, .val (.int k1), .val (.int ((x1 >>> (((8 : Int32) * k1) &&& 0x3f).toInt64).toInt32)), .unset] [])) (fun t k => XS.ifNo X0.here hx rfl (Jvm.hb hby d1_18) rfl ((if0 _ _).trans (feq (mt (lw_eq ((x1 >>> (((40 : Int32) + k1) &&& 0x3f).toInt64) &&& (1 : Int64)) (0 : Int64)).mp hc18_1)).1) k) ?_
    refine own_go (B := s₁.setTop (mkF m 22 #[.val (.long x1), .second, .val (.int k1), .val (.int ((x1 >>> (((8 : Int32) * k1) &&& 0x3f).toInt64).toInt32)), .unset] [(.int (1 : Int32))])) (fun t k => XS.iconst X0.here hx rfl (Jvm.hb hby d1_21) k) ?_
    refine own_go (B := s₁.setTop (mkF m 26 #[.val (.long x1), .second, .val (.int k1), .val (.int ((x1 >>> (((8 : Int32) * k1) &&& 0x3f).toInt64).toInt32)), .unset] [(.int (1 : Int32))])) (fun t k => XS.goto X0.here hx rfl (pc0 := 22) (pc' := 26) rfl (Jvm.hb hby d1_22) (by decide) (by decide) k) ?_
    refine own_go (B := s₁.setTop (mkF m 28 #[.val (.long x1), .second, .val (.int k1), .val (.int ((x1 >>> (((8 : Int32) * k1) &&& 0x3f).toInt64).toInt32)), .val (.int (1 : Int32))] [])) (fun t k => XS.istore X0.here hx rfl (Jvm.hb hby d1_26) rfl (l' := #[.val (.long x1), .second, .val (.int k1), .val (.int ((x1 >>> (((8 : Int32) * k1) &&& 0x3f).toInt64).toInt32)), .val (.int (1 : Int32))]) rfl k) ?_
    refine own_go (B := s₁.setTop (mkF m 30 #[.val (.long x1), .second, .val (.int k1), .val (.int ((x1 >>> (((8 : Int32) * k1) &&& 0x3f).toInt64).toInt32)), .val (.int (1 : Int32))] [(.int (1 : Int32))])) (fun t k => XS.iload X0.here hx rfl (Jvm.hb hby d1_28) rfl k) ?_
    refine own_go (B := s₁.setTop (mkF m 33 #[.val (.long x1), .second, .val (.int k1), .val (.int ((x1 >>> (((8 : Int32) * k1) &&& 0x3f).toInt64).toInt32)), .val (.int (1 : Int32))] [])) (fun t k => XS.ifNo X0.here hx rfl (Jvm.hb hby d1_30) rfl ((if0 _ _).trans (feq (by decide : ¬ ((1 : Int32) = (0 : Int32)))).1) k) ?_
    refine own_go (B := s₁.setTop (mkF m 35 #[.val (.long x1), .second, .val (.int k1), .val (.int ((x1 >>> (((8 : Int32) * k1) &&& 0x3f).toInt64).toInt32)), .val (.int (1 : Int32))] [(.int (48 : Int32))])) (fun t k => XS.bipush X0.here hx rfl (Jvm.hb hby d1_33) k) ?_
    refine own_go (B := s₁.setTop (mkF m 36 #[.val (.long x1), .second, .val (.int k1), .val (.int ((x1 >>> (((8 : Int32) * k1) &&& 0x3f).toInt64).toInt32)), .val (.int (1 : Int32))] [(.int ((x1 >>> (((8 : Int32) * k1) &&& 0x3f).toInt64).toInt32)), (.int (48 : Int32))])) (fun t k => XS.iloadN X0.here hx rfl (Jvm.hb hby d1_35) rfl k) ?_
    refine own_go (B := s₁.setTop (mkF m 39 #[.val (.long x1), .second, .val (.int k1), .val (.int ((x1 >>> (((8 : Int32) * k1) &&& 0x3f).toInt64).toInt32)), .val (.int (1 : Int32))] [(.int (255 : Int32)), (.int ((x1 >>> (((8 : Int32) * k1) &&& 0x3f).toInt64).toInt32)), (.int (48 : Int32))])) (fun t k => XS.sipush X0.here hx rfl (Jvm.hb hby d1_36) k) ?_
    refine own_go (B := s₁.setTop (mkF m 40 #[.val (.long x1), .second, .val (.int k1), .val (.int ((x1 >>> (((8 : Int32) * k1) &&& 0x3f).toInt64).toInt32)), .val (.int (1 : Int32))] [(.int (((x1 >>> (((8 : Int32) * k1) &&& 0x3f).toInt64).toInt32) &&& (255 : Int32))), (.int (48 : Int32))])) (fun t k => XS.iand X0.here hx rfl (Jvm.hb hby d1_39) rfl k) ?_
    refine own_go (B := s₁.setTop (mkF m 42 #[.val (.long x1), .second, .val (.int k1), .val (.int ((x1 >>> (((8 : Int32) * k1) &&& 0x3f).toInt64).toInt32)), .val (.int (1 : Int32))] [(.int (10 : Int32)), (.int (((x1 >>> (((8 : Int32) * k1) &&& 0x3f).toInt64).toInt32) &&& (255 : Int32))), (.int (48 : Int32))])) (fun t k => XS.bipush X0.here hx rfl (Jvm.hb hby d1_40) k) ?_
    refine own_go (B := s₁.setTop (mkF m 43 #[.val (.long x1), .second, .val (.int k1), .val (.int ((x1 >>> (((8 : Int32) * k1) &&& 0x3f).toInt64).toInt32)), .val (.int (1 : Int32))] [(.int ((((x1 >>> (((8 : Int32) * k1) &&& 0x3f).toInt64).toInt32) &&& (255 : Int32)) % (10 : Int32))), (.int (48 : Int32))])) (fun t k => own_irem X0.here hx rfl (Jvm.hb hby d1_42) rfl (by decide) k) ?_
    refine own_go (B := s₁.setTop (mkF m 44 #[.val (.long x1), .second, .val (.int k1), .val (.int ((x1 >>> (((8 : Int32) * k1) &&& 0x3f).toInt64).toInt32)), .val (.int (1 : Int32))] [(.int ((48 : Int32) + ((((x1 >>> (((8 : Int32) * k1) &&& 0x3f).toInt64).toInt32) &&& (255 : Int32)) % (10 : Int32))))])) (fun t k => XS.iadd X0.here hx rfl (Jvm.hb hby d1_43) rfl k) ?_
    refine own_go (B := s₁.setTop (mkF m 45 #[.val (.long x1), .second, .val (.int k1), .val (.int ((x1 >>> (((8 : Int32) * k1) &&& 0x3f).toInt64).toInt32)), .val (.int (1 : Int32))] [(.int (((48 : Int32) + ((((x1 >>> (((8 : Int32) * k1) &&& 0x3f).toInt64).toInt32) &&& (255 : Int32)) % (10 : Int32))).toInt8.toInt32))])) (fun t k => XS.i2b X0.here hx rfl (Jvm.hb hby d1_44) rfl k) ?_
    refine own_go (B := s₁.setTop (mkF m 50 #[.val (.long x1), .second, .val (.int k1), .val (.int ((x1 >>> (((8 : Int32) * k1) &&& 0x3f).toInt64).toInt32)), .val (.int (1 : Int32))] [(.int (((48 : Int32) + ((((x1 >>> (((8 : Int32) * k1) &&& 0x3f).toInt64).toInt32) &&& (255 : Int32)) % (10 : Int32))).toInt8.toInt32))])) (fun t k => XS.goto X0.here hx rfl (pc0 := 45) (pc' := 50) rfl (Jvm.hb hby d1_45) (by decide) (by decide) k) ?_
    refine own_out X0 (v := (some (.int (((48 : Int32) + ((((x1 >>> (((8 : Int32) * k1) &&& 0x3f).toInt64).toInt32) &&& (255 : Int32)) % (10 : Int32))).toInt8.toInt32)))) (fun h => by rw [Bd.returns] at h; cases h) Bd.notSynchronized (fun fs hr => retOut X0 hx (t := .byte) Bd.returns (own_nb _) (by first | exact Or.inl ⟨rfl, by simp, _, rfl⟩) (Jvm.hb hby d1_50) hr) ?_ (by decide) (by decide)
    show own_Q1 Z x1 k1 h0 n0 (some (.int (((48 : Int32) + ((((x1 >>> (((8 : Int32) * k1) &&& 0x3f).toInt64).toInt32) &&& (255 : Int32)) % (10 : Int32))).toInt8.toInt32))) s₁.heap _
    rw [e0]
    exact ⟨congrArg (fun z => some (Value.int z)) (by unfold own_mk; simp only [if_neg hc18_1]), N0, rfl⟩
def own_f3 (x1 : Int32) : Int32 := (if x1 < (48 : Int32) then (0 : Int32) else (if (57 : Int32) < x1 then (0 : Int32) else (1 : Int32)))
theorem d3_0 : decode method_2_code 0 = .ok (.iload_n 0, 1) := by decide +kernel
theorem d3_1 : decode method_2_code 1 = .ok (.bipush 48, 2) := by decide +kernel
theorem d3_3 : decode method_2_code 3 = .ok (.if_icmp .lt 13, 3) := by decide +kernel
theorem d3_6 : decode method_2_code 6 = .ok (.iload_n 0, 1) := by decide +kernel
theorem d3_7 : decode method_2_code 7 = .ok (.bipush 57, 2) := by decide +kernel
theorem d3_9 : decode method_2_code 9 = .ok (.if_icmp .gt 7, 3) := by decide +kernel
theorem d3_12 : decode method_2_code 12 = .ok (.iconst 1, 1) := by decide +kernel
theorem d3_13 : decode method_2_code 13 = .ok (.goto 4, 3) := by decide +kernel
theorem d3_16 : decode method_2_code 16 = .ok (.iconst 0, 1) := by decide +kernel
theorem d3_17 : decode method_2_code 17 = .ok (.ireturn, 1) := by decide +kernel
theorem ef_3 (m : MethodId) (x0 : Int32) : entryFrame m #[(.int x0)] 1 = mkF m 0 #[.val (.int x0)] [] := by first | (simp [entryFrame, mkF, argsToLocals, Value.category]; done) | rfl
def own_Q3 (Z : State) (x1 : Int32) (h0 : Heap) (n0 : Nat) (v : Option Value) (h : Heap) (L : List Loc) : Prop := v = some (.int (own_f3 x1)) ∧ Fr n0 L ∧ h = h0
set_option maxRecDepth 65536 in
set_option maxHeartbeats 40000000 in
theorem rm3 (l : Launch) (Z : State) (a0 : Array Value) (hw : ∀ d ∈ tables_1, d.before a0 Z = true) (ws : List Jvm.Cond) (x1 : Int32) (h0 : Heap) (n0 : Nat) (Z0 : n0 ≤ h0.size)  :
    MetFree l (⟨"com/example/serra/serra/input/LineFieldsSkipDigitsPinLaw", "d", "(B)Z"⟩ : MethodName) (head1 (Jvm.Cond.code (⟨"com/example/serra/serra/input/LineFieldsSkipDigitsPinLaw", "d", "(B)Z"⟩ : MethodName) method_2_code 1 (some .boolean) :: ws) ({ frames := 0, cells := 0, slots := 0, locals := 0 } : Room)) (fun a U => a = #[(.int x1)] ∧ Z.Warmed39 U.vm ∧ U.heap = h0) (fun _ _ _ _ _ => True) (fun _ U o U' => ∃ v L, o = .returned v ∧ own_Q3 Z x1 h0 n0 v U'.heap L ∧ FrameEnd U o U' L ({ frames := 0, cells := 0, slots := 0, locals := 0 } : Room).cells ({ frames := 0, cells := 0, slots := 0, locals := 0 } : Room).slots) := by
  refine MetFree.of_bodySF (plainFor_of_name pn_com_example_serra_serra_input_LineFieldsSkipDigitsPinLaw) hisR ?_
  intro p e s m args below meth c s₁ Bd hml0 hP hK
  obtain ⟨rfl, hZ, hh⟩ := hP
  have hx := Bd.exec
  have hby := Bd.bytes
  have hml : c.maxLocals = 1 := hml0
  have hown : s.vm.findClass "com/example/serra/serra/input/LineFieldsSkipDigitsPinLaw" = some m.cls := findClass_of_methodNamed Bd.named
  have hnm := (name_of_methodNamed Bd.named Bd.method).1
  have X0 : Stand p l e ({ frames := 0, cells := 0, slots := 0, locals := 0 } : Room) s m #[(.int x1)] below meth c s₁ [] 0 0 := Stand.of_body Bd
  have e0 : s₁.heap = h0 := by rw [← hh, Bd.state]; rfl
  have N0 := Fr.nil n0
  have Zs := Z0
  show own_Goes p e below s (own_Q3 Z x1 h0 n0) ({ frames := 0, cells := 0, slots := 0, locals := 0 } : Room).cells ({ frames := 0, cells := 0, slots := 0, locals := 0 } : Room).slots _
  refine own_go (B := s₁.setTop (mkF m 0 #[.val (.int x1)] [])) (fun t k => castTop (ef_3 m x1) k) ?_
  refine own_go (B := s₁.setTop (mkF m 1 #[.val (.int x1)] [(.int x1)])) (fun t k => XS.iloadN X0.here hx rfl (Jvm.hb hby d3_0) rfl k) ?_
  refine own_go (B := s₁.setTop (mkF m 3 #[.val (.int x1)] [(.int (48 : Int32)), (.int x1)])) (fun t k => XS.bipush X0.here hx rfl (Jvm.hb hby d3_1) k) ?_
  by_cases hc3_2 : x1 < (48 : Int32)
  · refine own_go (B := s₁.setTop (mkF m 16 #[.val (.int x1)] [])) (fun t k => XS.icmpYes X0.here hx rfl (pc0 := 3) (pc' := 16) rfl (Jvm.hb hby d3_3) rfl (tlt hc3_2).1 (by decide) (by decide) k) ?_
    refine own_go (B := s₁.setTop (mkF m 17 #[.val (.int x1)] [(.int (0 : Int32))])) (fun t k => XS.iconst X0.here hx rfl (Jvm.hb hby d3_16) k) ?_
    refine own_out X0 (v := (some (.int (0 : Int32)))) (fun h => by rw [Bd.returns] at h; cases h) Bd.notSynchronized (fun fs hr => retOut X0 hx (t := .boolean) Bd.returns rfl (by first | exact Or.inl ⟨rfl, by simp, _, rfl⟩) (Jvm.hb hby d3_17) hr) ?_ (by decide) (by decide)
    show own_Q3 Z x1 h0 n0 (some (.int (0 : Int32))) s₁.heap _
    rw [e0]
    exact ⟨congrArg (fun z => some (Value.int z)) (by unfold own_f3; simp only [if_pos hc3_2]), N0, rfl⟩
  · refine own_go (B := s₁.setTop (mkF m 6 #[.val (.int x1)] [])) (fun t k => XS.icmpNo X0.here hx rfl (Jvm.hb hby d3_3) rfl (flt hc3_2).1 k) ?_
    refine own_go (B := s₁.setTop (mkF m 7 #[.val (.int x1)] [(.int x1)])) (fun t k => XS.iloadN X0.here hx rfl (Jvm.hb hby d3_6) rfl k) ?_
    refine own_go (B := s₁.setTop (mkF m 9 #[.val (.int x1)] [(.int (57 : Int32)), (.int x1)])) (fun t k => XS.bipush X0.here hx rfl (Jvm.hb hby d3_7) k) ?_
    by_cases hc9_3 : (57 : Int32) < x1
    · refine own_go (B := s₁.setTop (mkF m 16 #[.val (.int x1)] [])) (fun t k => XS.icmpYes X0.here hx rfl (pc0 := 9) (pc' := 16) rfl (Jvm.hb hby d3_9) rfl (tlt hc9_3).2.2.1 (by decide) (by decide) k) ?_
      refine own_go (B := s₁.setTop (mkF m 17 #[.val (.int x1)] [(.int (0 : Int32))])) (fun t k => XS.iconst X0.here hx rfl (Jvm.hb hby d3_16) k) ?_
      refine own_out X0 (v := (some (.int (0 : Int32)))) (fun h => by rw [Bd.returns] at h; cases h) Bd.notSynchronized (fun fs hr => retOut X0 hx (t := .boolean) Bd.returns rfl (by first | exact Or.inl ⟨rfl, by simp, _, rfl⟩) (Jvm.hb hby d3_17) hr) ?_ (by decide) (by decide)
      show own_Q3 Z x1 h0 n0 (some (.int (0 : Int32))) s₁.heap _
      rw [e0]
      exact ⟨congrArg (fun z => some (Value.int z)) (by unfold own_f3; simp only [if_neg hc3_2, if_pos hc9_3]), N0, rfl⟩
    · refine own_go (B := s₁.setTop (mkF m 12 #[.val (.int x1)] [])) (fun t k => XS.icmpNo X0.here hx rfl (Jvm.hb hby d3_9) rfl (flt hc9_3).2.2.1 k) ?_
      refine own_go (B := s₁.setTop (mkF m 13 #[.val (.int x1)] [(.int (1 : Int32))])) (fun t k => XS.iconst X0.here hx rfl (Jvm.hb hby d3_12) k) ?_
      refine own_go (B := s₁.setTop (mkF m 17 #[.val (.int x1)] [(.int (1 : Int32))])) (fun t k => XS.goto X0.here hx rfl (pc0 := 13) (pc' := 17) rfl (Jvm.hb hby d3_13) (by decide) (by decide) k) ?_
      refine own_out X0 (v := (some (.int (1 : Int32)))) (fun h => by rw [Bd.returns] at h; cases h) Bd.notSynchronized (fun fs hr => retOut X0 hx (t := .boolean) Bd.returns rfl (by first | exact Or.inl ⟨rfl, by simp, _, rfl⟩) (Jvm.hb hby d3_17) hr) ?_ (by decide) (by decide)
      show own_Q3 Z x1 h0 n0 (some (.int (1 : Int32))) s₁.heap _
      rw [e0]
      exact ⟨congrArg (fun z => some (Value.int z)) (by unfold own_f3; simp only [if_neg hc3_2, if_neg hc9_3]), N0, rfl⟩
def own_sk (f : Nat → Int32) : Nat → Nat → Nat
  | i, 0 => i
  | i, n + 1 => if f i < (48 : Int32) then i else if (57 : Int32) < f i then i else own_sk f (i + 1) n
theorem own_sk_le (f : Nat → Int32) : ∀ n i, i ≤ own_sk f i n ∧ own_sk f i n ≤ i + n := by
  intro n
  induction n with
  | zero => intro i; exact ⟨Nat.le_refl _, Nat.le_refl _⟩
  | succ n ih =>
    intro i
    unfold own_sk
    have := ih (i + 1)
    split
    · omega
    · split <;> omega
theorem own_sk_in (f : Nat → Int32) : ∀ n i j, i ≤ j → j < own_sk f i n → own_f3 (f j) = 1 := by
  intro n
  induction n with
  | zero => intro i j h1 h2; exact absurd h2 (by unfold own_sk; omega)
  | succ n ih =>
    intro i j h1 h2
    unfold own_sk at h2
    by_cases c1 : f i < (48 : Int32)
    · rw [if_pos c1] at h2; omega
    · rw [if_neg c1] at h2
      by_cases c2 : (57 : Int32) < f i
      · rw [if_pos c2] at h2; omega
      · rw [if_neg c2] at h2
        by_cases e : i = j
        · subst e; unfold own_f3; rw [if_neg c1, if_neg c2]
        · exact ih (i + 1) j (by omega) h2
theorem own_sk_end (f : Nat → Int32) : ∀ n i, own_sk f i n = i + n ∨ own_f3 (f (own_sk f i n)) = 0 := by
  intro n
  induction n with
  | zero => intro i; exact Or.inl rfl
  | succ n ih =>
    intro i
    unfold own_sk
    by_cases c1 : f i < (48 : Int32)
    · rw [if_pos c1]; right; unfold own_f3; rw [if_pos c1]
    · rw [if_neg c1]
      by_cases c2 : (57 : Int32) < f i
      · rw [if_pos c2]; right; unfold own_f3; rw [if_neg c1, if_pos c2]
      · rw [if_neg c2]
        rcases ih (i + 1) with h | h
        · left; omega
        · right; exact h
theorem own_nn (x : Int32) : (¬ (x < (0 : Int32))) ↔ 0 ≤ x.toInt := by
  rw [Int32.lt_iff_toInt_lt]; have : (0 : Int32).toInt = 0 := rfl; omega
theorem own_tn (x : Int32) (h : 0 ≤ x.toInt) : (x.toNatClampNeg : Int) = x.toInt := by unfold Int32.toNatClampNeg; omega
theorem own_inc (x : Int32) (h : 0 ≤ x.toInt) (h2 : x.toInt < 5) : (x + (1 : Int32)).toInt = x.toInt + 1 := by
  have a := c_iadd x 1; have e : (1 : Int32).toInt = 1 := rfl; have r := rng32 (x + 1); rw [e] at a; omega
theorem pn_com_example_serra_serra_input_LineFields : plainName "com/example/serra/serra/input/LineFields" = true := by first | (simp [plainName, overriddenIn]; done) | decide +kernel
theorem d2_0 : decode prog_28_method_6_code 0 = .ok (.iload_n 1, 1) := by decide +kernel
theorem d2_1 : decode prog_28_method_6_code 1 = .ok (.istore_n 3, 1) := by decide +kernel
theorem d2_2 : decode prog_28_method_6_code 2 = .ok (.iload_n 3, 1) := by decide +kernel
theorem d2_3 : decode prog_28_method_6_code 3 = .ok (.iload_n 2, 1) := by decide +kernel
theorem d2_4 : decode prog_28_method_6_code 4 = .ok (.if_icmp .ge 25, 3) := by decide +kernel
theorem d2_7 : decode prog_28_method_6_code 7 = .ok (.aload_n 0, 1) := by decide +kernel
theorem d2_8 : decode prog_28_method_6_code 8 = .ok (.iload_n 3, 1) := by decide +kernel
theorem d2_9 : decode prog_28_method_6_code 9 = .ok (.baload, 1) := by decide +kernel
theorem d2_10 : decode prog_28_method_6_code 10 = .ok (.bipush 48, 2) := by decide +kernel
theorem d2_12 : decode prog_28_method_6_code 12 = .ok (.if_icmp .lt 17, 3) := by decide +kernel
theorem d2_15 : decode prog_28_method_6_code 15 = .ok (.aload_n 0, 1) := by decide +kernel
theorem d2_16 : decode prog_28_method_6_code 16 = .ok (.iload_n 3, 1) := by decide +kernel
theorem d2_17 : decode prog_28_method_6_code 17 = .ok (.baload, 1) := by decide +kernel
theorem d2_18 : decode prog_28_method_6_code 18 = .ok (.bipush 57, 2) := by decide +kernel
theorem d2_20 : decode prog_28_method_6_code 20 = .ok (.if_icmp .gt 9, 3) := by decide +kernel
theorem d2_23 : decode prog_28_method_6_code 23 = .ok (.iinc 3 1, 3) := by decide +kernel
theorem d2_26 : decode prog_28_method_6_code 26 = .ok (.goto (-24), 3) := by decide +kernel
theorem d2_29 : decode prog_28_method_6_code 29 = .ok (.iload_n 3, 1) := by decide +kernel
theorem d2_30 : decode prog_28_method_6_code 30 = .ok (.ireturn, 1) := by decide +kernel
theorem ef_2 (m : MethodId) (x0 : Addr) (x1 : Int32) (x2 : Int32) : entryFrame m #[(.ref x0), (.int x1), (.int x2)] 4 = mkF m 0 #[.val (.ref x0), .val (.int x1), .val (.int x2), .unset] [] := by first | (simp [entryFrame, mkF, argsToLocals, Value.category]; done) | rfl
def own_Q2 (Z : State) (zb : Addr) (za : Int32) (zt : Int32) (zf : Nat → Int32) (zr : Int32) (h0 : Heap) (n0 : Nat) (v : Option Value) (h : Heap) (L : List Loc) : Prop := v = some (.int zr) ∧ Fr n0 L ∧ h = h0
set_option maxRecDepth 65536 in
set_option maxHeartbeats 40000000 in
theorem rm2 (l : Launch) (Z : State) (a0 : Array Value) (hw : ∀ d ∈ tables_1, d.before a0 Z = true) (ws : List Jvm.Cond) (zb : Addr) (za : Int32) (zt : Int32) (zf : Nat → Int32) (zr : Int32) (h0 : Heap) (n0 : Nat) (Z0 : n0 ≤ h0.size) (V_zb : own_IA Z h0 zb .byte 5 zf) (ha0 : 0 ≤ za.toInt) (ha1 : zt.toInt ≤ 5) (hr : (own_sk zf za.toNatClampNeg (zt.toInt - za.toInt).toNat : Int) = zr.toInt) :
    MetFree l (⟨"com/example/serra/serra/input/LineFields", "skipDigits", "([BII)I"⟩ : MethodName) (head1 (Jvm.Cond.code (⟨"com/example/serra/serra/input/LineFields", "skipDigits", "([BII)I"⟩ : MethodName) prog_28_method_6_code 4 (some .int) :: ws) ({ frames := 0, cells := 0, slots := 0, locals := 0 } : Room)) (fun a U => a = #[(.ref zb), (.int za), (.int zt)] ∧ Z.Warmed39 U.vm ∧ U.heap = h0) (fun _ _ _ _ _ => True) (fun _ U o U' => ∃ v L, o = .returned v ∧ own_Q2 Z zb za zt zf zr h0 n0 v U'.heap L ∧ FrameEnd U o U' L ({ frames := 0, cells := 0, slots := 0, locals := 0 } : Room).cells ({ frames := 0, cells := 0, slots := 0, locals := 0 } : Room).slots) := by
  refine MetFree.of_bodySF (plainFor_of_name pn_com_example_serra_serra_input_LineFields) hisR ?_
  intro p e s m args below meth c s₁ Bd hml0 hP hK
  obtain ⟨rfl, hZ, hh⟩ := hP
  have hx := Bd.exec
  have hby := Bd.bytes
  have hml : c.maxLocals = 4 := hml0
  have hown : s.vm.findClass "com/example/serra/serra/input/LineFields" = some m.cls := findClass_of_methodNamed Bd.named
  have hnm := (name_of_methodNamed Bd.named Bd.method).1
  have X0 : Stand p l e ({ frames := 0, cells := 0, slots := 0, locals := 0 } : Room) s m #[(.ref zb), (.int za), (.int zt)] below meth c s₁ [] 0 0 := Stand.of_body Bd
  have e0 : s₁.heap = h0 := by rw [← hh, Bd.state]; rfl
  have N0 := Fr.nil n0
  have Zs := Z0
  show own_Goes p e below s (own_Q2 Z zb za zt zf zr h0 n0) ({ frames := 0, cells := 0, slots := 0, locals := 0 } : Room).cells ({ frames := 0, cells := 0, slots := 0, locals := 0 } : Room).slots _
  refine own_go (B := s₁.setTop (mkF m 0 #[.val (.ref zb), .val (.int za), .val (.int zt), .unset] [])) (fun t k => castTop (ef_2 m zb za zt) k) ?_
  refine own_go (B := s₁.setTop (mkF m 1 #[.val (.ref zb), .val (.int za), .val (.int zt), .unset] [(.int za)])) (fun t k => XS.iloadN X0.here hx rfl (Jvm.hb hby d2_0) rfl k) ?_
  refine own_go (B := s₁.setTop (mkF m 2 #[.val (.ref zb), .val (.int za), .val (.int zt), .val (.int za)] [])) (fun t k => XS.istoreN X0.here hx rfl (Jvm.hb hby d2_1) rfl (l' := #[.val (.ref zb), .val (.int za), .val (.int zt), .val (.int za)]) rfl k) ?_
  have L2 : ∀ (n : Nat) (Tj2 : State) (Lj2 : List Loc) (Xj2 : Stand p l e ({ frames := 0, cells := 0, slots := 0, locals := 0 } : Room) s m #[(.ref zb), (.int za), (.int zt)] below meth c Tj2 Lj2 0 0) (ej2 : Tj2.heap = h0) (Nj2 : Fr n0 Lj2) (vi : Int32) (hi0 : 0 ≤ vi.toInt) (hi1 : vi.toInt + n = zt.toInt ∨ (n = 0 ∧ zt.toInt ≤ vi.toInt)) (hi2 : (own_sk zf vi.toNatClampNeg n : Int) = zr.toInt), own_Goes p e below s (own_Q2 Z zb za zt zf zr h0 n0) ({ frames := 0, cells := 0, slots := 0, locals := 0 } : Room).cells ({ frames := 0, cells := 0, slots := 0, locals := 0 } : Room).slots (Tj2.setTop (mkF m 2 #[.val (.ref zb), .val (.int za), .val (.int zt), .val (.int vi)] [])) := by
    intro n
    induction n with
    | zero =>
      intro Tj2 Lj2 Xj2 ej2 Nj2 vi hi0 hi1 hi2
      refine own_go (B := Tj2.setTop (mkF m 3 #[.val (.ref zb), .val (.int za), .val (.int zt), .val (.int vi)] [(.int vi)])) (fun t k => XS.iloadN Xj2.here hx rfl (Jvm.hb hby d2_2) rfl k) ?_
      refine own_go (B := Tj2.setTop (mkF m 4 #[.val (.ref zb), .val (.int za), .val (.int zt), .val (.int vi)] [(.int zt), (.int vi)])) (fun t k => XS.iloadN Xj2.here hx rfl (Jvm.hb hby d2_3) rfl k) ?_
      refine own_go (B := Tj2.setTop (mkF m 29 #[.val (.ref zb), .val (.int za), .val (.int zt), .val (.int vi)] [])) (fun t k => XS.icmpYes Xj2.here hx rfl (pc0 := 4) (pc' := 29) rfl (Jvm.hb hby d2_4) rfl (flt (by rw [Int32.lt_iff_toInt_lt]; omega)).2.1 (by decide) (by decide) k) ?_
      refine own_go (B := Tj2.setTop (mkF m 30 #[.val (.ref zb), .val (.int za), .val (.int zt), .val (.int vi)] [(.int vi)])) (fun t k => XS.iloadN Xj2.here hx rfl (Jvm.hb hby d2_29) rfl k) ?_
      refine own_out Xj2 (v := (some (.int vi))) (fun h => by rw [Bd.returns] at h; cases h) Bd.notSynchronized (fun fs hr => retOut Xj2 hx (t := .int) Bd.returns rfl (Or.inl ⟨rfl, Or.inl rfl, _, rfl⟩) (Jvm.hb hby d2_30) hr) ?_ (by decide) (by decide)
      show own_Q2 Z zb za zt zf zr h0 n0 (some (.int vi)) Tj2.heap _
      rw [ej2]
      exact ⟨(by unfold own_sk at hi2; have := own_tn vi hi0; congr 2; apply Int32.toInt_inj.mp; omega), Nj2, rfl⟩
    | succ n ih =>
      intro Tj2 Lj2 Xj2 ej2 Nj2 vi hi0 hi1 hi2
      refine own_go (B := Tj2.setTop (mkF m 3 #[.val (.ref zb), .val (.int za), .val (.int zt), .val (.int vi)] [(.int vi)])) (fun t k => XS.iloadN Xj2.here hx rfl (Jvm.hb hby d2_2) rfl k) ?_
      refine own_go (B := Tj2.setTop (mkF m 4 #[.val (.ref zb), .val (.int za), .val (.int zt), .val (.int vi)] [(.int zt), (.int vi)])) (fun t k => XS.iloadN Xj2.here hx rfl (Jvm.hb hby d2_3) rfl k) ?_
      refine own_go (B := Tj2.setTop (mkF m 7 #[.val (.ref zb), .val (.int za), .val (.int zt), .val (.int vi)] [])) (fun t k => XS.icmpNo Xj2.here hx rfl (Jvm.hb hby d2_4) rfl (tlt (by rw [Int32.lt_iff_toInt_lt]; omega)).2.1 k) ?_
      refine own_go (B := Tj2.setTop (mkF m 8 #[.val (.ref zb), .val (.int za), .val (.int zt), .val (.int vi)] [(.ref zb)])) (fun t k => XS.aloadN Xj2.here hx rfl (Jvm.hb hby d2_7) rfl rfl k) ?_
      refine own_go (B := Tj2.setTop (mkF m 9 #[.val (.ref zb), .val (.int za), .val (.int zt), .val (.int vi)] [(.int vi), (.ref zb)])) (fun t k => XS.iloadN Xj2.here hx rfl (Jvm.hb hby d2_8) rfl k) ?_
      refine own_go (B := Tj2.setTop (mkF m 10 #[.val (.ref zb), .val (.int za), .val (.int zt), .val (.int vi)] [(.int (zf vi.toNatClampNeg))])) (fun t k => own_baload Xj2 hx hZ ej2 V_zb (j := vi) (k := vi.toNatClampNeg) (by rw [own_nn]; exact hi0) rfl (by have := own_tn vi hi0; omega) (Jvm.hb hby d2_9) t k) ?_
      refine own_go (B := Tj2.setTop (mkF m 12 #[.val (.ref zb), .val (.int za), .val (.int zt), .val (.int vi)] [(.int (48 : Int32)), (.int (zf vi.toNatClampNeg))])) (fun t k => XS.bipush Xj2.here hx rfl (Jvm.hb hby d2_10) k) ?_
      by_cases hc12_4 : (zf vi.toNatClampNeg) < (48 : Int32)
      · refine own_go (B := Tj2.setTop (mkF m 29 #[.val (.ref zb), .val (.int za), .val (.int zt), .val (.int vi)] [])) (fun t k => XS.icmpYes Xj2.here hx rfl (pc0 := 12) (pc' := 29) rfl (Jvm.hb hby d2_12) rfl (tlt hc12_4).1 (by decide) (by decide) k) ?_
        refine own_go (B := Tj2.setTop (mkF m 30 #[.val (.ref zb), .val (.int za), .val (.int zt), .val (.int vi)] [(.int vi)])) (fun t k => XS.iloadN Xj2.here hx rfl (Jvm.hb hby d2_29) rfl k) ?_
        refine own_out Xj2 (v := (some (.int vi))) (fun h => by rw [Bd.returns] at h; cases h) Bd.notSynchronized (fun fs hr => retOut Xj2 hx (t := .int) Bd.returns rfl (Or.inl ⟨rfl, Or.inl rfl, _, rfl⟩) (Jvm.hb hby d2_30) hr) ?_ (by decide) (by decide)
        show own_Q2 Z zb za zt zf zr h0 n0 (some (.int vi)) Tj2.heap _
        rw [ej2]
        exact ⟨(by unfold own_sk at hi2; rw [if_pos hc12_4] at hi2; have := own_tn vi hi0; congr 2; apply Int32.toInt_inj.mp; omega), Nj2, rfl⟩
      · refine own_go (B := Tj2.setTop (mkF m 15 #[.val (.ref zb), .val (.int za), .val (.int zt), .val (.int vi)] [])) (fun t k => XS.icmpNo Xj2.here hx rfl (Jvm.hb hby d2_12) rfl (flt hc12_4).1 k) ?_
        refine own_go (B := Tj2.setTop (mkF m 16 #[.val (.ref zb), .val (.int za), .val (.int zt), .val (.int vi)] [(.ref zb)])) (fun t k => XS.aloadN Xj2.here hx rfl (Jvm.hb hby d2_15) rfl rfl k) ?_
        refine own_go (B := Tj2.setTop (mkF m 17 #[.val (.ref zb), .val (.int za), .val (.int zt), .val (.int vi)] [(.int vi), (.ref zb)])) (fun t k => XS.iloadN Xj2.here hx rfl (Jvm.hb hby d2_16) rfl k) ?_
        refine own_go (B := Tj2.setTop (mkF m 18 #[.val (.ref zb), .val (.int za), .val (.int zt), .val (.int vi)] [(.int (zf vi.toNatClampNeg))])) (fun t k => own_baload Xj2 hx hZ ej2 V_zb (j := vi) (k := vi.toNatClampNeg) (by rw [own_nn]; exact hi0) rfl (by have := own_tn vi hi0; omega) (Jvm.hb hby d2_17) t k) ?_
        refine own_go (B := Tj2.setTop (mkF m 20 #[.val (.ref zb), .val (.int za), .val (.int zt), .val (.int vi)] [(.int (57 : Int32)), (.int (zf vi.toNatClampNeg))])) (fun t k => XS.bipush Xj2.here hx rfl (Jvm.hb hby d2_18) k) ?_
        by_cases hc20_5 : (57 : Int32) < (zf vi.toNatClampNeg)
        · refine own_go (B := Tj2.setTop (mkF m 29 #[.val (.ref zb), .val (.int za), .val (.int zt), .val (.int vi)] [])) (fun t k => XS.icmpYes Xj2.here hx rfl (pc0 := 20) (pc' := 29) rfl (Jvm.hb hby d2_20) rfl (tlt hc20_5).2.2.1 (by decide) (by decide) k) ?_
          refine own_go (B := Tj2.setTop (mkF m 30 #[.val (.ref zb), .val (.int za), .val (.int zt), .val (.int vi)] [(.int vi)])) (fun t k => XS.iloadN Xj2.here hx rfl (Jvm.hb hby d2_29) rfl k) ?_
          refine own_out Xj2 (v := (some (.int vi))) (fun h => by rw [Bd.returns] at h; cases h) Bd.notSynchronized (fun fs hr => retOut Xj2 hx (t := .int) Bd.returns rfl (Or.inl ⟨rfl, Or.inl rfl, _, rfl⟩) (Jvm.hb hby d2_30) hr) ?_ (by decide) (by decide)
          show own_Q2 Z zb za zt zf zr h0 n0 (some (.int vi)) Tj2.heap _
          rw [ej2]
          exact ⟨(by unfold own_sk at hi2; rw [if_neg hc12_4, if_pos hc20_5] at hi2; have := own_tn vi hi0; congr 2; apply Int32.toInt_inj.mp; omega), Nj2, rfl⟩
        · refine own_go (B := Tj2.setTop (mkF m 23 #[.val (.ref zb), .val (.int za), .val (.int zt), .val (.int vi)] [])) (fun t k => XS.icmpNo Xj2.here hx rfl (Jvm.hb hby d2_20) rfl (flt hc20_5).2.2.1 k) ?_
          refine own_go (B := Tj2.setTop (mkF m 26 #[.val (.ref zb), .val (.int za), .val (.int zt), .val (.int (vi + (1 : Int32)))] [])) (fun t k => XS.iinc Xj2.here hx rfl (Jvm.hb hby d2_23) rfl (l' := #[.val (.ref zb), .val (.int za), .val (.int zt), .val (.int (vi + (1 : Int32)))]) rfl k) ?_
          refine own_go (B := Tj2.setTop (mkF m 2 #[.val (.ref zb), .val (.int za), .val (.int zt), .val (.int (vi + (1 : Int32)))] [])) (fun t k => XS.goto Xj2.here hx rfl (pc0 := 26) (pc' := 2) rfl (Jvm.hb hby d2_26) (by decide) (by decide) k) ?_
          exact ih Tj2 _ Xj2 ej2 Nj2 (vi + (1 : Int32)) (by have := own_inc vi hi0 (by omega); omega) (by have := own_inc vi hi0 (by omega); omega) (by have e1 := own_inc vi hi0 (by omega); have e2 := own_tn vi hi0; have e3 := own_tn (vi + 1) (by omega); have e4 : (vi + 1).toNatClampNeg = vi.toNatClampNeg + 1 := (by omega); rw [e4]; unfold own_sk at hi2; rw [if_neg hc12_4, if_neg hc20_5] at hi2; exact hi2)
  exact L2 (zt.toInt - za.toInt).toNat s₁ _ X0 e0 N0 za ha0 (by omega) hr
def own_ir (f : Nat → Int32) (j : Int32) (k : Nat) (a r : Int32) : Int32 := if j < a then (1 : Int32) else if j < r then (if own_f3 (f k) = (0 : Int32) then (0 : Int32) else (1 : Int32)) else (1 : Int32)
theorem d4_0 : decode method_4_code 0 = .ok (.iload_n 2, 1) := by decide +kernel
theorem d4_1 : decode method_4_code 1 = .ok (.iload_n 1, 1) := by decide +kernel
theorem d4_2 : decode method_4_code 2 = .ok (.if_icmp .gt 17, 3) := by decide +kernel
theorem d4_5 : decode method_4_code 5 = .ok (.iload_n 1, 1) := by decide +kernel
theorem d4_6 : decode method_4_code 6 = .ok (.iload_n 3, 1) := by decide +kernel
theorem d4_7 : decode method_4_code 7 = .ok (.if_icmp .ge 12, 3) := by decide +kernel
theorem d4_10 : decode method_4_code 10 = .ok (.aload_n 0, 1) := by decide +kernel
theorem d4_11 : decode method_4_code 11 = .ok (.iload_n 1, 1) := by decide +kernel
theorem d4_12 : decode method_4_code 12 = .ok (.baload, 1) := by decide +kernel
theorem d4_13 : decode method_4_code 13 = .ok (.invokestatic 7, 3) := by decide +kernel
theorem d4_16 : decode method_4_code 16 = .ok (.ifCond .eq 7, 3) := by decide +kernel
theorem d4_19 : decode method_4_code 19 = .ok (.iconst 1, 1) := by decide +kernel
theorem d4_20 : decode method_4_code 20 = .ok (.goto 4, 3) := by decide +kernel
theorem d4_23 : decode method_4_code 23 = .ok (.iconst 0, 1) := by decide +kernel
theorem d4_24 : decode method_4_code 24 = .ok (.ireturn, 1) := by decide +kernel
theorem pd_0 : parseMethodDescriptor "(B)Z" = some ⟨[.byte], some .boolean⟩ := by decide +kernel
theorem ef_4 (m : MethodId) (x0 : Addr) (x1 : Int32) (x2 : Int32) (x3 : Int32) : entryFrame m #[(.ref x0), (.int x1), (.int x2), (.int x3)] 4 = mkF m 0 #[.val (.ref x0), .val (.int x1), .val (.int x2), .val (.int x3)] [] := by first | (simp [entryFrame, mkF, argsToLocals, Value.category]; done) | rfl
def own_Q4 (Z : State) (zb : Addr) (zj : Int32) (za : Int32) (zr : Int32) (zf : Nat → Int32) (zk : Nat) (h0 : Heap) (n0 : Nat) (v : Option Value) (h : Heap) (L : List Loc) : Prop := v = some (.int (own_ir zf zj zk za zr)) ∧ Fr n0 L ∧ h = h0
set_option maxRecDepth 65536 in
set_option maxHeartbeats 40000000 in
theorem rm4 (l : Launch) (Z : State) (a0 : Array Value) (hw : ∀ d ∈ tables_1, d.before a0 Z = true) (ws : List Jvm.Cond) (zb : Addr) (zj : Int32) (za : Int32) (zr : Int32) (zf : Nat → Int32) (zk : Nat) (h0 : Heap) (n0 : Nat) (Z0 : n0 ≤ h0.size) (V_zb : own_IA Z h0 zb .byte 5 zf) (hj0 : ¬ (zj < (0 : Int32))) (hj1 : zj.toNatClampNeg = zk) (hj2 : zk < 5) :
    MetFree l (⟨"com/example/serra/serra/input/LineFieldsSkipDigitsPinLaw", "inRunIsDigit", "([BIII)Z"⟩ : MethodName) (head1 (Jvm.Cond.code (⟨"com/example/serra/serra/input/LineFieldsSkipDigitsPinLaw", "inRunIsDigit", "([BIII)Z"⟩ : MethodName) method_4_code 4 (some .boolean) :: ws) ({ frames := 1, cells := 0, slots := 0, locals := 12 } : Room)) (fun a U => a = #[(.ref zb), (.int zj), (.int za), (.int zr)] ∧ Z.Warmed39 U.vm ∧ U.heap = h0) (fun _ _ _ _ _ => True) (fun _ U o U' => ∃ v L, o = .returned v ∧ own_Q4 Z zb zj za zr zf zk h0 n0 v U'.heap L ∧ FrameEnd U o U' L ({ frames := 1, cells := 0, slots := 0, locals := 12 } : Room).cells ({ frames := 1, cells := 0, slots := 0, locals := 12 } : Room).slots) := by
  refine MetFree.of_bodySF (plainFor_of_name pn_com_example_serra_serra_input_LineFieldsSkipDigitsPinLaw) hisR ?_
  intro p e s m args below meth c s₁ Bd hml0 hP hK
  obtain ⟨rfl, hZ, hh⟩ := hP
  have hx := Bd.exec
  have hby := Bd.bytes
  have hml : c.maxLocals = 4 := hml0
  have hown : s.vm.findClass "com/example/serra/serra/input/LineFieldsSkipDigitsPinLaw" = some m.cls := findClass_of_methodNamed Bd.named
  have hnm := (name_of_methodNamed Bd.named Bd.method).1
  have X0 : Stand p l e ({ frames := 1, cells := 0, slots := 0, locals := 12 } : Room) s m #[(.ref zb), (.int zj), (.int za), (.int zr)] below meth c s₁ [] 0 0 := Stand.of_body Bd
  have e0 : s₁.heap = h0 := by rw [← hh, Bd.state]; rfl
  have N0 := Fr.nil n0
  have Zs := Z0
  show own_Goes p e below s (own_Q4 Z zb zj za zr zf zk h0 n0) ({ frames := 1, cells := 0, slots := 0, locals := 12 } : Room).cells ({ frames := 1, cells := 0, slots := 0, locals := 12 } : Room).slots _
  refine own_go (B := s₁.setTop (mkF m 0 #[.val (.ref zb), .val (.int zj), .val (.int za), .val (.int zr)] [])) (fun t k => castTop (ef_4 m zb zj za zr) k) ?_
  refine own_go (B := s₁.setTop (mkF m 1 #[.val (.ref zb), .val (.int zj), .val (.int za), .val (.int zr)] [(.int za)])) (fun t k => XS.iloadN X0.here hx rfl (Jvm.hb hby d4_0) rfl k) ?_
  refine own_go (B := s₁.setTop (mkF m 2 #[.val (.ref zb), .val (.int zj), .val (.int za), .val (.int zr)] [(.int zj), (.int za)])) (fun t k => XS.iloadN X0.here hx rfl (Jvm.hb hby d4_1) rfl k) ?_
  by_cases hc2_6 : zj < za
  · refine own_go (B := s₁.setTop (mkF m 19 #[.val (.ref zb), .val (.int zj), .val (.int za), .val (.int zr)] [])) (fun t k => XS.icmpYes X0.here hx rfl (pc0 := 2) (pc' := 19) rfl (Jvm.hb hby d4_2) rfl (tlt hc2_6).2.2.1 (by decide) (by decide) k) ?_
    refine own_go (B := s₁.setTop (mkF m 20 #[.val (.ref zb), .val (.int zj), .val (.int za), .val (.int zr)] [(.int (1 : Int32))])) (fun t k => XS.iconst X0.here hx rfl (Jvm.hb hby d4_19) k) ?_
    refine own_go (B := s₁.setTop (mkF m 24 #[.val (.ref zb), .val (.int zj), .val (.int za), .val (.int zr)] [(.int (1 : Int32))])) (fun t k => XS.goto X0.here hx rfl (pc0 := 20) (pc' := 24) rfl (Jvm.hb hby d4_20) (by decide) (by decide) k) ?_
    refine own_out X0 (v := (some (.int (1 : Int32)))) (fun h => by rw [Bd.returns] at h; cases h) Bd.notSynchronized (fun fs hr => retOut X0 hx (t := .boolean) Bd.returns rfl (by first | exact Or.inl ⟨rfl, by simp, _, rfl⟩) (Jvm.hb hby d4_24) hr) ?_ (by decide) (by decide)
    show own_Q4 Z zb zj za zr zf zk h0 n0 (some (.int (1 : Int32))) s₁.heap _
    rw [e0]
    exact ⟨(by unfold own_ir; rw [if_pos hc2_6]), N0, rfl⟩
  · refine own_go (B := s₁.setTop (mkF m 5 #[.val (.ref zb), .val (.int zj), .val (.int za), .val (.int zr)] [])) (fun t k => XS.icmpNo X0.here hx rfl (Jvm.hb hby d4_2) rfl (flt hc2_6).2.2.1 k) ?_
    refine own_go (B := s₁.setTop (mkF m 6 #[.val (.ref zb), .val (.int zj), .val (.int za), .val (.int zr)] [(.int zj)])) (fun t k => XS.iloadN X0.here hx rfl (Jvm.hb hby d4_5) rfl k) ?_
    refine own_go (B := s₁.setTop (mkF m 7 #[.val (.ref zb), .val (.int zj), .val (.int za), .val (.int zr)] [(.int zr), (.int zj)])) (fun t k => XS.iloadN X0.here hx rfl (Jvm.hb hby d4_6) rfl k) ?_
    by_cases hc7_7 : zj < zr
    · refine own_go (B := s₁.setTop (mkF m 10 #[.val (.ref zb), .val (.int zj), .val (.int za), .val (.int zr)] [])) (fun t k => XS.icmpNo X0.here hx rfl (Jvm.hb hby d4_7) rfl (tlt hc7_7).2.1 k) ?_
      refine own_go (B := s₁.setTop (mkF m 11 #[.val (.ref zb), .val (.int zj), .val (.int za), .val (.int zr)] [(.ref zb)])) (fun t k => XS.aloadN X0.here hx rfl (Jvm.hb hby d4_10) rfl rfl k) ?_
      refine own_go (B := s₁.setTop (mkF m 12 #[.val (.ref zb), .val (.int zj), .val (.int za), .val (.int zr)] [(.int zj), (.ref zb)])) (fun t k => XS.iloadN X0.here hx rfl (Jvm.hb hby d4_11) rfl k) ?_
      refine own_go (B := s₁.setTop (mkF m 13 #[.val (.ref zb), .val (.int zj), .val (.int za), .val (.int zr)] [(.int (zf zk))])) (fun t k => own_baload X0 hx hZ e0 V_zb (j := zj) (k := zk) hj0 hj1 hj2 (Jvm.hb hby d4_12) t k) ?_
      obtain ⟨_, _, ⟨T8, La8, ka8, na8⟩, -, X8, ⟨Lc8, hQ8, l8, y8, z8⟩, st8⟩ := Jvm.LawKit.callS X0 hx (y := (⟨"com/example/serra/serra/input/LineFieldsSkipDigitsPinLaw", "d", "(B)Z"⟩ : MethodName)) hown (mvT hZ (own_w hw 10 rfl)) (mvT hZ (own_w hw 11 rfl)) (mvT hZ (own_w hw 3 rfl)) (mvT hZ (own_w hw 12 rfl)) (by decide) (backOf (W := 0) (rm3 l Z a0 hw [] (zf zk) h0 n0 Zs) hZ (own_w hw 12 rfl) (own_w hw 3 rfl) (by decide) (by decide)) (g := (mkF m 13 #[.val (.ref zb), .val (.int zj), .val (.int za), .val (.int zr)] [(.int (zf zk))])) rfl (by rw [hml]; rfl) (argsL := [(.int (zf zk))]) (rest := []) (lenOf pd_0 rfl) rfl (by show 2 * 0 + _ ≤ _; exact Nat.le_of_eq rfl) (Jvm.hb hby d4_13) (fun _ _ => ⟨rfl, e0, (by decide : 0 + 0 ≤ _), (by decide : 0 + 0 ≤ _)⟩)
      dsimp only [Pt.U, Pt.locs, Pt.cells, Pt.slots] at X8 l8 y8 z8 st8 hQ8
      subst l8 y8 z8
      obtain ⟨rfl, N8q, e8⟩ := hQ8
      have N8 := Fr.app N0 N8q
      refine own_go (B := T8.setTop (mkF m 16 #[.val (.ref zb), .val (.int zj), .val (.int za), .val (.int zr)] [(.int (own_f3 (zf zk)))])) (fun t k => st8 _ k) ?_
      by_cases hc16_9 : (own_f3 (zf zk)) = (0 : Int32)
      · refine own_go (B := T8.setTop (mkF m 23 #[.val (.ref zb), .val (.int zj), .val (.int za), .val (.int zr)] [])) (fun t k => XS.ifYes X8.here hx rfl (pc0 := 16) (pc' := 23) rfl (Jvm.hb hby d4_16) rfl ((if0 _ _).trans (teq hc16_9).1) (by decide) (by decide) k) ?_
        refine own_go (B := T8.setTop (mkF m 24 #[.val (.ref zb), .val (.int zj), .val (.int za), .val (.int zr)] [(.int (0 : Int32))])) (fun t k => XS.iconst X8.here hx rfl (Jvm.hb hby d4_23) k) ?_
        refine own_out X8 (v := (some (.int (0 : Int32)))) (fun h => by rw [Bd.returns] at h; cases h) Bd.notSynchronized (fun fs hr => retOut X8 hx (t := .boolean) Bd.returns rfl (by first | exact Or.inl ⟨rfl, by simp, _, rfl⟩) (Jvm.hb hby d4_24) hr) ?_ (by decide) (by decide)
        show own_Q4 Z zb zj za zr zf zk h0 n0 (some (.int (0 : Int32))) T8.heap _
        rw [e8]
        exact ⟨(by unfold own_ir; rw [if_neg hc2_6, if_pos hc7_7, if_pos hc16_9]), N8, rfl⟩
      · refine own_go (B := T8.setTop (mkF m 19 #[.val (.ref zb), .val (.int zj), .val (.int za), .val (.int zr)] [])) (fun t k => XS.ifNo X8.here hx rfl (Jvm.hb hby d4_16) rfl ((if0 _ _).trans (feq hc16_9).1) k) ?_
        refine own_go (B := T8.setTop (mkF m 20 #[.val (.ref zb), .val (.int zj), .val (.int za), .val (.int zr)] [(.int (1 : Int32))])) (fun t k => XS.iconst X8.here hx rfl (Jvm.hb hby d4_19) k) ?_
        refine own_go (B := T8.setTop (mkF m 24 #[.val (.ref zb), .val (.int zj), .val (.int za), .val (.int zr)] [(.int (1 : Int32))])) (fun t k => XS.goto X8.here hx rfl (pc0 := 20) (pc' := 24) rfl (Jvm.hb hby d4_20) (by decide) (by decide) k) ?_
        refine own_out X8 (v := (some (.int (1 : Int32)))) (fun h => by rw [Bd.returns] at h; cases h) Bd.notSynchronized (fun fs hr => retOut X8 hx (t := .boolean) Bd.returns rfl (by first | exact Or.inl ⟨rfl, by simp, _, rfl⟩) (Jvm.hb hby d4_24) hr) ?_ (by decide) (by decide)
        show own_Q4 Z zb zj za zr zf zk h0 n0 (some (.int (1 : Int32))) T8.heap _
        rw [e8]
        exact ⟨(by unfold own_ir; rw [if_neg hc2_6, if_pos hc7_7, if_neg hc16_9]), N8, rfl⟩
    · refine own_go (B := s₁.setTop (mkF m 19 #[.val (.ref zb), .val (.int zj), .val (.int za), .val (.int zr)] [])) (fun t k => XS.icmpYes X0.here hx rfl (pc0 := 7) (pc' := 19) rfl (Jvm.hb hby d4_7) rfl (flt hc7_7).2.1 (by decide) (by decide) k) ?_
      refine own_go (B := s₁.setTop (mkF m 20 #[.val (.ref zb), .val (.int zj), .val (.int za), .val (.int zr)] [(.int (1 : Int32))])) (fun t k => XS.iconst X0.here hx rfl (Jvm.hb hby d4_19) k) ?_
      refine own_go (B := s₁.setTop (mkF m 24 #[.val (.ref zb), .val (.int zj), .val (.int za), .val (.int zr)] [(.int (1 : Int32))])) (fun t k => XS.goto X0.here hx rfl (pc0 := 20) (pc' := 24) rfl (Jvm.hb hby d4_20) (by decide) (by decide) k) ?_
      refine own_out X0 (v := (some (.int (1 : Int32)))) (fun h => by rw [Bd.returns] at h; cases h) Bd.notSynchronized (fun fs hr => retOut X0 hx (t := .boolean) Bd.returns rfl (by first | exact Or.inl ⟨rfl, by simp, _, rfl⟩) (Jvm.hb hby d4_24) hr) ?_ (by decide) (by decide)
      show own_Q4 Z zb zj za zr zf zk h0 n0 (some (.int (1 : Int32))) s₁.heap _
      rw [e0]
      exact ⟨(by unfold own_ir; rw [if_neg hc2_6, if_neg hc7_7]), N0, rfl⟩
theorem own_ir1 (f : Nat → Int32) (j : Int32) (k : Nat) (a r : Int32) (hj : j.toInt = k) (ha : 0 ≤ a.toInt) (n : Nat) (hr : (own_sk f a.toNatClampNeg n : Int) = r.toInt) : own_ir f j k a r = 1 := by
  unfold own_ir
  by_cases c1 : j < a
  · rw [if_pos c1]
  · rw [if_neg c1]
    by_cases c2 : j < r
    · rw [if_pos c2]
      rw [Int32.lt_iff_toInt_lt] at c1 c2
      have e := own_tn a ha
      rw [own_sk_in f n a.toNatClampNeg k (by omega) (by omega), if_neg (by decide)]
    · rw [if_neg c2]
theorem own_m6 (x m : Int32) (h : m = (x &&& (2147483647 : Int32)) % (6 : Int32)) : 0 ≤ m.toInt ∧ m.toInt ≤ 5 := by
  have h1 := c_and x 2147483647 (by decide)
  have h2 := (c_irem (x &&& (2147483647 : Int32)) 6 6 rfl).1 h1.1
  rw [← h] at h2; omega
theorem own_r (f : Nat → Int32) (a t : Int32) (ha : 0 ≤ a.toInt ∧ a.toInt ≤ 5) (ht : 0 ≤ t.toInt ∧ t.toInt ≤ 5) : ∃ r : Int32, (own_sk f a.toNatClampNeg (t.toInt - a.toInt).toNat : Int) = r.toInt ∧ a.toInt ≤ r.toInt ∧ (r.toInt ≤ t.toInt ∨ r = a) ∧ (t.toInt ≤ a.toInt → r = a) ∧ 0 ≤ r.toInt := by
  have h := own_sk_le f (t.toInt - a.toInt).toNat a.toNatClampNeg
  have e := own_tn a ha.1
  refine ⟨Int32.ofNat (own_sk f a.toNatClampNeg (t.toInt - a.toInt).toNat), ?_⟩
  have q : (Int32.ofNat (own_sk f a.toNatClampNeg (t.toInt - a.toInt).toNat)).toInt = own_sk f a.toNatClampNeg (t.toInt - a.toInt).toNat := Int32.toInt_ofNat_of_lt (by omega)
  refine ⟨q.symm, by omega, ?_, ?_, by omega⟩
  · by_cases g : t.toInt ≤ a.toInt
    · right; apply Int32.toInt_inj.mp; omega
    · left; omega
  · intro g; apply Int32.toInt_inj.mp; omega
theorem own_fin (f : Nat → Int32) (a t r : Int32) (ha : 0 ≤ a.toInt ∧ a.toInt ≤ 5) (h0 : 0 ≤ r.toInt) (hat : a.toInt < t.toInt) (hr : (own_sk f a.toNatClampNeg (t.toInt - a.toInt).toNat : Int) = r.toInt) (hne : ¬ (r = t)) : own_f3 (f r.toNatClampNeg) = 0 := by
  have e := own_tn a ha.1
  have e2 := own_tn r h0
  rcases own_sk_end f (t.toInt - a.toInt).toNat a.toNatClampNeg with h | h
  · exact absurd (Int32.toInt_inj.mp (by omega)) hne
  · have q : own_sk f a.toNatClampNeg (t.toInt - a.toInt).toNat = r.toNatClampNeg := by omega
    rw [q] at h; exact h
theorem pd_1 : parseMethodDescriptor "(JI)B" = some ⟨[.long, .int], some .byte⟩ := by decide +kernel
theorem pd_2 : parseMethodDescriptor "([BII)I" = some ⟨[(.array .byte), .int, .int], some .int⟩ := by decide +kernel
theorem pd_3 : parseMethodDescriptor "([BIII)Z" = some ⟨[(.array .byte), .int, .int, .int], some .boolean⟩ := by decide +kernel
theorem ef_0 (m : MethodId) (x0 : Int64) (x1 : Int32) (x2 : Int32) : entryFrame m #[(.long x0), (.int x1), (.int x2)] maxLocals = mkF m 0 #[.val (.long x0), .second, .val (.int x1), .val (.int x2), .unset, .unset, .unset, .unset, .unset] [] := by first | (simp [entryFrame, mkF, argsToLocals, Value.category, maxLocals]; done) | rfl
def own_Q0 (Z : State) (q1 : Int64) (p2 : Int32) (p3 : Int32) (h0 : Heap) (n0 : Nat) (v : Option Value) (h : Heap) (L : List Loc) : Prop := v = some (.int 1) ∧ Fr n0 L
set_option maxRecDepth 65536 in
set_option maxHeartbeats 40000000 in
theorem rm0 (l : Launch) (Z : State) (a0 : Array Value) (hw : ∀ d ∈ tables_1, d.before a0 Z = true) (ws : List Jvm.Cond) (q1 : Int64) (p2 : Int32) (p3 : Int32) (h0 : Heap) (n0 : Nat) (Z0 : n0 ≤ h0.size)  :
    MetFree l x (head1 (Jvm.Cond.code x code maxLocals ret :: ws) room_1) (fun a U => a = #[(.long q1), (.int p2), (.int p3)] ∧ Z.Warmed39 U.vm ∧ U.heap = h0) (fun _ _ _ _ _ => True) (fun _ U o U' => ∃ v L, o = .returned v ∧ own_Q0 Z q1 p2 p3 h0 n0 v U'.heap L ∧ FrameEnd U o U' L room_1.cells room_1.slots) := by
  refine MetFree.of_bodySF (plainFor_of_name pn_com_example_serra_serra_input_LineFieldsSkipDigitsPinLaw) hisR ?_
  intro p e s m args below meth c s₁ Bd hml0 hP hK
  obtain ⟨rfl, hZ, hh⟩ := hP
  have hx := Bd.exec
  have hby := Bd.bytes
  have hml : c.maxLocals = 9 := hml0
  have hown : s.vm.findClass "com/example/serra/serra/input/LineFieldsSkipDigitsPinLaw" = some m.cls := findClass_of_methodNamed Bd.named
  have hnm := (name_of_methodNamed Bd.named Bd.method).1
  have X0 : Stand p l e room_1 s m #[(.long q1), (.int p2), (.int p3)] below meth c s₁ [] 0 0 := Stand.of_body Bd
  have e0 : s₁.heap = h0 := by rw [← hh, Bd.state]; rfl
  have N0 := Fr.nil n0
  have Zs := Z0
  show own_Goes p e below s (own_Q0 Z q1 p2 p3 h0 n0) room_1.cells room_1.slots _
  refine own_go (B := s₁.setTop (mkF m 0 #[.val (.long q1), .second, .val (.int p2), .val (.int p3), .unset, .unset, .unset, .unset, .unset] [])) (fun t k => castTop (ef_0 m q1 p2 p3) k) ?_
  refine own_go (B := s₁.setTop (mkF m 1 #[.val (.long q1), .second, .val (.int p2), .val (.int p3), .unset, .unset, .unset, .unset, .unset] [(.int (5 : Int32))])) (fun t k => XS.iconst X0.here hx rfl (Jvm.hb hby at_0) k) ?_
  obtain ⟨T10, h10, k10, X10, e10, E10, A10, st10⟩ := newP X0 hx hZ (own_w hw 0 rfl) e0 (g := (mkF m 1 #[.val (.long q1), .second, .val (.int p2), .val (.int p3), .unset, .unset, .unset, .unset, .unset] [(.int (5 : Int32))])) rfl (Jvm.hb hby at_1) rfl (by decide) (cap := 5) (by decide) (by decide) (by decide) (by decide)
  obtain ⟨b10, g10⟩ : ∃ z, z = h0.size := ⟨_, rfl⟩
  rw [← g10] at A10 st10
  have g_b10 : n0 ≤ b10 := Nat.le_trans Zs (Nat.le_of_eq g10.symm)
  have Zs := Nat.le_trans Zs E10.1
  have V_b10 : own_IA Z h10 b10 .byte 5 (fun _ => 0) := own_Inew A10 (by decide) rfl
  refine own_go (B := T10.setTop (mkF m 3 #[.val (.long q1), .second, .val (.int p2), .val (.int p3), .unset, .unset, .unset, .unset, .unset] [(.ref b10)])) (fun t k => st10 _ k) ?_
  refine own_go (B := T10.setTop (mkF m 5 #[.val (.long q1), .second, .val (.int p2), .val (.int p3), .val (.ref b10), .unset, .unset, .unset, .unset] [])) (fun t k => XS.astore X10.here hx rfl (Jvm.hb hby at_3) rfl rfl (l' := #[.val (.long q1), .second, .val (.int p2), .val (.int p3), .val (.ref b10), .unset, .unset, .unset, .unset]) rfl k) ?_
  refine own_go (B := T10.setTop (mkF m 7 #[.val (.long q1), .second, .val (.int p2), .val (.int p3), .val (.ref b10), .unset, .unset, .unset, .unset] [(.ref b10)])) (fun t k => XS.aload X10.here hx rfl (Jvm.hb hby at_5) rfl rfl k) ?_
  refine own_go (B := T10.setTop (mkF m 8 #[.val (.long q1), .second, .val (.int p2), .val (.int p3), .val (.ref b10), .unset, .unset, .unset, .unset] [(.int (0 : Int32)), (.ref b10)])) (fun t k => XS.iconst X10.here hx rfl (Jvm.hb hby at_7) k) ?_
  refine own_go (B := T10.setTop (mkF m 9 #[.val (.long q1), .second, .val (.int p2), .val (.int p3), .val (.ref b10), .unset, .unset, .unset, .unset] [(.long q1), (.int (0 : Int32)), (.ref b10)])) (fun t k => XS.lloadN X10.here hx rfl (Jvm.hb hby at_8) rfl k) ?_
  refine own_go (B := T10.setTop (mkF m 10 #[.val (.long q1), .second, .val (.int p2), .val (.int p3), .val (.ref b10), .unset, .unset, .unset, .unset] [(.int (0 : Int32)), (.long q1), (.int (0 : Int32)), (.ref b10)])) (fun t k => XS.iconst X10.here hx rfl (Jvm.hb hby at_9) k) ?_
  obtain ⟨_, _, ⟨T11, La11, ka11, na11⟩, -, X11, ⟨Lc11, hQ11, l11, y11, z11⟩, st11⟩ := Jvm.LawKit.callS X10 hx (y := (⟨"com/example/serra/serra/input/LineFieldsSkipDigitsPinLaw", "mk", "(JI)B"⟩ : MethodName)) hown (mvT hZ (own_w hw 1 rfl)) (mvT hZ (own_w hw 2 rfl)) (mvT hZ (own_w hw 3 rfl)) (mvT hZ (own_w hw 4 rfl)) (by decide) (backOf (W := 2) (rm1 l Z a0 hw [] q1 (0 : Int32) h10 n0 Zs) hZ (own_w hw 4 rfl) (own_w hw 3 rfl) (by decide) (by decide)) (g := (mkF m 10 #[.val (.long q1), .second, .val (.int p2), .val (.int p3), .val (.ref b10), .unset, .unset, .unset, .unset] [(.int (0 : Int32)), (.long q1), (.int (0 : Int32)), (.ref b10)])) rfl (by rw [hml]; rfl) (argsL := [(.long q1), (.int (0 : Int32))]) (rest := [(.int (0 : Int32)), (.ref b10)]) (lenOf pd_1 rfl) rfl (by show 2 * 0 + _ ≤ _; exact Nat.le_of_eq rfl) (Jvm.hb hby at_10) (fun _ _ => ⟨rfl, e10, (by decide : 1 + 0 ≤ _), (by decide : 5 + 0 ≤ _)⟩)
  dsimp only [Pt.U, Pt.locs, Pt.cells, Pt.slots] at X11 l11 y11 z11 st11 hQ11
  subst l11 y11 z11
  obtain ⟨rfl, N11q, e11⟩ := hQ11
  have N11 := Fr.app N0 N11q
  refine own_go (B := T11.setTop (mkF m 13 #[.val (.long q1), .second, .val (.int p2), .val (.int p3), .val (.ref b10), .unset, .unset, .unset, .unset] [(.int (own_mk q1 (0 : Int32))), (.int (0 : Int32)), (.ref b10)])) (fun t k => st11 _ k) ?_
  obtain ⟨vb0, hvb0⟩ : ∃ z : Int32, z = (own_mk q1 (0 : Int32)) := ⟨_, rfl⟩
  rw [← hvb0]
  obtain ⟨T12, h12, X12, e12, W12, V12, st12⟩ := own_bastore X11 hx hZ e11 V_b10 (j := (0 : Int32)) (k := 0) (by decide) (by decide) (by decide) (g := (mkF m 13 #[.val (.long q1), .second, .val (.int p2), .val (.int p3), .val (.ref b10), .unset, .unset, .unset, .unset] [(.int vb0), (.int (0 : Int32)), (.ref b10)])) rfl rfl (Jvm.hb hby at_13)
  have N12 := Fr.snoc X12 N11 g_b10
  have Zs := Nat.le_trans Zs (Keep.of_wr W12).1
  have V_b10 := V12
  refine own_go (B := T12.setTop (mkF m 14 #[.val (.long q1), .second, .val (.int p2), .val (.int p3), .val (.ref b10), .unset, .unset, .unset, .unset] [])) (fun t k => st12 _ k) ?_
  refine own_go (B := T12.setTop (mkF m 16 #[.val (.long q1), .second, .val (.int p2), .val (.int p3), .val (.ref b10), .unset, .unset, .unset, .unset] [(.ref b10)])) (fun t k => XS.aload X12.here hx rfl (Jvm.hb hby at_14) rfl rfl k) ?_
  refine own_go (B := T12.setTop (mkF m 17 #[.val (.long q1), .second, .val (.int p2), .val (.int p3), .val (.ref b10), .unset, .unset, .unset, .unset] [(.int (1 : Int32)), (.ref b10)])) (fun t k => XS.iconst X12.here hx rfl (Jvm.hb hby at_16) k) ?_
  refine own_go (B := T12.setTop (mkF m 18 #[.val (.long q1), .second, .val (.int p2), .val (.int p3), .val (.ref b10), .unset, .unset, .unset, .unset] [(.long q1), (.int (1 : Int32)), (.ref b10)])) (fun t k => XS.lloadN X12.here hx rfl (Jvm.hb hby at_17) rfl k) ?_
  refine own_go (B := T12.setTop (mkF m 19 #[.val (.long q1), .second, .val (.int p2), .val (.int p3), .val (.ref b10), .unset, .unset, .unset, .unset] [(.int (1 : Int32)), (.long q1), (.int (1 : Int32)), (.ref b10)])) (fun t k => XS.iconst X12.here hx rfl (Jvm.hb hby at_18) k) ?_
  obtain ⟨_, _, ⟨T13, La13, ka13, na13⟩, -, X13, ⟨Lc13, hQ13, l13, y13, z13⟩, st13⟩ := Jvm.LawKit.callS X12 hx (y := (⟨"com/example/serra/serra/input/LineFieldsSkipDigitsPinLaw", "mk", "(JI)B"⟩ : MethodName)) hown (mvT hZ (own_w hw 1 rfl)) (mvT hZ (own_w hw 2 rfl)) (mvT hZ (own_w hw 3 rfl)) (mvT hZ (own_w hw 4 rfl)) (by decide) (backOf (W := 2) (rm1 l Z a0 hw [] q1 (1 : Int32) h12 n0 Zs) hZ (own_w hw 4 rfl) (own_w hw 3 rfl) (by decide) (by decide)) (g := (mkF m 19 #[.val (.long q1), .second, .val (.int p2), .val (.int p3), .val (.ref b10), .unset, .unset, .unset, .unset] [(.int (1 : Int32)), (.long q1), (.int (1 : Int32)), (.ref b10)])) rfl (by rw [hml]; rfl) (argsL := [(.long q1), (.int (1 : Int32))]) (rest := [(.int (1 : Int32)), (.ref b10)]) (lenOf pd_1 rfl) rfl (by show 2 * 0 + _ ≤ _; exact Nat.le_of_eq rfl) (Jvm.hb hby at_19) (fun _ _ => ⟨rfl, e12, (by decide : 1 + 0 ≤ _), (by decide : 5 + 0 ≤ _)⟩)
  dsimp only [Pt.U, Pt.locs, Pt.cells, Pt.slots] at X13 l13 y13 z13 st13 hQ13
  subst l13 y13 z13
  obtain ⟨rfl, N13q, e13⟩ := hQ13
  have N13 := Fr.app N12 N13q
  refine own_go (B := T13.setTop (mkF m 22 #[.val (.long q1), .second, .val (.int p2), .val (.int p3), .val (.ref b10), .unset, .unset, .unset, .unset] [(.int (own_mk q1 (1 : Int32))), (.int (1 : Int32)), (.ref b10)])) (fun t k => st13 _ k) ?_
  obtain ⟨vb1, hvb1⟩ : ∃ z : Int32, z = (own_mk q1 (1 : Int32)) := ⟨_, rfl⟩
  rw [← hvb1]
  obtain ⟨T14, h14, X14, e14, W14, V14, st14⟩ := own_bastore X13 hx hZ e13 V_b10 (j := (1 : Int32)) (k := 1) (by decide) (by decide) (by decide) (g := (mkF m 22 #[.val (.long q1), .second, .val (.int p2), .val (.int p3), .val (.ref b10), .unset, .unset, .unset, .unset] [(.int vb1), (.int (1 : Int32)), (.ref b10)])) rfl rfl (Jvm.hb hby at_22)
  have N14 := Fr.snoc X14 N13 g_b10
  have Zs := Nat.le_trans Zs (Keep.of_wr W14).1
  have V_b10 := V14
  refine own_go (B := T14.setTop (mkF m 23 #[.val (.long q1), .second, .val (.int p2), .val (.int p3), .val (.ref b10), .unset, .unset, .unset, .unset] [])) (fun t k => st14 _ k) ?_
  refine own_go (B := T14.setTop (mkF m 25 #[.val (.long q1), .second, .val (.int p2), .val (.int p3), .val (.ref b10), .unset, .unset, .unset, .unset] [(.ref b10)])) (fun t k => XS.aload X14.here hx rfl (Jvm.hb hby at_23) rfl rfl k) ?_
  refine own_go (B := T14.setTop (mkF m 26 #[.val (.long q1), .second, .val (.int p2), .val (.int p3), .val (.ref b10), .unset, .unset, .unset, .unset] [(.int (2 : Int32)), (.ref b10)])) (fun t k => XS.iconst X14.here hx rfl (Jvm.hb hby at_25) k) ?_
  refine own_go (B := T14.setTop (mkF m 27 #[.val (.long q1), .second, .val (.int p2), .val (.int p3), .val (.ref b10), .unset, .unset, .unset, .unset] [(.long q1), (.int (2 : Int32)), (.ref b10)])) (fun t k => XS.lloadN X14.here hx rfl (Jvm.hb hby at_26) rfl k) ?_
  refine own_go (B := T14.setTop (mkF m 28 #[.val (.long q1), .second, .val (.int p2), .val (.int p3), .val (.ref b10), .unset, .unset, .unset, .unset] [(.int (2 : Int32)), (.long q1), (.int (2 : Int32)), (.ref b10)])) (fun t k => XS.iconst X14.here hx rfl (Jvm.hb hby at_27) k) ?_
  obtain ⟨_, _, ⟨T15, La15, ka15, na15⟩, -, X15, ⟨Lc15, hQ15, l15, y15, z15⟩, st15⟩ := Jvm.LawKit.callS X14 hx (y := (⟨"com/example/serra/serra/input/LineFieldsSkipDigitsPinLaw", "mk", "(JI)B"⟩ : MethodName)) hown (mvT hZ (own_w hw 1 rfl)) (mvT hZ (own_w hw 2 rfl)) (mvT hZ (own_w hw 3 rfl)) (mvT hZ (own_w hw 4 rfl)) (by decide) (backOf (W := 2) (rm1 l Z a0 hw [] q1 (2 : Int32) h14 n0 Zs) hZ (own_w hw 4 rfl) (own_w hw 3 rfl) (by decide) (by decide)) (g := (mkF m 28 #[.val (.long q1), .second, .val (.int p2), .val (.int p3), .val (.ref b10), .unset, .unset, .unset, .unset] [(.int (2 : Int32)), (.long q1), (.int (2 : Int32)), (.ref b10)])) rfl (by rw [hml]; rfl) (argsL := [(.long q1), (.int (2 : Int32))]) (rest := [(.int (2 : Int32)), (.ref b10)]) (lenOf pd_1 rfl) rfl (by show 2 * 0 + _ ≤ _; exact Nat.le_of_eq rfl) (Jvm.hb hby at_28) (fun _ _ => ⟨rfl, e14, (by decide : 1 + 0 ≤ _), (by decide : 5 + 0 ≤ _)⟩)
  dsimp only [Pt.U, Pt.locs, Pt.cells, Pt.slots] at X15 l15 y15 z15 st15 hQ15
  subst l15 y15 z15
  obtain ⟨rfl, N15q, e15⟩ := hQ15
  have N15 := Fr.app N14 N15q
  refine own_go (B := T15.setTop (mkF m 31 #[.val (.long q1), .second, .val (.int p2), .val (.int p3), .val (.ref b10), .unset, .unset, .unset, .unset] [(.int (own_mk q1 (2 : Int32))), (.int (2 : Int32)), (.ref b10)])) (fun t k => st15 _ k) ?_
  obtain ⟨vb2, hvb2⟩ : ∃ z : Int32, z = (own_mk q1 (2 : Int32)) := ⟨_, rfl⟩
  rw [← hvb2]
  obtain ⟨T16, h16, X16, e16, W16, V16, st16⟩ := own_bastore X15 hx hZ e15 V_b10 (j := (2 : Int32)) (k := 2) (by decide) (by decide) (by decide) (g := (mkF m 31 #[.val (.long q1), .second, .val (.int p2), .val (.int p3), .val (.ref b10), .unset, .unset, .unset, .unset] [(.int vb2), (.int (2 : Int32)), (.ref b10)])) rfl rfl (Jvm.hb hby at_31)
  have N16 := Fr.snoc X16 N15 g_b10
  have Zs := Nat.le_trans Zs (Keep.of_wr W16).1
  have V_b10 := V16
  refine own_go (B := T16.setTop (mkF m 32 #[.val (.long q1), .second, .val (.int p2), .val (.int p3), .val (.ref b10), .unset, .unset, .unset, .unset] [])) (fun t k => st16 _ k) ?_
  refine own_go (B := T16.setTop (mkF m 34 #[.val (.long q1), .second, .val (.int p2), .val (.int p3), .val (.ref b10), .unset, .unset, .unset, .unset] [(.ref b10)])) (fun t k => XS.aload X16.here hx rfl (Jvm.hb hby at_32) rfl rfl k) ?_
  refine own_go (B := T16.setTop (mkF m 35 #[.val (.long q1), .second, .val (.int p2), .val (.int p3), .val (.ref b10), .unset, .unset, .unset, .unset] [(.int (3 : Int32)), (.ref b10)])) (fun t k => XS.iconst X16.here hx rfl (Jvm.hb hby at_34) k) ?_
  refine own_go (B := T16.setTop (mkF m 36 #[.val (.long q1), .second, .val (.int p2), .val (.int p3), .val (.ref b10), .unset, .unset, .unset, .unset] [(.long q1), (.int (3 : Int32)), (.ref b10)])) (fun t k => XS.lloadN X16.here hx rfl (Jvm.hb hby at_35) rfl k) ?_
  refine own_go (B := T16.setTop (mkF m 37 #[.val (.long q1), .second, .val (.int p2), .val (.int p3), .val (.ref b10), .unset, .unset, .unset, .unset] [(.int (3 : Int32)), (.long q1), (.int (3 : Int32)), (.ref b10)])) (fun t k => XS.iconst X16.here hx rfl (Jvm.hb hby at_36) k) ?_
  obtain ⟨_, _, ⟨T17, La17, ka17, na17⟩, -, X17, ⟨Lc17, hQ17, l17, y17, z17⟩, st17⟩ := Jvm.LawKit.callS X16 hx (y := (⟨"com/example/serra/serra/input/LineFieldsSkipDigitsPinLaw", "mk", "(JI)B"⟩ : MethodName)) hown (mvT hZ (own_w hw 1 rfl)) (mvT hZ (own_w hw 2 rfl)) (mvT hZ (own_w hw 3 rfl)) (mvT hZ (own_w hw 4 rfl)) (by decide) (backOf (W := 2) (rm1 l Z a0 hw [] q1 (3 : Int32) h16 n0 Zs) hZ (own_w hw 4 rfl) (own_w hw 3 rfl) (by decide) (by decide)) (g := (mkF m 37 #[.val (.long q1), .second, .val (.int p2), .val (.int p3), .val (.ref b10), .unset, .unset, .unset, .unset] [(.int (3 : Int32)), (.long q1), (.int (3 : Int32)), (.ref b10)])) rfl (by rw [hml]; rfl) (argsL := [(.long q1), (.int (3 : Int32))]) (rest := [(.int (3 : Int32)), (.ref b10)]) (lenOf pd_1 rfl) rfl (by show 2 * 0 + _ ≤ _; exact Nat.le_of_eq rfl) (Jvm.hb hby at_37) (fun _ _ => ⟨rfl, e16, (by decide : 1 + 0 ≤ _), (by decide : 5 + 0 ≤ _)⟩)
  dsimp only [Pt.U, Pt.locs, Pt.cells, Pt.slots] at X17 l17 y17 z17 st17 hQ17
  subst l17 y17 z17
  obtain ⟨rfl, N17q, e17⟩ := hQ17
  have N17 := Fr.app N16 N17q
  refine own_go (B := T17.setTop (mkF m 40 #[.val (.long q1), .second, .val (.int p2), .val (.int p3), .val (.ref b10), .unset, .unset, .unset, .unset] [(.int (own_mk q1 (3 : Int32))), (.int (3 : Int32)), (.ref b10)])) (fun t k => st17 _ k) ?_
  obtain ⟨vb3, hvb3⟩ : ∃ z : Int32, z = (own_mk q1 (3 : Int32)) := ⟨_, rfl⟩
  rw [← hvb3]
  obtain ⟨T18, h18, X18, e18, W18, V18, st18⟩ := own_bastore X17 hx hZ e17 V_b10 (j := (3 : Int32)) (k := 3) (by decide) (by decide) (by decide) (g := (mkF m 40 #[.val (.long q1), .second, .val (.int p2), .val (.int p3), .val (.ref b10), .unset, .unset, .unset, .unset] [(.int vb3), (.int (3 : Int32)), (.ref b10)])) rfl rfl (Jvm.hb hby at_40)
  have N18 := Fr.snoc X18 N17 g_b10
  have Zs := Nat.le_trans Zs (Keep.of_wr W18).1
  have V_b10 := V18
  refine own_go (B := T18.setTop (mkF m 41 #[.val (.long q1), .second, .val (.int p2), .val (.int p3), .val (.ref b10), .unset, .unset, .unset, .unset] [])) (fun t k => st18 _ k) ?_
  refine own_go (B := T18.setTop (mkF m 43 #[.val (.long q1), .second, .val (.int p2), .val (.int p3), .val (.ref b10), .unset, .unset, .unset, .unset] [(.ref b10)])) (fun t k => XS.aload X18.here hx rfl (Jvm.hb hby at_41) rfl rfl k) ?_
  refine own_go (B := T18.setTop (mkF m 44 #[.val (.long q1), .second, .val (.int p2), .val (.int p3), .val (.ref b10), .unset, .unset, .unset, .unset] [(.int (4 : Int32)), (.ref b10)])) (fun t k => XS.iconst X18.here hx rfl (Jvm.hb hby at_43) k) ?_
  refine own_go (B := T18.setTop (mkF m 45 #[.val (.long q1), .second, .val (.int p2), .val (.int p3), .val (.ref b10), .unset, .unset, .unset, .unset] [(.long q1), (.int (4 : Int32)), (.ref b10)])) (fun t k => XS.lloadN X18.here hx rfl (Jvm.hb hby at_44) rfl k) ?_
  refine own_go (B := T18.setTop (mkF m 46 #[.val (.long q1), .second, .val (.int p2), .val (.int p3), .val (.ref b10), .unset, .unset, .unset, .unset] [(.int (4 : Int32)), (.long q1), (.int (4 : Int32)), (.ref b10)])) (fun t k => XS.iconst X18.here hx rfl (Jvm.hb hby at_45) k) ?_
  obtain ⟨_, _, ⟨T19, La19, ka19, na19⟩, -, X19, ⟨Lc19, hQ19, l19, y19, z19⟩, st19⟩ := Jvm.LawKit.callS X18 hx (y := (⟨"com/example/serra/serra/input/LineFieldsSkipDigitsPinLaw", "mk", "(JI)B"⟩ : MethodName)) hown (mvT hZ (own_w hw 1 rfl)) (mvT hZ (own_w hw 2 rfl)) (mvT hZ (own_w hw 3 rfl)) (mvT hZ (own_w hw 4 rfl)) (by decide) (backOf (W := 2) (rm1 l Z a0 hw [] q1 (4 : Int32) h18 n0 Zs) hZ (own_w hw 4 rfl) (own_w hw 3 rfl) (by decide) (by decide)) (g := (mkF m 46 #[.val (.long q1), .second, .val (.int p2), .val (.int p3), .val (.ref b10), .unset, .unset, .unset, .unset] [(.int (4 : Int32)), (.long q1), (.int (4 : Int32)), (.ref b10)])) rfl (by rw [hml]; rfl) (argsL := [(.long q1), (.int (4 : Int32))]) (rest := [(.int (4 : Int32)), (.ref b10)]) (lenOf pd_1 rfl) rfl (by show 2 * 0 + _ ≤ _; exact Nat.le_of_eq rfl) (Jvm.hb hby at_46) (fun _ _ => ⟨rfl, e18, (by decide : 1 + 0 ≤ _), (by decide : 5 + 0 ≤ _)⟩)
  dsimp only [Pt.U, Pt.locs, Pt.cells, Pt.slots] at X19 l19 y19 z19 st19 hQ19
  subst l19 y19 z19
  obtain ⟨rfl, N19q, e19⟩ := hQ19
  have N19 := Fr.app N18 N19q
  refine own_go (B := T19.setTop (mkF m 49 #[.val (.long q1), .second, .val (.int p2), .val (.int p3), .val (.ref b10), .unset, .unset, .unset, .unset] [(.int (own_mk q1 (4 : Int32))), (.int (4 : Int32)), (.ref b10)])) (fun t k => st19 _ k) ?_
  obtain ⟨vb4, hvb4⟩ : ∃ z : Int32, z = (own_mk q1 (4 : Int32)) := ⟨_, rfl⟩
  rw [← hvb4]
  obtain ⟨T20, h20, X20, e20, W20, V20, st20⟩ := own_bastore X19 hx hZ e19 V_b10 (j := (4 : Int32)) (k := 4) (by decide) (by decide) (by decide) (g := (mkF m 49 #[.val (.long q1), .second, .val (.int p2), .val (.int p3), .val (.ref b10), .unset, .unset, .unset, .unset] [(.int vb4), (.int (4 : Int32)), (.ref b10)])) rfl rfl (Jvm.hb hby at_49)
  have N20 := Fr.snoc X20 N19 g_b10
  have Zs := Nat.le_trans Zs (Keep.of_wr W20).1
  have V_b10 := V20
  refine own_go (B := T20.setTop (mkF m 50 #[.val (.long q1), .second, .val (.int p2), .val (.int p3), .val (.ref b10), .unset, .unset, .unset, .unset] [])) (fun t k => st20 _ k) ?_
  refine own_go (B := T20.setTop (mkF m 51 #[.val (.long q1), .second, .val (.int p2), .val (.int p3), .val (.ref b10), .unset, .unset, .unset, .unset] [(.int p2)])) (fun t k => XS.iloadN X20.here hx rfl (Jvm.hb hby at_50) rfl k) ?_
  refine own_go (B := T20.setTop (mkF m 53 #[.val (.long q1), .second, .val (.int p2), .val (.int p3), .val (.ref b10), .unset, .unset, .unset, .unset] [(.int (2147483647 : Int32)), (.int p2)])) (fun t k => X20.ldcInt hx hown (mvT hZ (own_w hw 5 rfl)) (g := (mkF m 51 #[.val (.long q1), .second, .val (.int p2), .val (.int p3), .val (.ref b10), .unset, .unset, .unset, .unset] [(.int p2)])) rfl (Jvm.hb hby at_51) _ k) ?_
  refine own_go (B := T20.setTop (mkF m 54 #[.val (.long q1), .second, .val (.int p2), .val (.int p3), .val (.ref b10), .unset, .unset, .unset, .unset] [(.int (p2 &&& (2147483647 : Int32)))])) (fun t k => XS.iand X20.here hx rfl (Jvm.hb hby at_53) rfl k) ?_
  refine own_go (B := T20.setTop (mkF m 56 #[.val (.long q1), .second, .val (.int p2), .val (.int p3), .val (.ref b10), .unset, .unset, .unset, .unset] [(.int (6 : Int32)), (.int (p2 &&& (2147483647 : Int32)))])) (fun t k => XS.bipush X20.here hx rfl (Jvm.hb hby at_54) k) ?_
  refine own_go (B := T20.setTop (mkF m 57 #[.val (.long q1), .second, .val (.int p2), .val (.int p3), .val (.ref b10), .unset, .unset, .unset, .unset] [(.int ((p2 &&& (2147483647 : Int32)) % (6 : Int32)))])) (fun t k => own_irem X20.here hx rfl (Jvm.hb hby at_56) rfl (by decide) k) ?_
  obtain ⟨vf, hvf⟩ : ∃ z : Int32, z = ((p2 &&& (2147483647 : Int32)) % (6 : Int32)) := ⟨_, rfl⟩
  rw [← hvf]
  have hvf := own_m6 _ vf hvf
  refine own_go (B := T20.setTop (mkF m 59 #[.val (.long q1), .second, .val (.int p2), .val (.int p3), .val (.ref b10), .val (.int vf), .unset, .unset, .unset] [])) (fun t k => XS.istore X20.here hx rfl (Jvm.hb hby at_57) rfl (l' := #[.val (.long q1), .second, .val (.int p2), .val (.int p3), .val (.ref b10), .val (.int vf), .unset, .unset, .unset]) rfl k) ?_
  refine own_go (B := T20.setTop (mkF m 60 #[.val (.long q1), .second, .val (.int p2), .val (.int p3), .val (.ref b10), .val (.int vf), .unset, .unset, .unset] [(.int p3)])) (fun t k => XS.iloadN X20.here hx rfl (Jvm.hb hby at_59) rfl k) ?_
  refine own_go (B := T20.setTop (mkF m 62 #[.val (.long q1), .second, .val (.int p2), .val (.int p3), .val (.ref b10), .val (.int vf), .unset, .unset, .unset] [(.int (2147483647 : Int32)), (.int p3)])) (fun t k => X20.ldcInt hx hown (mvT hZ (own_w hw 5 rfl)) (g := (mkF m 60 #[.val (.long q1), .second, .val (.int p2), .val (.int p3), .val (.ref b10), .val (.int vf), .unset, .unset, .unset] [(.int p3)])) rfl (Jvm.hb hby at_60) _ k) ?_
  refine own_go (B := T20.setTop (mkF m 63 #[.val (.long q1), .second, .val (.int p2), .val (.int p3), .val (.ref b10), .val (.int vf), .unset, .unset, .unset] [(.int (p3 &&& (2147483647 : Int32)))])) (fun t k => XS.iand X20.here hx rfl (Jvm.hb hby at_62) rfl k) ?_
  refine own_go (B := T20.setTop (mkF m 65 #[.val (.long q1), .second, .val (.int p2), .val (.int p3), .val (.ref b10), .val (.int vf), .unset, .unset, .unset] [(.int (6 : Int32)), (.int (p3 &&& (2147483647 : Int32)))])) (fun t k => XS.bipush X20.here hx rfl (Jvm.hb hby at_63) k) ?_
  refine own_go (B := T20.setTop (mkF m 66 #[.val (.long q1), .second, .val (.int p2), .val (.int p3), .val (.ref b10), .val (.int vf), .unset, .unset, .unset] [(.int ((p3 &&& (2147483647 : Int32)) % (6 : Int32)))])) (fun t k => own_irem X20.here hx rfl (Jvm.hb hby at_65) rfl (by decide) k) ?_
  obtain ⟨vt, hvt⟩ : ∃ z : Int32, z = ((p3 &&& (2147483647 : Int32)) % (6 : Int32)) := ⟨_, rfl⟩
  rw [← hvt]
  have hvt := own_m6 _ vt hvt
  refine own_go (B := T20.setTop (mkF m 68 #[.val (.long q1), .second, .val (.int p2), .val (.int p3), .val (.ref b10), .val (.int vf), .val (.int vt), .unset, .unset] [])) (fun t k => XS.istore X20.here hx rfl (Jvm.hb hby at_66) rfl (l' := #[.val (.long q1), .second, .val (.int p2), .val (.int p3), .val (.ref b10), .val (.int vf), .val (.int vt), .unset, .unset]) rfl k) ?_
  obtain ⟨vr, hvr, hr1, hr2, hr3, hr4⟩ := own_r (own_upd (own_upd (own_upd (own_upd (own_upd (fun _ => 0) 0 vb0.toInt8.toInt32) 1 vb1.toInt8.toInt32) 2 vb2.toInt8.toInt32) 3 vb3.toInt8.toInt32) 4 vb4.toInt8.toInt32) vf vt hvf hvt
  refine own_go (B := T20.setTop (mkF m 70 #[.val (.long q1), .second, .val (.int p2), .val (.int p3), .val (.ref b10), .val (.int vf), .val (.int vt), .unset, .unset] [(.ref b10)])) (fun t k => XS.aload X20.here hx rfl (Jvm.hb hby at_68) rfl rfl k) ?_
  refine own_go (B := T20.setTop (mkF m 72 #[.val (.long q1), .second, .val (.int p2), .val (.int p3), .val (.ref b10), .val (.int vf), .val (.int vt), .unset, .unset] [(.int vf), (.ref b10)])) (fun t k => XS.iload X20.here hx rfl (Jvm.hb hby at_70) rfl k) ?_
  refine own_go (B := T20.setTop (mkF m 74 #[.val (.long q1), .second, .val (.int p2), .val (.int p3), .val (.ref b10), .val (.int vf), .val (.int vt), .unset, .unset] [(.int vt), (.int vf), (.ref b10)])) (fun t k => XS.iload X20.here hx rfl (Jvm.hb hby at_72) rfl k) ?_
  obtain ⟨_, _, ⟨T21, La21, ka21, na21⟩, -, X21, ⟨Lc21, hQ21, l21, y21, z21⟩, st21⟩ := Jvm.LawKit.callS X20 hx (y := (⟨"com/example/serra/serra/input/LineFields", "skipDigits", "([BII)I"⟩ : MethodName)) hown (mvT hZ (own_w hw 6 rfl)) (mvT hZ (own_w hw 7 rfl)) (mvT hZ (own_w hw 8 rfl)) (mvT hZ (own_w hw 9 rfl)) (by decide) (backOf (W := 0) (rm2 l Z a0 hw [] b10 vf vt (own_upd (own_upd (own_upd (own_upd (own_upd (fun _ => 0) 0 vb0.toInt8.toInt32) 1 vb1.toInt8.toInt32) 2 vb2.toInt8.toInt32) 3 vb3.toInt8.toInt32) 4 vb4.toInt8.toInt32) vr h20 n0 Zs V_b10 hvf.1 hvt.2 hvr) hZ (own_w hw 9 rfl) (own_w hw 8 rfl) (by decide) (by decide)) (g := (mkF m 74 #[.val (.long q1), .second, .val (.int p2), .val (.int p3), .val (.ref b10), .val (.int vf), .val (.int vt), .unset, .unset] [(.int vt), (.int vf), (.ref b10)])) rfl (by rw [hml]; rfl) (argsL := [(.ref b10), (.int vf), (.int vt)]) (rest := []) (lenOf pd_2 rfl) rfl (by show 2 * 0 + _ ≤ _; exact Nat.le_of_eq rfl) (Jvm.hb hby at_74) (fun _ _ => ⟨rfl, e20, (by decide : 1 + 0 ≤ _), (by decide : 5 + 0 ≤ _)⟩)
  dsimp only [Pt.U, Pt.locs, Pt.cells, Pt.slots] at X21 l21 y21 z21 st21 hQ21
  subst l21 y21 z21
  obtain ⟨rfl, N21q, e21⟩ := hQ21
  have N21 := Fr.app N20 N21q
  refine own_go (B := T21.setTop (mkF m 77 #[.val (.long q1), .second, .val (.int p2), .val (.int p3), .val (.ref b10), .val (.int vf), .val (.int vt), .unset, .unset] [(.int vr)])) (fun t k => st21 _ k) ?_
  refine own_go (B := T21.setTop (mkF m 79 #[.val (.long q1), .second, .val (.int p2), .val (.int p3), .val (.ref b10), .val (.int vf), .val (.int vt), .val (.int vr), .unset] [])) (fun t k => XS.istore X21.here hx rfl (Jvm.hb hby at_77) rfl (l' := #[.val (.long q1), .second, .val (.int p2), .val (.int p3), .val (.ref b10), .val (.int vf), .val (.int vt), .val (.int vr), .unset]) rfl k) ?_
  refine own_go (B := T21.setTop (mkF m 81 #[.val (.long q1), .second, .val (.int p2), .val (.int p3), .val (.ref b10), .val (.int vf), .val (.int vt), .val (.int vr), .unset] [(.int vf)])) (fun t k => XS.iload X21.here hx rfl (Jvm.hb hby at_79) rfl k) ?_
  refine own_go (B := T21.setTop (mkF m 83 #[.val (.long q1), .second, .val (.int p2), .val (.int p3), .val (.ref b10), .val (.int vf), .val (.int vt), .val (.int vr), .unset] [(.int vt), (.int vf)])) (fun t k => XS.iload X21.here hx rfl (Jvm.hb hby at_81) rfl k) ?_
  by_cases hc83_22 : vf < vt
  · refine own_go (B := T21.setTop (mkF m 99 #[.val (.long q1), .second, .val (.int p2), .val (.int p3), .val (.ref b10), .val (.int vf), .val (.int vt), .val (.int vr), .unset] [])) (fun t k => XS.icmpYes X21.here hx rfl (pc0 := 83) (pc' := 99) rfl (Jvm.hb hby at_83) rfl (tlt hc83_22).1 (by decide) (by decide) k) ?_
    refine own_go (B := T21.setTop (mkF m 101 #[.val (.long q1), .second, .val (.int p2), .val (.int p3), .val (.ref b10), .val (.int vf), .val (.int vt), .val (.int vr), .unset] [(.int vr)])) (fun t k => XS.iload X21.here hx rfl (Jvm.hb hby at_99) rfl k) ?_
    refine own_go (B := T21.setTop (mkF m 103 #[.val (.long q1), .second, .val (.int p2), .val (.int p3), .val (.ref b10), .val (.int vf), .val (.int vt), .val (.int vr), .unset] [(.int vf), (.int vr)])) (fun t k => XS.iload X21.here hx rfl (Jvm.hb hby at_101) rfl k) ?_
    refine own_go (B := T21.setTop (mkF m 106 #[.val (.long q1), .second, .val (.int p2), .val (.int p3), .val (.ref b10), .val (.int vf), .val (.int vt), .val (.int vr), .unset] [])) (fun t k => XS.icmpNo X21.here hx rfl (Jvm.hb hby at_103) rfl (flt (by rw [Int32.lt_iff_toInt_lt]; omega)).1 k) ?_
    refine own_go (B := T21.setTop (mkF m 108 #[.val (.long q1), .second, .val (.int p2), .val (.int p3), .val (.ref b10), .val (.int vf), .val (.int vt), .val (.int vr), .unset] [(.int vr)])) (fun t k => XS.iload X21.here hx rfl (Jvm.hb hby at_106) rfl k) ?_
    refine own_go (B := T21.setTop (mkF m 110 #[.val (.long q1), .second, .val (.int p2), .val (.int p3), .val (.ref b10), .val (.int vf), .val (.int vt), .val (.int vr), .unset] [(.int vt), (.int vr)])) (fun t k => XS.iload X21.here hx rfl (Jvm.hb hby at_108) rfl k) ?_
    refine own_go (B := T21.setTop (mkF m 113 #[.val (.long q1), .second, .val (.int p2), .val (.int p3), .val (.ref b10), .val (.int vf), .val (.int vt), .val (.int vr), .unset] [])) (fun t k => XS.icmpNo X21.here hx rfl (Jvm.hb hby at_110) rfl (flt (by have c := hc83_22; rw [Int32.lt_iff_toInt_lt] at *; rcases hr2 with h | h; omega; rw [h]; omega)).2.2.1 k) ?_
    refine own_go (B := T21.setTop (mkF m 114 #[.val (.long q1), .second, .val (.int p2), .val (.int p3), .val (.ref b10), .val (.int vf), .val (.int vt), .val (.int vr), .unset] [(.int (1 : Int32))])) (fun t k => XS.iconst X21.here hx rfl (Jvm.hb hby at_113) k) ?_
    refine own_go (B := T21.setTop (mkF m 118 #[.val (.long q1), .second, .val (.int p2), .val (.int p3), .val (.ref b10), .val (.int vf), .val (.int vt), .val (.int vr), .unset] [(.int (1 : Int32))])) (fun t k => XS.goto X21.here hx rfl (pc0 := 114) (pc' := 118) rfl (Jvm.hb hby at_114) (by decide) (by decide) k) ?_
    refine own_go (B := T21.setTop (mkF m 120 #[.val (.long q1), .second, .val (.int p2), .val (.int p3), .val (.ref b10), .val (.int vf), .val (.int vt), .val (.int vr), .val (.int (1 : Int32))] [])) (fun t k => XS.istore X21.here hx rfl (Jvm.hb hby at_118) rfl (l' := #[.val (.long q1), .second, .val (.int p2), .val (.int p3), .val (.ref b10), .val (.int vf), .val (.int vt), .val (.int vr), .val (.int (1 : Int32))]) rfl k) ?_
    refine own_go (B := T21.setTop (mkF m 122 #[.val (.long q1), .second, .val (.int p2), .val (.int p3), .val (.ref b10), .val (.int vf), .val (.int vt), .val (.int vr), .val (.int (1 : Int32))] [(.int (1 : Int32))])) (fun t k => XS.iload X21.here hx rfl (Jvm.hb hby at_120) rfl k) ?_
    refine own_go (B := T21.setTop (mkF m 125 #[.val (.long q1), .second, .val (.int p2), .val (.int p3), .val (.ref b10), .val (.int vf), .val (.int vt), .val (.int vr), .val (.int (1 : Int32))] [])) (fun t k => XS.ifNo X21.here hx rfl (Jvm.hb hby at_122) rfl ((if0 _ _).trans (feq (by decide : ¬ ((1 : Int32) = (0 : Int32)))).1) k) ?_
    refine own_go (B := T21.setTop (mkF m 127 #[.val (.long q1), .second, .val (.int p2), .val (.int p3), .val (.ref b10), .val (.int vf), .val (.int vt), .val (.int vr), .val (.int (1 : Int32))] [(.int vr)])) (fun t k => XS.iload X21.here hx rfl (Jvm.hb hby at_125) rfl k) ?_
    refine own_go (B := T21.setTop (mkF m 129 #[.val (.long q1), .second, .val (.int p2), .val (.int p3), .val (.ref b10), .val (.int vf), .val (.int vt), .val (.int vr), .val (.int (1 : Int32))] [(.int vt), (.int vr)])) (fun t k => XS.iload X21.here hx rfl (Jvm.hb hby at_127) rfl k) ?_
    by_cases hc129_23 : vr = vt
    · refine own_go (B := T21.setTop (mkF m 143 #[.val (.long q1), .second, .val (.int p2), .val (.int p3), .val (.ref b10), .val (.int vf), .val (.int vt), .val (.int vr), .val (.int (1 : Int32))] [])) (fun t k => XS.icmpYes X21.here hx rfl (pc0 := 129) (pc' := 143) rfl (Jvm.hb hby at_129) rfl (teq hc129_23).1 (by decide) (by decide) k) ?_
      refine own_go (B := T21.setTop (mkF m 144 #[.val (.long q1), .second, .val (.int p2), .val (.int p3), .val (.ref b10), .val (.int vf), .val (.int vt), .val (.int vr), .val (.int (1 : Int32))] [(.int (1 : Int32))])) (fun t k => XS.iconst X21.here hx rfl (Jvm.hb hby at_143) k) ?_
      refine own_go (B := T21.setTop (mkF m 148 #[.val (.long q1), .second, .val (.int p2), .val (.int p3), .val (.ref b10), .val (.int vf), .val (.int vt), .val (.int vr), .val (.int (1 : Int32))] [(.int (1 : Int32))])) (fun t k => XS.goto X21.here hx rfl (pc0 := 144) (pc' := 148) rfl (Jvm.hb hby at_144) (by decide) (by decide) k) ?_
      refine own_go (B := T21.setTop (mkF m 150 #[.val (.long q1), .second, .val (.int p2), .val (.int p3), .val (.ref b10), .val (.int vf), .val (.int vt), .val (.int vr), .val (.int (1 : Int32))] [])) (fun t k => XS.istore X21.here hx rfl (Jvm.hb hby at_148) rfl (l' := #[.val (.long q1), .second, .val (.int p2), .val (.int p3), .val (.ref b10), .val (.int vf), .val (.int vt), .val (.int vr), .val (.int (1 : Int32))]) rfl k) ?_
      refine own_go (B := T21.setTop (mkF m 152 #[.val (.long q1), .second, .val (.int p2), .val (.int p3), .val (.ref b10), .val (.int vf), .val (.int vt), .val (.int vr), .val (.int (1 : Int32))] [(.int (1 : Int32))])) (fun t k => XS.iload X21.here hx rfl (Jvm.hb hby at_150) rfl k) ?_
      refine own_go (B := T21.setTop (mkF m 155 #[.val (.long q1), .second, .val (.int p2), .val (.int p3), .val (.ref b10), .val (.int vf), .val (.int vt), .val (.int vr), .val (.int (1 : Int32))] [])) (fun t k => XS.ifNo X21.here hx rfl (Jvm.hb hby at_152) rfl ((if0 _ _).trans (feq (by decide : ¬ ((1 : Int32) = (0 : Int32)))).1) k) ?_
      refine own_go (B := T21.setTop (mkF m 157 #[.val (.long q1), .second, .val (.int p2), .val (.int p3), .val (.ref b10), .val (.int vf), .val (.int vt), .val (.int vr), .val (.int (1 : Int32))] [(.ref b10)])) (fun t k => XS.aload X21.here hx rfl (Jvm.hb hby at_155) rfl rfl k) ?_
      refine own_go (B := T21.setTop (mkF m 158 #[.val (.long q1), .second, .val (.int p2), .val (.int p3), .val (.ref b10), .val (.int vf), .val (.int vt), .val (.int vr), .val (.int (1 : Int32))] [(.int (0 : Int32)), (.ref b10)])) (fun t k => XS.iconst X21.here hx rfl (Jvm.hb hby at_157) k) ?_
      refine own_go (B := T21.setTop (mkF m 160 #[.val (.long q1), .second, .val (.int p2), .val (.int p3), .val (.ref b10), .val (.int vf), .val (.int vt), .val (.int vr), .val (.int (1 : Int32))] [(.int vf), (.int (0 : Int32)), (.ref b10)])) (fun t k => XS.iload X21.here hx rfl (Jvm.hb hby at_158) rfl k) ?_
      refine own_go (B := T21.setTop (mkF m 162 #[.val (.long q1), .second, .val (.int p2), .val (.int p3), .val (.ref b10), .val (.int vf), .val (.int vt), .val (.int vr), .val (.int (1 : Int32))] [(.int vr), (.int vf), (.int (0 : Int32)), (.ref b10)])) (fun t k => XS.iload X21.here hx rfl (Jvm.hb hby at_160) rfl k) ?_
      obtain ⟨_, _, ⟨T24, La24, ka24, na24⟩, -, X24, ⟨Lc24, hQ24, l24, y24, z24⟩, st24⟩ := Jvm.LawKit.callS X21 hx (y := (⟨"com/example/serra/serra/input/LineFieldsSkipDigitsPinLaw", "inRunIsDigit", "([BIII)Z"⟩ : MethodName)) hown (mvT hZ (own_w hw 13 rfl)) (mvT hZ (own_w hw 14 rfl)) (mvT hZ (own_w hw 3 rfl)) (mvT hZ (own_w hw 15 rfl)) (by decide) (backOf (W := 0) (rm4 l Z a0 hw [] b10 (0 : Int32) vf vr (own_upd (own_upd (own_upd (own_upd (own_upd (fun _ => 0) 0 vb0.toInt8.toInt32) 1 vb1.toInt8.toInt32) 2 vb2.toInt8.toInt32) 3 vb3.toInt8.toInt32) 4 vb4.toInt8.toInt32) 0 h20 n0 Zs V_b10 (by decide) (by decide) (by decide)) hZ (own_w hw 15 rfl) (own_w hw 3 rfl) (by decide) (by decide)) (g := (mkF m 162 #[.val (.long q1), .second, .val (.int p2), .val (.int p3), .val (.ref b10), .val (.int vf), .val (.int vt), .val (.int vr), .val (.int (1 : Int32))] [(.int vr), (.int vf), (.int (0 : Int32)), (.ref b10)])) rfl (by rw [hml]; rfl) (argsL := [(.ref b10), (.int (0 : Int32)), (.int vf), (.int vr)]) (rest := []) (lenOf pd_3 rfl) rfl (by show 2 * 0 + _ ≤ _; exact Nat.le_of_eq rfl) (Jvm.hb hby at_162) (fun _ _ => ⟨rfl, e21, (by decide : 1 + 0 ≤ _), (by decide : 5 + 0 ≤ _)⟩)
      dsimp only [Pt.U, Pt.locs, Pt.cells, Pt.slots] at X24 l24 y24 z24 st24 hQ24
      subst l24 y24 z24
      obtain ⟨rfl, N24q, e24⟩ := hQ24
      have N24 := Fr.app N21 N24q
      refine own_go (B := T24.setTop (mkF m 165 #[.val (.long q1), .second, .val (.int p2), .val (.int p3), .val (.ref b10), .val (.int vf), .val (.int vt), .val (.int vr), .val (.int (1 : Int32))] [(.int (own_ir (own_upd (own_upd (own_upd (own_upd (own_upd (fun _ => 0) 0 vb0.toInt8.toInt32) 1 vb1.toInt8.toInt32) 2 vb2.toInt8.toInt32) 3 vb3.toInt8.toInt32) 4 vb4.toInt8.toInt32) (0 : Int32) 0 vf vr))])) (fun t k => st24 _ k) ?_
      refine own_go (B := T24.setTop (mkF m 168 #[.val (.long q1), .second, .val (.int p2), .val (.int p3), .val (.ref b10), .val (.int vf), .val (.int vt), .val (.int vr), .val (.int (1 : Int32))] [])) (fun t k => XS.ifNo X24.here hx rfl (Jvm.hb hby at_165) rfl ((if0 _ _).trans (feq (by rw [own_ir1 (own_upd (own_upd (own_upd (own_upd (own_upd (fun _ => 0) 0 vb0.toInt8.toInt32) 1 vb1.toInt8.toInt32) 2 vb2.toInt8.toInt32) 3 vb3.toInt8.toInt32) 4 vb4.toInt8.toInt32) _ 0 _ _ (by decide) hvf.1 _ hvr]; decide)).1) k) ?_
      refine own_go (B := T24.setTop (mkF m 169 #[.val (.long q1), .second, .val (.int p2), .val (.int p3), .val (.ref b10), .val (.int vf), .val (.int vt), .val (.int vr), .val (.int (1 : Int32))] [(.int (1 : Int32))])) (fun t k => XS.iconst X24.here hx rfl (Jvm.hb hby at_168) k) ?_
      refine own_go (B := T24.setTop (mkF m 173 #[.val (.long q1), .second, .val (.int p2), .val (.int p3), .val (.ref b10), .val (.int vf), .val (.int vt), .val (.int vr), .val (.int (1 : Int32))] [(.int (1 : Int32))])) (fun t k => XS.goto X24.here hx rfl (pc0 := 169) (pc' := 173) rfl (Jvm.hb hby at_169) (by decide) (by decide) k) ?_
      refine own_go (B := T24.setTop (mkF m 175 #[.val (.long q1), .second, .val (.int p2), .val (.int p3), .val (.ref b10), .val (.int vf), .val (.int vt), .val (.int vr), .val (.int (1 : Int32))] [])) (fun t k => XS.istore X24.here hx rfl (Jvm.hb hby at_173) rfl (l' := #[.val (.long q1), .second, .val (.int p2), .val (.int p3), .val (.ref b10), .val (.int vf), .val (.int vt), .val (.int vr), .val (.int (1 : Int32))]) rfl k) ?_
      refine own_go (B := T24.setTop (mkF m 177 #[.val (.long q1), .second, .val (.int p2), .val (.int p3), .val (.ref b10), .val (.int vf), .val (.int vt), .val (.int vr), .val (.int (1 : Int32))] [(.int (1 : Int32))])) (fun t k => XS.iload X24.here hx rfl (Jvm.hb hby at_175) rfl k) ?_
      refine own_go (B := T24.setTop (mkF m 180 #[.val (.long q1), .second, .val (.int p2), .val (.int p3), .val (.ref b10), .val (.int vf), .val (.int vt), .val (.int vr), .val (.int (1 : Int32))] [])) (fun t k => XS.ifNo X24.here hx rfl (Jvm.hb hby at_177) rfl ((if0 _ _).trans (feq (by decide : ¬ ((1 : Int32) = (0 : Int32)))).1) k) ?_
      refine own_go (B := T24.setTop (mkF m 182 #[.val (.long q1), .second, .val (.int p2), .val (.int p3), .val (.ref b10), .val (.int vf), .val (.int vt), .val (.int vr), .val (.int (1 : Int32))] [(.ref b10)])) (fun t k => XS.aload X24.here hx rfl (Jvm.hb hby at_180) rfl rfl k) ?_
      refine own_go (B := T24.setTop (mkF m 183 #[.val (.long q1), .second, .val (.int p2), .val (.int p3), .val (.ref b10), .val (.int vf), .val (.int vt), .val (.int vr), .val (.int (1 : Int32))] [(.int (1 : Int32)), (.ref b10)])) (fun t k => XS.iconst X24.here hx rfl (Jvm.hb hby at_182) k) ?_
      refine own_go (B := T24.setTop (mkF m 185 #[.val (.long q1), .second, .val (.int p2), .val (.int p3), .val (.ref b10), .val (.int vf), .val (.int vt), .val (.int vr), .val (.int (1 : Int32))] [(.int vf), (.int (1 : Int32)), (.ref b10)])) (fun t k => XS.iload X24.here hx rfl (Jvm.hb hby at_183) rfl k) ?_
      refine own_go (B := T24.setTop (mkF m 187 #[.val (.long q1), .second, .val (.int p2), .val (.int p3), .val (.ref b10), .val (.int vf), .val (.int vt), .val (.int vr), .val (.int (1 : Int32))] [(.int vr), (.int vf), (.int (1 : Int32)), (.ref b10)])) (fun t k => XS.iload X24.here hx rfl (Jvm.hb hby at_185) rfl k) ?_
      obtain ⟨_, _, ⟨T25, La25, ka25, na25⟩, -, X25, ⟨Lc25, hQ25, l25, y25, z25⟩, st25⟩ := Jvm.LawKit.callS X24 hx (y := (⟨"com/example/serra/serra/input/LineFieldsSkipDigitsPinLaw", "inRunIsDigit", "([BIII)Z"⟩ : MethodName)) hown (mvT hZ (own_w hw 13 rfl)) (mvT hZ (own_w hw 14 rfl)) (mvT hZ (own_w hw 3 rfl)) (mvT hZ (own_w hw 15 rfl)) (by decide) (backOf (W := 0) (rm4 l Z a0 hw [] b10 (1 : Int32) vf vr (own_upd (own_upd (own_upd (own_upd (own_upd (fun _ => 0) 0 vb0.toInt8.toInt32) 1 vb1.toInt8.toInt32) 2 vb2.toInt8.toInt32) 3 vb3.toInt8.toInt32) 4 vb4.toInt8.toInt32) 1 h20 n0 Zs V_b10 (by decide) (by decide) (by decide)) hZ (own_w hw 15 rfl) (own_w hw 3 rfl) (by decide) (by decide)) (g := (mkF m 187 #[.val (.long q1), .second, .val (.int p2), .val (.int p3), .val (.ref b10), .val (.int vf), .val (.int vt), .val (.int vr), .val (.int (1 : Int32))] [(.int vr), (.int vf), (.int (1 : Int32)), (.ref b10)])) rfl (by rw [hml]; rfl) (argsL := [(.ref b10), (.int (1 : Int32)), (.int vf), (.int vr)]) (rest := []) (lenOf pd_3 rfl) rfl (by show 2 * 0 + _ ≤ _; exact Nat.le_of_eq rfl) (Jvm.hb hby at_187) (fun _ _ => ⟨rfl, e24, (by decide : 1 + 0 ≤ _), (by decide : 5 + 0 ≤ _)⟩)
      dsimp only [Pt.U, Pt.locs, Pt.cells, Pt.slots] at X25 l25 y25 z25 st25 hQ25
      subst l25 y25 z25
      obtain ⟨rfl, N25q, e25⟩ := hQ25
      have N25 := Fr.app N24 N25q
      refine own_go (B := T25.setTop (mkF m 190 #[.val (.long q1), .second, .val (.int p2), .val (.int p3), .val (.ref b10), .val (.int vf), .val (.int vt), .val (.int vr), .val (.int (1 : Int32))] [(.int (own_ir (own_upd (own_upd (own_upd (own_upd (own_upd (fun _ => 0) 0 vb0.toInt8.toInt32) 1 vb1.toInt8.toInt32) 2 vb2.toInt8.toInt32) 3 vb3.toInt8.toInt32) 4 vb4.toInt8.toInt32) (1 : Int32) 1 vf vr))])) (fun t k => st25 _ k) ?_
      refine own_go (B := T25.setTop (mkF m 193 #[.val (.long q1), .second, .val (.int p2), .val (.int p3), .val (.ref b10), .val (.int vf), .val (.int vt), .val (.int vr), .val (.int (1 : Int32))] [])) (fun t k => XS.ifNo X25.here hx rfl (Jvm.hb hby at_190) rfl ((if0 _ _).trans (feq (by rw [own_ir1 (own_upd (own_upd (own_upd (own_upd (own_upd (fun _ => 0) 0 vb0.toInt8.toInt32) 1 vb1.toInt8.toInt32) 2 vb2.toInt8.toInt32) 3 vb3.toInt8.toInt32) 4 vb4.toInt8.toInt32) _ 1 _ _ (by decide) hvf.1 _ hvr]; decide)).1) k) ?_
      refine own_go (B := T25.setTop (mkF m 194 #[.val (.long q1), .second, .val (.int p2), .val (.int p3), .val (.ref b10), .val (.int vf), .val (.int vt), .val (.int vr), .val (.int (1 : Int32))] [(.int (1 : Int32))])) (fun t k => XS.iconst X25.here hx rfl (Jvm.hb hby at_193) k) ?_
      refine own_go (B := T25.setTop (mkF m 198 #[.val (.long q1), .second, .val (.int p2), .val (.int p3), .val (.ref b10), .val (.int vf), .val (.int vt), .val (.int vr), .val (.int (1 : Int32))] [(.int (1 : Int32))])) (fun t k => XS.goto X25.here hx rfl (pc0 := 194) (pc' := 198) rfl (Jvm.hb hby at_194) (by decide) (by decide) k) ?_
      refine own_go (B := T25.setTop (mkF m 200 #[.val (.long q1), .second, .val (.int p2), .val (.int p3), .val (.ref b10), .val (.int vf), .val (.int vt), .val (.int vr), .val (.int (1 : Int32))] [])) (fun t k => XS.istore X25.here hx rfl (Jvm.hb hby at_198) rfl (l' := #[.val (.long q1), .second, .val (.int p2), .val (.int p3), .val (.ref b10), .val (.int vf), .val (.int vt), .val (.int vr), .val (.int (1 : Int32))]) rfl k) ?_
      refine own_go (B := T25.setTop (mkF m 202 #[.val (.long q1), .second, .val (.int p2), .val (.int p3), .val (.ref b10), .val (.int vf), .val (.int vt), .val (.int vr), .val (.int (1 : Int32))] [(.int (1 : Int32))])) (fun t k => XS.iload X25.here hx rfl (Jvm.hb hby at_200) rfl k) ?_
      refine own_go (B := T25.setTop (mkF m 205 #[.val (.long q1), .second, .val (.int p2), .val (.int p3), .val (.ref b10), .val (.int vf), .val (.int vt), .val (.int vr), .val (.int (1 : Int32))] [])) (fun t k => XS.ifNo X25.here hx rfl (Jvm.hb hby at_202) rfl ((if0 _ _).trans (feq (by decide : ¬ ((1 : Int32) = (0 : Int32)))).1) k) ?_
      refine own_go (B := T25.setTop (mkF m 207 #[.val (.long q1), .second, .val (.int p2), .val (.int p3), .val (.ref b10), .val (.int vf), .val (.int vt), .val (.int vr), .val (.int (1 : Int32))] [(.ref b10)])) (fun t k => XS.aload X25.here hx rfl (Jvm.hb hby at_205) rfl rfl k) ?_
      refine own_go (B := T25.setTop (mkF m 208 #[.val (.long q1), .second, .val (.int p2), .val (.int p3), .val (.ref b10), .val (.int vf), .val (.int vt), .val (.int vr), .val (.int (1 : Int32))] [(.int (2 : Int32)), (.ref b10)])) (fun t k => XS.iconst X25.here hx rfl (Jvm.hb hby at_207) k) ?_
      refine own_go (B := T25.setTop (mkF m 210 #[.val (.long q1), .second, .val (.int p2), .val (.int p3), .val (.ref b10), .val (.int vf), .val (.int vt), .val (.int vr), .val (.int (1 : Int32))] [(.int vf), (.int (2 : Int32)), (.ref b10)])) (fun t k => XS.iload X25.here hx rfl (Jvm.hb hby at_208) rfl k) ?_
      refine own_go (B := T25.setTop (mkF m 212 #[.val (.long q1), .second, .val (.int p2), .val (.int p3), .val (.ref b10), .val (.int vf), .val (.int vt), .val (.int vr), .val (.int (1 : Int32))] [(.int vr), (.int vf), (.int (2 : Int32)), (.ref b10)])) (fun t k => XS.iload X25.here hx rfl (Jvm.hb hby at_210) rfl k) ?_
      obtain ⟨_, _, ⟨T26, La26, ka26, na26⟩, -, X26, ⟨Lc26, hQ26, l26, y26, z26⟩, st26⟩ := Jvm.LawKit.callS X25 hx (y := (⟨"com/example/serra/serra/input/LineFieldsSkipDigitsPinLaw", "inRunIsDigit", "([BIII)Z"⟩ : MethodName)) hown (mvT hZ (own_w hw 13 rfl)) (mvT hZ (own_w hw 14 rfl)) (mvT hZ (own_w hw 3 rfl)) (mvT hZ (own_w hw 15 rfl)) (by decide) (backOf (W := 0) (rm4 l Z a0 hw [] b10 (2 : Int32) vf vr (own_upd (own_upd (own_upd (own_upd (own_upd (fun _ => 0) 0 vb0.toInt8.toInt32) 1 vb1.toInt8.toInt32) 2 vb2.toInt8.toInt32) 3 vb3.toInt8.toInt32) 4 vb4.toInt8.toInt32) 2 h20 n0 Zs V_b10 (by decide) (by decide) (by decide)) hZ (own_w hw 15 rfl) (own_w hw 3 rfl) (by decide) (by decide)) (g := (mkF m 212 #[.val (.long q1), .second, .val (.int p2), .val (.int p3), .val (.ref b10), .val (.int vf), .val (.int vt), .val (.int vr), .val (.int (1 : Int32))] [(.int vr), (.int vf), (.int (2 : Int32)), (.ref b10)])) rfl (by rw [hml]; rfl) (argsL := [(.ref b10), (.int (2 : Int32)), (.int vf), (.int vr)]) (rest := []) (lenOf pd_3 rfl) rfl (by show 2 * 0 + _ ≤ _; exact Nat.le_of_eq rfl) (Jvm.hb hby at_212) (fun _ _ => ⟨rfl, e25, (by decide : 1 + 0 ≤ _), (by decide : 5 + 0 ≤ _)⟩)
      dsimp only [Pt.U, Pt.locs, Pt.cells, Pt.slots] at X26 l26 y26 z26 st26 hQ26
      subst l26 y26 z26
      obtain ⟨rfl, N26q, e26⟩ := hQ26
      have N26 := Fr.app N25 N26q
      refine own_go (B := T26.setTop (mkF m 215 #[.val (.long q1), .second, .val (.int p2), .val (.int p3), .val (.ref b10), .val (.int vf), .val (.int vt), .val (.int vr), .val (.int (1 : Int32))] [(.int (own_ir (own_upd (own_upd (own_upd (own_upd (own_upd (fun _ => 0) 0 vb0.toInt8.toInt32) 1 vb1.toInt8.toInt32) 2 vb2.toInt8.toInt32) 3 vb3.toInt8.toInt32) 4 vb4.toInt8.toInt32) (2 : Int32) 2 vf vr))])) (fun t k => st26 _ k) ?_
      refine own_go (B := T26.setTop (mkF m 218 #[.val (.long q1), .second, .val (.int p2), .val (.int p3), .val (.ref b10), .val (.int vf), .val (.int vt), .val (.int vr), .val (.int (1 : Int32))] [])) (fun t k => XS.ifNo X26.here hx rfl (Jvm.hb hby at_215) rfl ((if0 _ _).trans (feq (by rw [own_ir1 (own_upd (own_upd (own_upd (own_upd (own_upd (fun _ => 0) 0 vb0.toInt8.toInt32) 1 vb1.toInt8.toInt32) 2 vb2.toInt8.toInt32) 3 vb3.toInt8.toInt32) 4 vb4.toInt8.toInt32) _ 2 _ _ (by decide) hvf.1 _ hvr]; decide)).1) k) ?_
      refine own_go (B := T26.setTop (mkF m 219 #[.val (.long q1), .second, .val (.int p2), .val (.int p3), .val (.ref b10), .val (.int vf), .val (.int vt), .val (.int vr), .val (.int (1 : Int32))] [(.int (1 : Int32))])) (fun t k => XS.iconst X26.here hx rfl (Jvm.hb hby at_218) k) ?_
      refine own_go (B := T26.setTop (mkF m 223 #[.val (.long q1), .second, .val (.int p2), .val (.int p3), .val (.ref b10), .val (.int vf), .val (.int vt), .val (.int vr), .val (.int (1 : Int32))] [(.int (1 : Int32))])) (fun t k => XS.goto X26.here hx rfl (pc0 := 219) (pc' := 223) rfl (Jvm.hb hby at_219) (by decide) (by decide) k) ?_
      refine own_go (B := T26.setTop (mkF m 225 #[.val (.long q1), .second, .val (.int p2), .val (.int p3), .val (.ref b10), .val (.int vf), .val (.int vt), .val (.int vr), .val (.int (1 : Int32))] [])) (fun t k => XS.istore X26.here hx rfl (Jvm.hb hby at_223) rfl (l' := #[.val (.long q1), .second, .val (.int p2), .val (.int p3), .val (.ref b10), .val (.int vf), .val (.int vt), .val (.int vr), .val (.int (1 : Int32))]) rfl k) ?_
      refine own_go (B := T26.setTop (mkF m 227 #[.val (.long q1), .second, .val (.int p2), .val (.int p3), .val (.ref b10), .val (.int vf), .val (.int vt), .val (.int vr), .val (.int (1 : Int32))] [(.int (1 : Int32))])) (fun t k => XS.iload X26.here hx rfl (Jvm.hb hby at_225) rfl k) ?_
      refine own_go (B := T26.setTop (mkF m 230 #[.val (.long q1), .second, .val (.int p2), .val (.int p3), .val (.ref b10), .val (.int vf), .val (.int vt), .val (.int vr), .val (.int (1 : Int32))] [])) (fun t k => XS.ifNo X26.here hx rfl (Jvm.hb hby at_227) rfl ((if0 _ _).trans (feq (by decide : ¬ ((1 : Int32) = (0 : Int32)))).1) k) ?_
      refine own_go (B := T26.setTop (mkF m 232 #[.val (.long q1), .second, .val (.int p2), .val (.int p3), .val (.ref b10), .val (.int vf), .val (.int vt), .val (.int vr), .val (.int (1 : Int32))] [(.ref b10)])) (fun t k => XS.aload X26.here hx rfl (Jvm.hb hby at_230) rfl rfl k) ?_
      refine own_go (B := T26.setTop (mkF m 233 #[.val (.long q1), .second, .val (.int p2), .val (.int p3), .val (.ref b10), .val (.int vf), .val (.int vt), .val (.int vr), .val (.int (1 : Int32))] [(.int (3 : Int32)), (.ref b10)])) (fun t k => XS.iconst X26.here hx rfl (Jvm.hb hby at_232) k) ?_
      refine own_go (B := T26.setTop (mkF m 235 #[.val (.long q1), .second, .val (.int p2), .val (.int p3), .val (.ref b10), .val (.int vf), .val (.int vt), .val (.int vr), .val (.int (1 : Int32))] [(.int vf), (.int (3 : Int32)), (.ref b10)])) (fun t k => XS.iload X26.here hx rfl (Jvm.hb hby at_233) rfl k) ?_
      refine own_go (B := T26.setTop (mkF m 237 #[.val (.long q1), .second, .val (.int p2), .val (.int p3), .val (.ref b10), .val (.int vf), .val (.int vt), .val (.int vr), .val (.int (1 : Int32))] [(.int vr), (.int vf), (.int (3 : Int32)), (.ref b10)])) (fun t k => XS.iload X26.here hx rfl (Jvm.hb hby at_235) rfl k) ?_
      obtain ⟨_, _, ⟨T27, La27, ka27, na27⟩, -, X27, ⟨Lc27, hQ27, l27, y27, z27⟩, st27⟩ := Jvm.LawKit.callS X26 hx (y := (⟨"com/example/serra/serra/input/LineFieldsSkipDigitsPinLaw", "inRunIsDigit", "([BIII)Z"⟩ : MethodName)) hown (mvT hZ (own_w hw 13 rfl)) (mvT hZ (own_w hw 14 rfl)) (mvT hZ (own_w hw 3 rfl)) (mvT hZ (own_w hw 15 rfl)) (by decide) (backOf (W := 0) (rm4 l Z a0 hw [] b10 (3 : Int32) vf vr (own_upd (own_upd (own_upd (own_upd (own_upd (fun _ => 0) 0 vb0.toInt8.toInt32) 1 vb1.toInt8.toInt32) 2 vb2.toInt8.toInt32) 3 vb3.toInt8.toInt32) 4 vb4.toInt8.toInt32) 3 h20 n0 Zs V_b10 (by decide) (by decide) (by decide)) hZ (own_w hw 15 rfl) (own_w hw 3 rfl) (by decide) (by decide)) (g := (mkF m 237 #[.val (.long q1), .second, .val (.int p2), .val (.int p3), .val (.ref b10), .val (.int vf), .val (.int vt), .val (.int vr), .val (.int (1 : Int32))] [(.int vr), (.int vf), (.int (3 : Int32)), (.ref b10)])) rfl (by rw [hml]; rfl) (argsL := [(.ref b10), (.int (3 : Int32)), (.int vf), (.int vr)]) (rest := []) (lenOf pd_3 rfl) rfl (by show 2 * 0 + _ ≤ _; exact Nat.le_of_eq rfl) (Jvm.hb hby at_237) (fun _ _ => ⟨rfl, e26, (by decide : 1 + 0 ≤ _), (by decide : 5 + 0 ≤ _)⟩)
      dsimp only [Pt.U, Pt.locs, Pt.cells, Pt.slots] at X27 l27 y27 z27 st27 hQ27
      subst l27 y27 z27
      obtain ⟨rfl, N27q, e27⟩ := hQ27
      have N27 := Fr.app N26 N27q
      refine own_go (B := T27.setTop (mkF m 240 #[.val (.long q1), .second, .val (.int p2), .val (.int p3), .val (.ref b10), .val (.int vf), .val (.int vt), .val (.int vr), .val (.int (1 : Int32))] [(.int (own_ir (own_upd (own_upd (own_upd (own_upd (own_upd (fun _ => 0) 0 vb0.toInt8.toInt32) 1 vb1.toInt8.toInt32) 2 vb2.toInt8.toInt32) 3 vb3.toInt8.toInt32) 4 vb4.toInt8.toInt32) (3 : Int32) 3 vf vr))])) (fun t k => st27 _ k) ?_
      refine own_go (B := T27.setTop (mkF m 243 #[.val (.long q1), .second, .val (.int p2), .val (.int p3), .val (.ref b10), .val (.int vf), .val (.int vt), .val (.int vr), .val (.int (1 : Int32))] [])) (fun t k => XS.ifNo X27.here hx rfl (Jvm.hb hby at_240) rfl ((if0 _ _).trans (feq (by rw [own_ir1 (own_upd (own_upd (own_upd (own_upd (own_upd (fun _ => 0) 0 vb0.toInt8.toInt32) 1 vb1.toInt8.toInt32) 2 vb2.toInt8.toInt32) 3 vb3.toInt8.toInt32) 4 vb4.toInt8.toInt32) _ 3 _ _ (by decide) hvf.1 _ hvr]; decide)).1) k) ?_
      refine own_go (B := T27.setTop (mkF m 244 #[.val (.long q1), .second, .val (.int p2), .val (.int p3), .val (.ref b10), .val (.int vf), .val (.int vt), .val (.int vr), .val (.int (1 : Int32))] [(.int (1 : Int32))])) (fun t k => XS.iconst X27.here hx rfl (Jvm.hb hby at_243) k) ?_
      refine own_go (B := T27.setTop (mkF m 248 #[.val (.long q1), .second, .val (.int p2), .val (.int p3), .val (.ref b10), .val (.int vf), .val (.int vt), .val (.int vr), .val (.int (1 : Int32))] [(.int (1 : Int32))])) (fun t k => XS.goto X27.here hx rfl (pc0 := 244) (pc' := 248) rfl (Jvm.hb hby at_244) (by decide) (by decide) k) ?_
      refine own_go (B := T27.setTop (mkF m 250 #[.val (.long q1), .second, .val (.int p2), .val (.int p3), .val (.ref b10), .val (.int vf), .val (.int vt), .val (.int vr), .val (.int (1 : Int32))] [])) (fun t k => XS.istore X27.here hx rfl (Jvm.hb hby at_248) rfl (l' := #[.val (.long q1), .second, .val (.int p2), .val (.int p3), .val (.ref b10), .val (.int vf), .val (.int vt), .val (.int vr), .val (.int (1 : Int32))]) rfl k) ?_
      refine own_go (B := T27.setTop (mkF m 252 #[.val (.long q1), .second, .val (.int p2), .val (.int p3), .val (.ref b10), .val (.int vf), .val (.int vt), .val (.int vr), .val (.int (1 : Int32))] [(.int (1 : Int32))])) (fun t k => XS.iload X27.here hx rfl (Jvm.hb hby at_250) rfl k) ?_
      refine own_go (B := T27.setTop (mkF m 255 #[.val (.long q1), .second, .val (.int p2), .val (.int p3), .val (.ref b10), .val (.int vf), .val (.int vt), .val (.int vr), .val (.int (1 : Int32))] [])) (fun t k => XS.ifNo X27.here hx rfl (Jvm.hb hby at_252) rfl ((if0 _ _).trans (feq (by decide : ¬ ((1 : Int32) = (0 : Int32)))).1) k) ?_
      refine own_go (B := T27.setTop (mkF m 257 #[.val (.long q1), .second, .val (.int p2), .val (.int p3), .val (.ref b10), .val (.int vf), .val (.int vt), .val (.int vr), .val (.int (1 : Int32))] [(.ref b10)])) (fun t k => XS.aload X27.here hx rfl (Jvm.hb hby at_255) rfl rfl k) ?_
      refine own_go (B := T27.setTop (mkF m 258 #[.val (.long q1), .second, .val (.int p2), .val (.int p3), .val (.ref b10), .val (.int vf), .val (.int vt), .val (.int vr), .val (.int (1 : Int32))] [(.int (4 : Int32)), (.ref b10)])) (fun t k => XS.iconst X27.here hx rfl (Jvm.hb hby at_257) k) ?_
      refine own_go (B := T27.setTop (mkF m 260 #[.val (.long q1), .second, .val (.int p2), .val (.int p3), .val (.ref b10), .val (.int vf), .val (.int vt), .val (.int vr), .val (.int (1 : Int32))] [(.int vf), (.int (4 : Int32)), (.ref b10)])) (fun t k => XS.iload X27.here hx rfl (Jvm.hb hby at_258) rfl k) ?_
      refine own_go (B := T27.setTop (mkF m 262 #[.val (.long q1), .second, .val (.int p2), .val (.int p3), .val (.ref b10), .val (.int vf), .val (.int vt), .val (.int vr), .val (.int (1 : Int32))] [(.int vr), (.int vf), (.int (4 : Int32)), (.ref b10)])) (fun t k => XS.iload X27.here hx rfl (Jvm.hb hby at_260) rfl k) ?_
      obtain ⟨_, _, ⟨T28, La28, ka28, na28⟩, -, X28, ⟨Lc28, hQ28, l28, y28, z28⟩, st28⟩ := Jvm.LawKit.callS X27 hx (y := (⟨"com/example/serra/serra/input/LineFieldsSkipDigitsPinLaw", "inRunIsDigit", "([BIII)Z"⟩ : MethodName)) hown (mvT hZ (own_w hw 13 rfl)) (mvT hZ (own_w hw 14 rfl)) (mvT hZ (own_w hw 3 rfl)) (mvT hZ (own_w hw 15 rfl)) (by decide) (backOf (W := 0) (rm4 l Z a0 hw [] b10 (4 : Int32) vf vr (own_upd (own_upd (own_upd (own_upd (own_upd (fun _ => 0) 0 vb0.toInt8.toInt32) 1 vb1.toInt8.toInt32) 2 vb2.toInt8.toInt32) 3 vb3.toInt8.toInt32) 4 vb4.toInt8.toInt32) 4 h20 n0 Zs V_b10 (by decide) (by decide) (by decide)) hZ (own_w hw 15 rfl) (own_w hw 3 rfl) (by decide) (by decide)) (g := (mkF m 262 #[.val (.long q1), .second, .val (.int p2), .val (.int p3), .val (.ref b10), .val (.int vf), .val (.int vt), .val (.int vr), .val (.int (1 : Int32))] [(.int vr), (.int vf), (.int (4 : Int32)), (.ref b10)])) rfl (by rw [hml]; rfl) (argsL := [(.ref b10), (.int (4 : Int32)), (.int vf), (.int vr)]) (rest := []) (lenOf pd_3 rfl) rfl (by show 2 * 0 + _ ≤ _; exact Nat.le_of_eq rfl) (Jvm.hb hby at_262) (fun _ _ => ⟨rfl, e27, (by decide : 1 + 0 ≤ _), (by decide : 5 + 0 ≤ _)⟩)
      dsimp only [Pt.U, Pt.locs, Pt.cells, Pt.slots] at X28 l28 y28 z28 st28 hQ28
      subst l28 y28 z28
      obtain ⟨rfl, N28q, e28⟩ := hQ28
      have N28 := Fr.app N27 N28q
      refine own_go (B := T28.setTop (mkF m 265 #[.val (.long q1), .second, .val (.int p2), .val (.int p3), .val (.ref b10), .val (.int vf), .val (.int vt), .val (.int vr), .val (.int (1 : Int32))] [(.int (own_ir (own_upd (own_upd (own_upd (own_upd (own_upd (fun _ => 0) 0 vb0.toInt8.toInt32) 1 vb1.toInt8.toInt32) 2 vb2.toInt8.toInt32) 3 vb3.toInt8.toInt32) 4 vb4.toInt8.toInt32) (4 : Int32) 4 vf vr))])) (fun t k => st28 _ k) ?_
      refine own_go (B := T28.setTop (mkF m 268 #[.val (.long q1), .second, .val (.int p2), .val (.int p3), .val (.ref b10), .val (.int vf), .val (.int vt), .val (.int vr), .val (.int (1 : Int32))] [])) (fun t k => XS.ifNo X28.here hx rfl (Jvm.hb hby at_265) rfl ((if0 _ _).trans (feq (by rw [own_ir1 (own_upd (own_upd (own_upd (own_upd (own_upd (fun _ => 0) 0 vb0.toInt8.toInt32) 1 vb1.toInt8.toInt32) 2 vb2.toInt8.toInt32) 3 vb3.toInt8.toInt32) 4 vb4.toInt8.toInt32) _ 4 _ _ (by decide) hvf.1 _ hvr]; decide)).1) k) ?_
      refine own_go (B := T28.setTop (mkF m 269 #[.val (.long q1), .second, .val (.int p2), .val (.int p3), .val (.ref b10), .val (.int vf), .val (.int vt), .val (.int vr), .val (.int (1 : Int32))] [(.int (1 : Int32))])) (fun t k => XS.iconst X28.here hx rfl (Jvm.hb hby at_268) k) ?_
      refine own_go (B := T28.setTop (mkF m 273 #[.val (.long q1), .second, .val (.int p2), .val (.int p3), .val (.ref b10), .val (.int vf), .val (.int vt), .val (.int vr), .val (.int (1 : Int32))] [(.int (1 : Int32))])) (fun t k => XS.goto X28.here hx rfl (pc0 := 269) (pc' := 273) rfl (Jvm.hb hby at_269) (by decide) (by decide) k) ?_
      refine own_go (B := T28.setTop (mkF m 275 #[.val (.long q1), .second, .val (.int p2), .val (.int p3), .val (.ref b10), .val (.int vf), .val (.int vt), .val (.int vr), .val (.int (1 : Int32))] [])) (fun t k => XS.istore X28.here hx rfl (Jvm.hb hby at_273) rfl (l' := #[.val (.long q1), .second, .val (.int p2), .val (.int p3), .val (.ref b10), .val (.int vf), .val (.int vt), .val (.int vr), .val (.int (1 : Int32))]) rfl k) ?_
      refine own_go (B := T28.setTop (mkF m 277 #[.val (.long q1), .second, .val (.int p2), .val (.int p3), .val (.ref b10), .val (.int vf), .val (.int vt), .val (.int vr), .val (.int (1 : Int32))] [(.int (1 : Int32))])) (fun t k => XS.iload X28.here hx rfl (Jvm.hb hby at_275) rfl k) ?_
      refine own_out X28 (v := (some (.int (1 : Int32)))) (fun h => by rw [Bd.returns] at h; cases h) Bd.notSynchronized (fun fs hr => retOut X28 hx (t := .boolean) Bd.returns rfl (by first | exact Or.inl ⟨rfl, by simp, _, rfl⟩) (Jvm.hb hby at_277) hr) ?_ (by decide) (by decide)
      show own_Q0 Z q1 p2 p3 h0 n0 (some (.int (1 : Int32))) T28.heap _
      rw [e28]
      exact ⟨rfl, N28⟩
    · refine own_go (B := T21.setTop (mkF m 132 #[.val (.long q1), .second, .val (.int p2), .val (.int p3), .val (.ref b10), .val (.int vf), .val (.int vt), .val (.int vr), .val (.int (1 : Int32))] [])) (fun t k => XS.icmpNo X21.here hx rfl (Jvm.hb hby at_129) rfl (feq hc129_23).1 k) ?_
      refine own_go (B := T21.setTop (mkF m 134 #[.val (.long q1), .second, .val (.int p2), .val (.int p3), .val (.ref b10), .val (.int vf), .val (.int vt), .val (.int vr), .val (.int (1 : Int32))] [(.ref b10)])) (fun t k => XS.aload X21.here hx rfl (Jvm.hb hby at_132) rfl rfl k) ?_
      refine own_go (B := T21.setTop (mkF m 136 #[.val (.long q1), .second, .val (.int p2), .val (.int p3), .val (.ref b10), .val (.int vf), .val (.int vt), .val (.int vr), .val (.int (1 : Int32))] [(.int vr), (.ref b10)])) (fun t k => XS.iload X21.here hx rfl (Jvm.hb hby at_134) rfl k) ?_
      refine own_go (B := T21.setTop (mkF m 137 #[.val (.long q1), .second, .val (.int p2), .val (.int p3), .val (.ref b10), .val (.int vf), .val (.int vt), .val (.int vr), .val (.int (1 : Int32))] [(.int ((own_upd (own_upd (own_upd (own_upd (own_upd (fun _ => 0) 0 vb0.toInt8.toInt32) 1 vb1.toInt8.toInt32) 2 vb2.toInt8.toInt32) 3 vb3.toInt8.toInt32) 4 vb4.toInt8.toInt32) vr.toNatClampNeg))])) (fun t k => own_baload X21 hx hZ e21 V_b10 (j := vr) (k := vr.toNatClampNeg) (by rw [own_nn]; exact hr4) rfl (by have c := hc83_22; have c2 : ¬ (vr.toInt = vt.toInt) := fun z => hc129_23 (Int32.toInt_inj.mp z); rw [Int32.lt_iff_toInt_lt] at c; have e := own_tn vr hr4; rcases hr2 with h | h; omega; rw [h] at e c2 ⊢; omega) (Jvm.hb hby at_136) t k) ?_
      obtain ⟨_, _, ⟨T29, La29, ka29, na29⟩, -, X29, ⟨Lc29, hQ29, l29, y29, z29⟩, st29⟩ := Jvm.LawKit.callS X21 hx (y := (⟨"com/example/serra/serra/input/LineFieldsSkipDigitsPinLaw", "d", "(B)Z"⟩ : MethodName)) hown (mvT hZ (own_w hw 10 rfl)) (mvT hZ (own_w hw 11 rfl)) (mvT hZ (own_w hw 3 rfl)) (mvT hZ (own_w hw 12 rfl)) (by decide) (backOf (W := 0) (rm3 l Z a0 hw [] ((own_upd (own_upd (own_upd (own_upd (own_upd (fun _ => 0) 0 vb0.toInt8.toInt32) 1 vb1.toInt8.toInt32) 2 vb2.toInt8.toInt32) 3 vb3.toInt8.toInt32) 4 vb4.toInt8.toInt32) vr.toNatClampNeg) h20 n0 Zs) hZ (own_w hw 12 rfl) (own_w hw 3 rfl) (by decide) (by decide)) (g := (mkF m 137 #[.val (.long q1), .second, .val (.int p2), .val (.int p3), .val (.ref b10), .val (.int vf), .val (.int vt), .val (.int vr), .val (.int (1 : Int32))] [(.int ((own_upd (own_upd (own_upd (own_upd (own_upd (fun _ => 0) 0 vb0.toInt8.toInt32) 1 vb1.toInt8.toInt32) 2 vb2.toInt8.toInt32) 3 vb3.toInt8.toInt32) 4 vb4.toInt8.toInt32) vr.toNatClampNeg))])) rfl (by rw [hml]; rfl) (argsL := [(.int ((own_upd (own_upd (own_upd (own_upd (own_upd (fun _ => 0) 0 vb0.toInt8.toInt32) 1 vb1.toInt8.toInt32) 2 vb2.toInt8.toInt32) 3 vb3.toInt8.toInt32) 4 vb4.toInt8.toInt32) vr.toNatClampNeg))]) (rest := []) (lenOf pd_0 rfl) rfl (by show 2 * 0 + _ ≤ _; exact Nat.le_of_eq rfl) (Jvm.hb hby at_137) (fun _ _ => ⟨rfl, e21, (by decide : 1 + 0 ≤ _), (by decide : 5 + 0 ≤ _)⟩)
      dsimp only [Pt.U, Pt.locs, Pt.cells, Pt.slots] at X29 l29 y29 z29 st29 hQ29
      subst l29 y29 z29
      obtain ⟨rfl, N29q, e29⟩ := hQ29
      have N29 := Fr.app N21 N29q
      refine own_go (B := T29.setTop (mkF m 140 #[.val (.long q1), .second, .val (.int p2), .val (.int p3), .val (.ref b10), .val (.int vf), .val (.int vt), .val (.int vr), .val (.int (1 : Int32))] [(.int (own_f3 ((own_upd (own_upd (own_upd (own_upd (own_upd (fun _ => 0) 0 vb0.toInt8.toInt32) 1 vb1.toInt8.toInt32) 2 vb2.toInt8.toInt32) 3 vb3.toInt8.toInt32) 4 vb4.toInt8.toInt32) vr.toNatClampNeg)))])) (fun t k => st29 _ k) ?_
      refine own_go (B := T29.setTop (mkF m 143 #[.val (.long q1), .second, .val (.int p2), .val (.int p3), .val (.ref b10), .val (.int vf), .val (.int vt), .val (.int vr), .val (.int (1 : Int32))] [])) (fun t k => XS.ifNo X29.here hx rfl (Jvm.hb hby at_140) rfl ((if0 _ _).trans (teq (own_fin (own_upd (own_upd (own_upd (own_upd (own_upd (fun _ => 0) 0 vb0.toInt8.toInt32) 1 vb1.toInt8.toInt32) 2 vb2.toInt8.toInt32) 3 vb3.toInt8.toInt32) 4 vb4.toInt8.toInt32) vf vt vr hvf hr4 (by have c := hc83_22; rw [Int32.lt_iff_toInt_lt] at c; exact c) hvr hc129_23)).2) k) ?_
      refine own_go (B := T29.setTop (mkF m 144 #[.val (.long q1), .second, .val (.int p2), .val (.int p3), .val (.ref b10), .val (.int vf), .val (.int vt), .val (.int vr), .val (.int (1 : Int32))] [(.int (1 : Int32))])) (fun t k => XS.iconst X29.here hx rfl (Jvm.hb hby at_143) k) ?_
      refine own_go (B := T29.setTop (mkF m 148 #[.val (.long q1), .second, .val (.int p2), .val (.int p3), .val (.ref b10), .val (.int vf), .val (.int vt), .val (.int vr), .val (.int (1 : Int32))] [(.int (1 : Int32))])) (fun t k => XS.goto X29.here hx rfl (pc0 := 144) (pc' := 148) rfl (Jvm.hb hby at_144) (by decide) (by decide) k) ?_
      refine own_go (B := T29.setTop (mkF m 150 #[.val (.long q1), .second, .val (.int p2), .val (.int p3), .val (.ref b10), .val (.int vf), .val (.int vt), .val (.int vr), .val (.int (1 : Int32))] [])) (fun t k => XS.istore X29.here hx rfl (Jvm.hb hby at_148) rfl (l' := #[.val (.long q1), .second, .val (.int p2), .val (.int p3), .val (.ref b10), .val (.int vf), .val (.int vt), .val (.int vr), .val (.int (1 : Int32))]) rfl k) ?_
      refine own_go (B := T29.setTop (mkF m 152 #[.val (.long q1), .second, .val (.int p2), .val (.int p3), .val (.ref b10), .val (.int vf), .val (.int vt), .val (.int vr), .val (.int (1 : Int32))] [(.int (1 : Int32))])) (fun t k => XS.iload X29.here hx rfl (Jvm.hb hby at_150) rfl k) ?_
      refine own_go (B := T29.setTop (mkF m 155 #[.val (.long q1), .second, .val (.int p2), .val (.int p3), .val (.ref b10), .val (.int vf), .val (.int vt), .val (.int vr), .val (.int (1 : Int32))] [])) (fun t k => XS.ifNo X29.here hx rfl (Jvm.hb hby at_152) rfl ((if0 _ _).trans (feq (by decide : ¬ ((1 : Int32) = (0 : Int32)))).1) k) ?_
      refine own_go (B := T29.setTop (mkF m 157 #[.val (.long q1), .second, .val (.int p2), .val (.int p3), .val (.ref b10), .val (.int vf), .val (.int vt), .val (.int vr), .val (.int (1 : Int32))] [(.ref b10)])) (fun t k => XS.aload X29.here hx rfl (Jvm.hb hby at_155) rfl rfl k) ?_
      refine own_go (B := T29.setTop (mkF m 158 #[.val (.long q1), .second, .val (.int p2), .val (.int p3), .val (.ref b10), .val (.int vf), .val (.int vt), .val (.int vr), .val (.int (1 : Int32))] [(.int (0 : Int32)), (.ref b10)])) (fun t k => XS.iconst X29.here hx rfl (Jvm.hb hby at_157) k) ?_
      refine own_go (B := T29.setTop (mkF m 160 #[.val (.long q1), .second, .val (.int p2), .val (.int p3), .val (.ref b10), .val (.int vf), .val (.int vt), .val (.int vr), .val (.int (1 : Int32))] [(.int vf), (.int (0 : Int32)), (.ref b10)])) (fun t k => XS.iload X29.here hx rfl (Jvm.hb hby at_158) rfl k) ?_
      refine own_go (B := T29.setTop (mkF m 162 #[.val (.long q1), .second, .val (.int p2), .val (.int p3), .val (.ref b10), .val (.int vf), .val (.int vt), .val (.int vr), .val (.int (1 : Int32))] [(.int vr), (.int vf), (.int (0 : Int32)), (.ref b10)])) (fun t k => XS.iload X29.here hx rfl (Jvm.hb hby at_160) rfl k) ?_
      obtain ⟨_, _, ⟨T30, La30, ka30, na30⟩, -, X30, ⟨Lc30, hQ30, l30, y30, z30⟩, st30⟩ := Jvm.LawKit.callS X29 hx (y := (⟨"com/example/serra/serra/input/LineFieldsSkipDigitsPinLaw", "inRunIsDigit", "([BIII)Z"⟩ : MethodName)) hown (mvT hZ (own_w hw 13 rfl)) (mvT hZ (own_w hw 14 rfl)) (mvT hZ (own_w hw 3 rfl)) (mvT hZ (own_w hw 15 rfl)) (by decide) (backOf (W := 0) (rm4 l Z a0 hw [] b10 (0 : Int32) vf vr (own_upd (own_upd (own_upd (own_upd (own_upd (fun _ => 0) 0 vb0.toInt8.toInt32) 1 vb1.toInt8.toInt32) 2 vb2.toInt8.toInt32) 3 vb3.toInt8.toInt32) 4 vb4.toInt8.toInt32) 0 h20 n0 Zs V_b10 (by decide) (by decide) (by decide)) hZ (own_w hw 15 rfl) (own_w hw 3 rfl) (by decide) (by decide)) (g := (mkF m 162 #[.val (.long q1), .second, .val (.int p2), .val (.int p3), .val (.ref b10), .val (.int vf), .val (.int vt), .val (.int vr), .val (.int (1 : Int32))] [(.int vr), (.int vf), (.int (0 : Int32)), (.ref b10)])) rfl (by rw [hml]; rfl) (argsL := [(.ref b10), (.int (0 : Int32)), (.int vf), (.int vr)]) (rest := []) (lenOf pd_3 rfl) rfl (by show 2 * 0 + _ ≤ _; exact Nat.le_of_eq rfl) (Jvm.hb hby at_162) (fun _ _ => ⟨rfl, e29, (by decide : 1 + 0 ≤ _), (by decide : 5 + 0 ≤ _)⟩)
      dsimp only [Pt.U, Pt.locs, Pt.cells, Pt.slots] at X30 l30 y30 z30 st30 hQ30
      subst l30 y30 z30
      obtain ⟨rfl, N30q, e30⟩ := hQ30
      have N30 := Fr.app N29 N30q
      refine own_go (B := T30.setTop (mkF m 165 #[.val (.long q1), .second, .val (.int p2), .val (.int p3), .val (.ref b10), .val (.int vf), .val (.int vt), .val (.int vr), .val (.int (1 : Int32))] [(.int (own_ir (own_upd (own_upd (own_upd (own_upd (own_upd (fun _ => 0) 0 vb0.toInt8.toInt32) 1 vb1.toInt8.toInt32) 2 vb2.toInt8.toInt32) 3 vb3.toInt8.toInt32) 4 vb4.toInt8.toInt32) (0 : Int32) 0 vf vr))])) (fun t k => st30 _ k) ?_
      refine own_go (B := T30.setTop (mkF m 168 #[.val (.long q1), .second, .val (.int p2), .val (.int p3), .val (.ref b10), .val (.int vf), .val (.int vt), .val (.int vr), .val (.int (1 : Int32))] [])) (fun t k => XS.ifNo X30.here hx rfl (Jvm.hb hby at_165) rfl ((if0 _ _).trans (feq (by rw [own_ir1 (own_upd (own_upd (own_upd (own_upd (own_upd (fun _ => 0) 0 vb0.toInt8.toInt32) 1 vb1.toInt8.toInt32) 2 vb2.toInt8.toInt32) 3 vb3.toInt8.toInt32) 4 vb4.toInt8.toInt32) _ 0 _ _ (by decide) hvf.1 _ hvr]; decide)).1) k) ?_
      refine own_go (B := T30.setTop (mkF m 169 #[.val (.long q1), .second, .val (.int p2), .val (.int p3), .val (.ref b10), .val (.int vf), .val (.int vt), .val (.int vr), .val (.int (1 : Int32))] [(.int (1 : Int32))])) (fun t k => XS.iconst X30.here hx rfl (Jvm.hb hby at_168) k) ?_
      refine own_go (B := T30.setTop (mkF m 173 #[.val (.long q1), .second, .val (.int p2), .val (.int p3), .val (.ref b10), .val (.int vf), .val (.int vt), .val (.int vr), .val (.int (1 : Int32))] [(.int (1 : Int32))])) (fun t k => XS.goto X30.here hx rfl (pc0 := 169) (pc' := 173) rfl (Jvm.hb hby at_169) (by decide) (by decide) k) ?_
      refine own_go (B := T30.setTop (mkF m 175 #[.val (.long q1), .second, .val (.int p2), .val (.int p3), .val (.ref b10), .val (.int vf), .val (.int vt), .val (.int vr), .val (.int (1 : Int32))] [])) (fun t k => XS.istore X30.here hx rfl (Jvm.hb hby at_173) rfl (l' := #[.val (.long q1), .second, .val (.int p2), .val (.int p3), .val (.ref b10), .val (.int vf), .val (.int vt), .val (.int vr), .val (.int (1 : Int32))]) rfl k) ?_
      refine own_go (B := T30.setTop (mkF m 177 #[.val (.long q1), .second, .val (.int p2), .val (.int p3), .val (.ref b10), .val (.int vf), .val (.int vt), .val (.int vr), .val (.int (1 : Int32))] [(.int (1 : Int32))])) (fun t k => XS.iload X30.here hx rfl (Jvm.hb hby at_175) rfl k) ?_
      refine own_go (B := T30.setTop (mkF m 180 #[.val (.long q1), .second, .val (.int p2), .val (.int p3), .val (.ref b10), .val (.int vf), .val (.int vt), .val (.int vr), .val (.int (1 : Int32))] [])) (fun t k => XS.ifNo X30.here hx rfl (Jvm.hb hby at_177) rfl ((if0 _ _).trans (feq (by decide : ¬ ((1 : Int32) = (0 : Int32)))).1) k) ?_
      refine own_go (B := T30.setTop (mkF m 182 #[.val (.long q1), .second, .val (.int p2), .val (.int p3), .val (.ref b10), .val (.int vf), .val (.int vt), .val (.int vr), .val (.int (1 : Int32))] [(.ref b10)])) (fun t k => XS.aload X30.here hx rfl (Jvm.hb hby at_180) rfl rfl k) ?_
      refine own_go (B := T30.setTop (mkF m 183 #[.val (.long q1), .second, .val (.int p2), .val (.int p3), .val (.ref b10), .val (.int vf), .val (.int vt), .val (.int vr), .val (.int (1 : Int32))] [(.int (1 : Int32)), (.ref b10)])) (fun t k => XS.iconst X30.here hx rfl (Jvm.hb hby at_182) k) ?_
      refine own_go (B := T30.setTop (mkF m 185 #[.val (.long q1), .second, .val (.int p2), .val (.int p3), .val (.ref b10), .val (.int vf), .val (.int vt), .val (.int vr), .val (.int (1 : Int32))] [(.int vf), (.int (1 : Int32)), (.ref b10)])) (fun t k => XS.iload X30.here hx rfl (Jvm.hb hby at_183) rfl k) ?_
      refine own_go (B := T30.setTop (mkF m 187 #[.val (.long q1), .second, .val (.int p2), .val (.int p3), .val (.ref b10), .val (.int vf), .val (.int vt), .val (.int vr), .val (.int (1 : Int32))] [(.int vr), (.int vf), (.int (1 : Int32)), (.ref b10)])) (fun t k => XS.iload X30.here hx rfl (Jvm.hb hby at_185) rfl k) ?_
      obtain ⟨_, _, ⟨T31, La31, ka31, na31⟩, -, X31, ⟨Lc31, hQ31, l31, y31, z31⟩, st31⟩ := Jvm.LawKit.callS X30 hx (y := (⟨"com/example/serra/serra/input/LineFieldsSkipDigitsPinLaw", "inRunIsDigit", "([BIII)Z"⟩ : MethodName)) hown (mvT hZ (own_w hw 13 rfl)) (mvT hZ (own_w hw 14 rfl)) (mvT hZ (own_w hw 3 rfl)) (mvT hZ (own_w hw 15 rfl)) (by decide) (backOf (W := 0) (rm4 l Z a0 hw [] b10 (1 : Int32) vf vr (own_upd (own_upd (own_upd (own_upd (own_upd (fun _ => 0) 0 vb0.toInt8.toInt32) 1 vb1.toInt8.toInt32) 2 vb2.toInt8.toInt32) 3 vb3.toInt8.toInt32) 4 vb4.toInt8.toInt32) 1 h20 n0 Zs V_b10 (by decide) (by decide) (by decide)) hZ (own_w hw 15 rfl) (own_w hw 3 rfl) (by decide) (by decide)) (g := (mkF m 187 #[.val (.long q1), .second, .val (.int p2), .val (.int p3), .val (.ref b10), .val (.int vf), .val (.int vt), .val (.int vr), .val (.int (1 : Int32))] [(.int vr), (.int vf), (.int (1 : Int32)), (.ref b10)])) rfl (by rw [hml]; rfl) (argsL := [(.ref b10), (.int (1 : Int32)), (.int vf), (.int vr)]) (rest := []) (lenOf pd_3 rfl) rfl (by show 2 * 0 + _ ≤ _; exact Nat.le_of_eq rfl) (Jvm.hb hby at_187) (fun _ _ => ⟨rfl, e30, (by decide : 1 + 0 ≤ _), (by decide : 5 + 0 ≤ _)⟩)
      dsimp only [Pt.U, Pt.locs, Pt.cells, Pt.slots] at X31 l31 y31 z31 st31 hQ31
      subst l31 y31 z31
      obtain ⟨rfl, N31q, e31⟩ := hQ31
      have N31 := Fr.app N30 N31q
      refine own_go (B := T31.setTop (mkF m 190 #[.val (.long q1), .second, .val (.int p2), .val (.int p3), .val (.ref b10), .val (.int vf), .val (.int vt), .val (.int vr), .val (.int (1 : Int32))] [(.int (own_ir (own_upd (own_upd (own_upd (own_upd (own_upd (fun _ => 0) 0 vb0.toInt8.toInt32) 1 vb1.toInt8.toInt32) 2 vb2.toInt8.toInt32) 3 vb3.toInt8.toInt32) 4 vb4.toInt8.toInt32) (1 : Int32) 1 vf vr))])) (fun t k => st31 _ k) ?_
      refine own_go (B := T31.setTop (mkF m 193 #[.val (.long q1), .second, .val (.int p2), .val (.int p3), .val (.ref b10), .val (.int vf), .val (.int vt), .val (.int vr), .val (.int (1 : Int32))] [])) (fun t k => XS.ifNo X31.here hx rfl (Jvm.hb hby at_190) rfl ((if0 _ _).trans (feq (by rw [own_ir1 (own_upd (own_upd (own_upd (own_upd (own_upd (fun _ => 0) 0 vb0.toInt8.toInt32) 1 vb1.toInt8.toInt32) 2 vb2.toInt8.toInt32) 3 vb3.toInt8.toInt32) 4 vb4.toInt8.toInt32) _ 1 _ _ (by decide) hvf.1 _ hvr]; decide)).1) k) ?_
      refine own_go (B := T31.setTop (mkF m 194 #[.val (.long q1), .second, .val (.int p2), .val (.int p3), .val (.ref b10), .val (.int vf), .val (.int vt), .val (.int vr), .val (.int (1 : Int32))] [(.int (1 : Int32))])) (fun t k => XS.iconst X31.here hx rfl (Jvm.hb hby at_193) k) ?_
      refine own_go (B := T31.setTop (mkF m 198 #[.val (.long q1), .second, .val (.int p2), .val (.int p3), .val (.ref b10), .val (.int vf), .val (.int vt), .val (.int vr), .val (.int (1 : Int32))] [(.int (1 : Int32))])) (fun t k => XS.goto X31.here hx rfl (pc0 := 194) (pc' := 198) rfl (Jvm.hb hby at_194) (by decide) (by decide) k) ?_
      refine own_go (B := T31.setTop (mkF m 200 #[.val (.long q1), .second, .val (.int p2), .val (.int p3), .val (.ref b10), .val (.int vf), .val (.int vt), .val (.int vr), .val (.int (1 : Int32))] [])) (fun t k => XS.istore X31.here hx rfl (Jvm.hb hby at_198) rfl (l' := #[.val (.long q1), .second, .val (.int p2), .val (.int p3), .val (.ref b10), .val (.int vf), .val (.int vt), .val (.int vr), .val (.int (1 : Int32))]) rfl k) ?_
      refine own_go (B := T31.setTop (mkF m 202 #[.val (.long q1), .second, .val (.int p2), .val (.int p3), .val (.ref b10), .val (.int vf), .val (.int vt), .val (.int vr), .val (.int (1 : Int32))] [(.int (1 : Int32))])) (fun t k => XS.iload X31.here hx rfl (Jvm.hb hby at_200) rfl k) ?_
      refine own_go (B := T31.setTop (mkF m 205 #[.val (.long q1), .second, .val (.int p2), .val (.int p3), .val (.ref b10), .val (.int vf), .val (.int vt), .val (.int vr), .val (.int (1 : Int32))] [])) (fun t k => XS.ifNo X31.here hx rfl (Jvm.hb hby at_202) rfl ((if0 _ _).trans (feq (by decide : ¬ ((1 : Int32) = (0 : Int32)))).1) k) ?_
      refine own_go (B := T31.setTop (mkF m 207 #[.val (.long q1), .second, .val (.int p2), .val (.int p3), .val (.ref b10), .val (.int vf), .val (.int vt), .val (.int vr), .val (.int (1 : Int32))] [(.ref b10)])) (fun t k => XS.aload X31.here hx rfl (Jvm.hb hby at_205) rfl rfl k) ?_
      refine own_go (B := T31.setTop (mkF m 208 #[.val (.long q1), .second, .val (.int p2), .val (.int p3), .val (.ref b10), .val (.int vf), .val (.int vt), .val (.int vr), .val (.int (1 : Int32))] [(.int (2 : Int32)), (.ref b10)])) (fun t k => XS.iconst X31.here hx rfl (Jvm.hb hby at_207) k) ?_
      refine own_go (B := T31.setTop (mkF m 210 #[.val (.long q1), .second, .val (.int p2), .val (.int p3), .val (.ref b10), .val (.int vf), .val (.int vt), .val (.int vr), .val (.int (1 : Int32))] [(.int vf), (.int (2 : Int32)), (.ref b10)])) (fun t k => XS.iload X31.here hx rfl (Jvm.hb hby at_208) rfl k) ?_
      refine own_go (B := T31.setTop (mkF m 212 #[.val (.long q1), .second, .val (.int p2), .val (.int p3), .val (.ref b10), .val (.int vf), .val (.int vt), .val (.int vr), .val (.int (1 : Int32))] [(.int vr), (.int vf), (.int (2 : Int32)), (.ref b10)])) (fun t k => XS.iload X31.here hx rfl (Jvm.hb hby at_210) rfl k) ?_
      obtain ⟨_, _, ⟨T32, La32, ka32, na32⟩, -, X32, ⟨Lc32, hQ32, l32, y32, z32⟩, st32⟩ := Jvm.LawKit.callS X31 hx (y := (⟨"com/example/serra/serra/input/LineFieldsSkipDigitsPinLaw", "inRunIsDigit", "([BIII)Z"⟩ : MethodName)) hown (mvT hZ (own_w hw 13 rfl)) (mvT hZ (own_w hw 14 rfl)) (mvT hZ (own_w hw 3 rfl)) (mvT hZ (own_w hw 15 rfl)) (by decide) (backOf (W := 0) (rm4 l Z a0 hw [] b10 (2 : Int32) vf vr (own_upd (own_upd (own_upd (own_upd (own_upd (fun _ => 0) 0 vb0.toInt8.toInt32) 1 vb1.toInt8.toInt32) 2 vb2.toInt8.toInt32) 3 vb3.toInt8.toInt32) 4 vb4.toInt8.toInt32) 2 h20 n0 Zs V_b10 (by decide) (by decide) (by decide)) hZ (own_w hw 15 rfl) (own_w hw 3 rfl) (by decide) (by decide)) (g := (mkF m 212 #[.val (.long q1), .second, .val (.int p2), .val (.int p3), .val (.ref b10), .val (.int vf), .val (.int vt), .val (.int vr), .val (.int (1 : Int32))] [(.int vr), (.int vf), (.int (2 : Int32)), (.ref b10)])) rfl (by rw [hml]; rfl) (argsL := [(.ref b10), (.int (2 : Int32)), (.int vf), (.int vr)]) (rest := []) (lenOf pd_3 rfl) rfl (by show 2 * 0 + _ ≤ _; exact Nat.le_of_eq rfl) (Jvm.hb hby at_212) (fun _ _ => ⟨rfl, e31, (by decide : 1 + 0 ≤ _), (by decide : 5 + 0 ≤ _)⟩)
      dsimp only [Pt.U, Pt.locs, Pt.cells, Pt.slots] at X32 l32 y32 z32 st32 hQ32
      subst l32 y32 z32
      obtain ⟨rfl, N32q, e32⟩ := hQ32
      have N32 := Fr.app N31 N32q
      refine own_go (B := T32.setTop (mkF m 215 #[.val (.long q1), .second, .val (.int p2), .val (.int p3), .val (.ref b10), .val (.int vf), .val (.int vt), .val (.int vr), .val (.int (1 : Int32))] [(.int (own_ir (own_upd (own_upd (own_upd (own_upd (own_upd (fun _ => 0) 0 vb0.toInt8.toInt32) 1 vb1.toInt8.toInt32) 2 vb2.toInt8.toInt32) 3 vb3.toInt8.toInt32) 4 vb4.toInt8.toInt32) (2 : Int32) 2 vf vr))])) (fun t k => st32 _ k) ?_
      refine own_go (B := T32.setTop (mkF m 218 #[.val (.long q1), .second, .val (.int p2), .val (.int p3), .val (.ref b10), .val (.int vf), .val (.int vt), .val (.int vr), .val (.int (1 : Int32))] [])) (fun t k => XS.ifNo X32.here hx rfl (Jvm.hb hby at_215) rfl ((if0 _ _).trans (feq (by rw [own_ir1 (own_upd (own_upd (own_upd (own_upd (own_upd (fun _ => 0) 0 vb0.toInt8.toInt32) 1 vb1.toInt8.toInt32) 2 vb2.toInt8.toInt32) 3 vb3.toInt8.toInt32) 4 vb4.toInt8.toInt32) _ 2 _ _ (by decide) hvf.1 _ hvr]; decide)).1) k) ?_
      refine own_go (B := T32.setTop (mkF m 219 #[.val (.long q1), .second, .val (.int p2), .val (.int p3), .val (.ref b10), .val (.int vf), .val (.int vt), .val (.int vr), .val (.int (1 : Int32))] [(.int (1 : Int32))])) (fun t k => XS.iconst X32.here hx rfl (Jvm.hb hby at_218) k) ?_
      refine own_go (B := T32.setTop (mkF m 223 #[.val (.long q1), .second, .val (.int p2), .val (.int p3), .val (.ref b10), .val (.int vf), .val (.int vt), .val (.int vr), .val (.int (1 : Int32))] [(.int (1 : Int32))])) (fun t k => XS.goto X32.here hx rfl (pc0 := 219) (pc' := 223) rfl (Jvm.hb hby at_219) (by decide) (by decide) k) ?_
      refine own_go (B := T32.setTop (mkF m 225 #[.val (.long q1), .second, .val (.int p2), .val (.int p3), .val (.ref b10), .val (.int vf), .val (.int vt), .val (.int vr), .val (.int (1 : Int32))] [])) (fun t k => XS.istore X32.here hx rfl (Jvm.hb hby at_223) rfl (l' := #[.val (.long q1), .second, .val (.int p2), .val (.int p3), .val (.ref b10), .val (.int vf), .val (.int vt), .val (.int vr), .val (.int (1 : Int32))]) rfl k) ?_
      refine own_go (B := T32.setTop (mkF m 227 #[.val (.long q1), .second, .val (.int p2), .val (.int p3), .val (.ref b10), .val (.int vf), .val (.int vt), .val (.int vr), .val (.int (1 : Int32))] [(.int (1 : Int32))])) (fun t k => XS.iload X32.here hx rfl (Jvm.hb hby at_225) rfl k) ?_
      refine own_go (B := T32.setTop (mkF m 230 #[.val (.long q1), .second, .val (.int p2), .val (.int p3), .val (.ref b10), .val (.int vf), .val (.int vt), .val (.int vr), .val (.int (1 : Int32))] [])) (fun t k => XS.ifNo X32.here hx rfl (Jvm.hb hby at_227) rfl ((if0 _ _).trans (feq (by decide : ¬ ((1 : Int32) = (0 : Int32)))).1) k) ?_
      refine own_go (B := T32.setTop (mkF m 232 #[.val (.long q1), .second, .val (.int p2), .val (.int p3), .val (.ref b10), .val (.int vf), .val (.int vt), .val (.int vr), .val (.int (1 : Int32))] [(.ref b10)])) (fun t k => XS.aload X32.here hx rfl (Jvm.hb hby at_230) rfl rfl k) ?_
      refine own_go (B := T32.setTop (mkF m 233 #[.val (.long q1), .second, .val (.int p2), .val (.int p3), .val (.ref b10), .val (.int vf), .val (.int vt), .val (.int vr), .val (.int (1 : Int32))] [(.int (3 : Int32)), (.ref b10)])) (fun t k => XS.iconst X32.here hx rfl (Jvm.hb hby at_232) k) ?_
      refine own_go (B := T32.setTop (mkF m 235 #[.val (.long q1), .second, .val (.int p2), .val (.int p3), .val (.ref b10), .val (.int vf), .val (.int vt), .val (.int vr), .val (.int (1 : Int32))] [(.int vf), (.int (3 : Int32)), (.ref b10)])) (fun t k => XS.iload X32.here hx rfl (Jvm.hb hby at_233) rfl k) ?_
      refine own_go (B := T32.setTop (mkF m 237 #[.val (.long q1), .second, .val (.int p2), .val (.int p3), .val (.ref b10), .val (.int vf), .val (.int vt), .val (.int vr), .val (.int (1 : Int32))] [(.int vr), (.int vf), (.int (3 : Int32)), (.ref b10)])) (fun t k => XS.iload X32.here hx rfl (Jvm.hb hby at_235) rfl k) ?_
      obtain ⟨_, _, ⟨T33, La33, ka33, na33⟩, -, X33, ⟨Lc33, hQ33, l33, y33, z33⟩, st33⟩ := Jvm.LawKit.callS X32 hx (y := (⟨"com/example/serra/serra/input/LineFieldsSkipDigitsPinLaw", "inRunIsDigit", "([BIII)Z"⟩ : MethodName)) hown (mvT hZ (own_w hw 13 rfl)) (mvT hZ (own_w hw 14 rfl)) (mvT hZ (own_w hw 3 rfl)) (mvT hZ (own_w hw 15 rfl)) (by decide) (backOf (W := 0) (rm4 l Z a0 hw [] b10 (3 : Int32) vf vr (own_upd (own_upd (own_upd (own_upd (own_upd (fun _ => 0) 0 vb0.toInt8.toInt32) 1 vb1.toInt8.toInt32) 2 vb2.toInt8.toInt32) 3 vb3.toInt8.toInt32) 4 vb4.toInt8.toInt32) 3 h20 n0 Zs V_b10 (by decide) (by decide) (by decide)) hZ (own_w hw 15 rfl) (own_w hw 3 rfl) (by decide) (by decide)) (g := (mkF m 237 #[.val (.long q1), .second, .val (.int p2), .val (.int p3), .val (.ref b10), .val (.int vf), .val (.int vt), .val (.int vr), .val (.int (1 : Int32))] [(.int vr), (.int vf), (.int (3 : Int32)), (.ref b10)])) rfl (by rw [hml]; rfl) (argsL := [(.ref b10), (.int (3 : Int32)), (.int vf), (.int vr)]) (rest := []) (lenOf pd_3 rfl) rfl (by show 2 * 0 + _ ≤ _; exact Nat.le_of_eq rfl) (Jvm.hb hby at_237) (fun _ _ => ⟨rfl, e32, (by decide : 1 + 0 ≤ _), (by decide : 5 + 0 ≤ _)⟩)
      dsimp only [Pt.U, Pt.locs, Pt.cells, Pt.slots] at X33 l33 y33 z33 st33 hQ33
      subst l33 y33 z33
      obtain ⟨rfl, N33q, e33⟩ := hQ33
      have N33 := Fr.app N32 N33q
      refine own_go (B := T33.setTop (mkF m 240 #[.val (.long q1), .second, .val (.int p2), .val (.int p3), .val (.ref b10), .val (.int vf), .val (.int vt), .val (.int vr), .val (.int (1 : Int32))] [(.int (own_ir (own_upd (own_upd (own_upd (own_upd (own_upd (fun _ => 0) 0 vb0.toInt8.toInt32) 1 vb1.toInt8.toInt32) 2 vb2.toInt8.toInt32) 3 vb3.toInt8.toInt32) 4 vb4.toInt8.toInt32) (3 : Int32) 3 vf vr))])) (fun t k => st33 _ k) ?_
      refine own_go (B := T33.setTop (mkF m 243 #[.val (.long q1), .second, .val (.int p2), .val (.int p3), .val (.ref b10), .val (.int vf), .val (.int vt), .val (.int vr), .val (.int (1 : Int32))] [])) (fun t k => XS.ifNo X33.here hx rfl (Jvm.hb hby at_240) rfl ((if0 _ _).trans (feq (by rw [own_ir1 (own_upd (own_upd (own_upd (own_upd (own_upd (fun _ => 0) 0 vb0.toInt8.toInt32) 1 vb1.toInt8.toInt32) 2 vb2.toInt8.toInt32) 3 vb3.toInt8.toInt32) 4 vb4.toInt8.toInt32) _ 3 _ _ (by decide) hvf.1 _ hvr]; decide)).1) k) ?_
      refine own_go (B := T33.setTop (mkF m 244 #[.val (.long q1), .second, .val (.int p2), .val (.int p3), .val (.ref b10), .val (.int vf), .val (.int vt), .val (.int vr), .val (.int (1 : Int32))] [(.int (1 : Int32))])) (fun t k => XS.iconst X33.here hx rfl (Jvm.hb hby at_243) k) ?_
      refine own_go (B := T33.setTop (mkF m 248 #[.val (.long q1), .second, .val (.int p2), .val (.int p3), .val (.ref b10), .val (.int vf), .val (.int vt), .val (.int vr), .val (.int (1 : Int32))] [(.int (1 : Int32))])) (fun t k => XS.goto X33.here hx rfl (pc0 := 244) (pc' := 248) rfl (Jvm.hb hby at_244) (by decide) (by decide) k) ?_
      refine own_go (B := T33.setTop (mkF m 250 #[.val (.long q1), .second, .val (.int p2), .val (.int p3), .val (.ref b10), .val (.int vf), .val (.int vt), .val (.int vr), .val (.int (1 : Int32))] [])) (fun t k => XS.istore X33.here hx rfl (Jvm.hb hby at_248) rfl (l' := #[.val (.long q1), .second, .val (.int p2), .val (.int p3), .val (.ref b10), .val (.int vf), .val (.int vt), .val (.int vr), .val (.int (1 : Int32))]) rfl k) ?_
      refine own_go (B := T33.setTop (mkF m 252 #[.val (.long q1), .second, .val (.int p2), .val (.int p3), .val (.ref b10), .val (.int vf), .val (.int vt), .val (.int vr), .val (.int (1 : Int32))] [(.int (1 : Int32))])) (fun t k => XS.iload X33.here hx rfl (Jvm.hb hby at_250) rfl k) ?_
      refine own_go (B := T33.setTop (mkF m 255 #[.val (.long q1), .second, .val (.int p2), .val (.int p3), .val (.ref b10), .val (.int vf), .val (.int vt), .val (.int vr), .val (.int (1 : Int32))] [])) (fun t k => XS.ifNo X33.here hx rfl (Jvm.hb hby at_252) rfl ((if0 _ _).trans (feq (by decide : ¬ ((1 : Int32) = (0 : Int32)))).1) k) ?_
      refine own_go (B := T33.setTop (mkF m 257 #[.val (.long q1), .second, .val (.int p2), .val (.int p3), .val (.ref b10), .val (.int vf), .val (.int vt), .val (.int vr), .val (.int (1 : Int32))] [(.ref b10)])) (fun t k => XS.aload X33.here hx rfl (Jvm.hb hby at_255) rfl rfl k) ?_
      refine own_go (B := T33.setTop (mkF m 258 #[.val (.long q1), .second, .val (.int p2), .val (.int p3), .val (.ref b10), .val (.int vf), .val (.int vt), .val (.int vr), .val (.int (1 : Int32))] [(.int (4 : Int32)), (.ref b10)])) (fun t k => XS.iconst X33.here hx rfl (Jvm.hb hby at_257) k) ?_
      refine own_go (B := T33.setTop (mkF m 260 #[.val (.long q1), .second, .val (.int p2), .val (.int p3), .val (.ref b10), .val (.int vf), .val (.int vt), .val (.int vr), .val (.int (1 : Int32))] [(.int vf), (.int (4 : Int32)), (.ref b10)])) (fun t k => XS.iload X33.here hx rfl (Jvm.hb hby at_258) rfl k) ?_
      refine own_go (B := T33.setTop (mkF m 262 #[.val (.long q1), .second, .val (.int p2), .val (.int p3), .val (.ref b10), .val (.int vf), .val (.int vt), .val (.int vr), .val (.int (1 : Int32))] [(.int vr), (.int vf), (.int (4 : Int32)), (.ref b10)])) (fun t k => XS.iload X33.here hx rfl (Jvm.hb hby at_260) rfl k) ?_
      obtain ⟨_, _, ⟨T34, La34, ka34, na34⟩, -, X34, ⟨Lc34, hQ34, l34, y34, z34⟩, st34⟩ := Jvm.LawKit.callS X33 hx (y := (⟨"com/example/serra/serra/input/LineFieldsSkipDigitsPinLaw", "inRunIsDigit", "([BIII)Z"⟩ : MethodName)) hown (mvT hZ (own_w hw 13 rfl)) (mvT hZ (own_w hw 14 rfl)) (mvT hZ (own_w hw 3 rfl)) (mvT hZ (own_w hw 15 rfl)) (by decide) (backOf (W := 0) (rm4 l Z a0 hw [] b10 (4 : Int32) vf vr (own_upd (own_upd (own_upd (own_upd (own_upd (fun _ => 0) 0 vb0.toInt8.toInt32) 1 vb1.toInt8.toInt32) 2 vb2.toInt8.toInt32) 3 vb3.toInt8.toInt32) 4 vb4.toInt8.toInt32) 4 h20 n0 Zs V_b10 (by decide) (by decide) (by decide)) hZ (own_w hw 15 rfl) (own_w hw 3 rfl) (by decide) (by decide)) (g := (mkF m 262 #[.val (.long q1), .second, .val (.int p2), .val (.int p3), .val (.ref b10), .val (.int vf), .val (.int vt), .val (.int vr), .val (.int (1 : Int32))] [(.int vr), (.int vf), (.int (4 : Int32)), (.ref b10)])) rfl (by rw [hml]; rfl) (argsL := [(.ref b10), (.int (4 : Int32)), (.int vf), (.int vr)]) (rest := []) (lenOf pd_3 rfl) rfl (by show 2 * 0 + _ ≤ _; exact Nat.le_of_eq rfl) (Jvm.hb hby at_262) (fun _ _ => ⟨rfl, e33, (by decide : 1 + 0 ≤ _), (by decide : 5 + 0 ≤ _)⟩)
      dsimp only [Pt.U, Pt.locs, Pt.cells, Pt.slots] at X34 l34 y34 z34 st34 hQ34
      subst l34 y34 z34
      obtain ⟨rfl, N34q, e34⟩ := hQ34
      have N34 := Fr.app N33 N34q
      refine own_go (B := T34.setTop (mkF m 265 #[.val (.long q1), .second, .val (.int p2), .val (.int p3), .val (.ref b10), .val (.int vf), .val (.int vt), .val (.int vr), .val (.int (1 : Int32))] [(.int (own_ir (own_upd (own_upd (own_upd (own_upd (own_upd (fun _ => 0) 0 vb0.toInt8.toInt32) 1 vb1.toInt8.toInt32) 2 vb2.toInt8.toInt32) 3 vb3.toInt8.toInt32) 4 vb4.toInt8.toInt32) (4 : Int32) 4 vf vr))])) (fun t k => st34 _ k) ?_
      refine own_go (B := T34.setTop (mkF m 268 #[.val (.long q1), .second, .val (.int p2), .val (.int p3), .val (.ref b10), .val (.int vf), .val (.int vt), .val (.int vr), .val (.int (1 : Int32))] [])) (fun t k => XS.ifNo X34.here hx rfl (Jvm.hb hby at_265) rfl ((if0 _ _).trans (feq (by rw [own_ir1 (own_upd (own_upd (own_upd (own_upd (own_upd (fun _ => 0) 0 vb0.toInt8.toInt32) 1 vb1.toInt8.toInt32) 2 vb2.toInt8.toInt32) 3 vb3.toInt8.toInt32) 4 vb4.toInt8.toInt32) _ 4 _ _ (by decide) hvf.1 _ hvr]; decide)).1) k) ?_
      refine own_go (B := T34.setTop (mkF m 269 #[.val (.long q1), .second, .val (.int p2), .val (.int p3), .val (.ref b10), .val (.int vf), .val (.int vt), .val (.int vr), .val (.int (1 : Int32))] [(.int (1 : Int32))])) (fun t k => XS.iconst X34.here hx rfl (Jvm.hb hby at_268) k) ?_
      refine own_go (B := T34.setTop (mkF m 273 #[.val (.long q1), .second, .val (.int p2), .val (.int p3), .val (.ref b10), .val (.int vf), .val (.int vt), .val (.int vr), .val (.int (1 : Int32))] [(.int (1 : Int32))])) (fun t k => XS.goto X34.here hx rfl (pc0 := 269) (pc' := 273) rfl (Jvm.hb hby at_269) (by decide) (by decide) k) ?_
      refine own_go (B := T34.setTop (mkF m 275 #[.val (.long q1), .second, .val (.int p2), .val (.int p3), .val (.ref b10), .val (.int vf), .val (.int vt), .val (.int vr), .val (.int (1 : Int32))] [])) (fun t k => XS.istore X34.here hx rfl (Jvm.hb hby at_273) rfl (l' := #[.val (.long q1), .second, .val (.int p2), .val (.int p3), .val (.ref b10), .val (.int vf), .val (.int vt), .val (.int vr), .val (.int (1 : Int32))]) rfl k) ?_
      refine own_go (B := T34.setTop (mkF m 277 #[.val (.long q1), .second, .val (.int p2), .val (.int p3), .val (.ref b10), .val (.int vf), .val (.int vt), .val (.int vr), .val (.int (1 : Int32))] [(.int (1 : Int32))])) (fun t k => XS.iload X34.here hx rfl (Jvm.hb hby at_275) rfl k) ?_
      refine own_out X34 (v := (some (.int (1 : Int32)))) (fun h => by rw [Bd.returns] at h; cases h) Bd.notSynchronized (fun fs hr => retOut X34 hx (t := .boolean) Bd.returns rfl (by first | exact Or.inl ⟨rfl, by simp, _, rfl⟩) (Jvm.hb hby at_277) hr) ?_ (by decide) (by decide)
      show own_Q0 Z q1 p2 p3 h0 n0 (some (.int (1 : Int32))) T34.heap _
      rw [e34]
      exact ⟨rfl, N34⟩
  · refine own_go (B := T21.setTop (mkF m 86 #[.val (.long q1), .second, .val (.int p2), .val (.int p3), .val (.ref b10), .val (.int vf), .val (.int vt), .val (.int vr), .unset] [])) (fun t k => XS.icmpNo X21.here hx rfl (Jvm.hb hby at_83) rfl (flt hc83_22).1 k) ?_
    refine own_go (B := T21.setTop (mkF m 88 #[.val (.long q1), .second, .val (.int p2), .val (.int p3), .val (.ref b10), .val (.int vf), .val (.int vt), .val (.int vr), .unset] [(.int vr)])) (fun t k => XS.iload X21.here hx rfl (Jvm.hb hby at_86) rfl k) ?_
    refine own_go (B := T21.setTop (mkF m 90 #[.val (.long q1), .second, .val (.int p2), .val (.int p3), .val (.ref b10), .val (.int vf), .val (.int vt), .val (.int vr), .unset] [(.int vf), (.int vr)])) (fun t k => XS.iload X21.here hx rfl (Jvm.hb hby at_88) rfl k) ?_
    refine own_go (B := T21.setTop (mkF m 93 #[.val (.long q1), .second, .val (.int p2), .val (.int p3), .val (.ref b10), .val (.int vf), .val (.int vt), .val (.int vr), .unset] [])) (fun t k => XS.icmpNo X21.here hx rfl (Jvm.hb hby at_90) rfl (teq (hr3 (by rw [Int32.lt_iff_toInt_lt] at hc83_22; omega))).2 k) ?_
    refine own_go (B := T21.setTop (mkF m 94 #[.val (.long q1), .second, .val (.int p2), .val (.int p3), .val (.ref b10), .val (.int vf), .val (.int vt), .val (.int vr), .unset] [(.int (1 : Int32))])) (fun t k => XS.iconst X21.here hx rfl (Jvm.hb hby at_93) k) ?_
    refine own_go (B := T21.setTop (mkF m 98 #[.val (.long q1), .second, .val (.int p2), .val (.int p3), .val (.ref b10), .val (.int vf), .val (.int vt), .val (.int vr), .unset] [(.int (1 : Int32))])) (fun t k => XS.goto X21.here hx rfl (pc0 := 94) (pc' := 98) rfl (Jvm.hb hby at_94) (by decide) (by decide) k) ?_
    refine own_out X21 (v := (some (.int (1 : Int32)))) (fun h => by rw [Bd.returns] at h; cases h) Bd.notSynchronized (fun fs hr => retOut X21 hx (t := .boolean) Bd.returns rfl (by first | exact Or.inl ⟨rfl, by simp, _, rfl⟩) (Jvm.hb hby at_98) hr) ?_ (by decide) (by decide)
    show own_Q0 Z q1 p2 p3 h0 n0 (some (.int (1 : Int32))) T21.heap _
    rw [e21]
    exact ⟨rfl, N21⟩
set_option maxRecDepth 65536 in
set_option maxHeartbeats 40000000 in
theorem comes_1 {Post : Tables → Env → Array Value → State → Outcome → State → Prop} (hpost : ∀ tb e args s v u, (limb_1_1.after args s (.returned v) u = true ∧ limb_1_2.after args s (.returned v) u = true ∧ True) → FrameEnd s (.returned v) u (Jvm.fieldLocs frame_1_writes args s ++ Jvm.arrayLocs frame_1_arrays args s ++ Jvm.staticLocs frame_1_statics s) 16 128 → Post tb e args s (.returned v) u) :
    ArmFor flags0 classFile x code maxLocals ret World_1 tables_1 room_1 Calls_1 rest_1 Pre_1 Post := by
  intro l hfl _ _ p e ha hc hk s m args below hf hA hF happ hP
  obtain ⟨hcalls, hrest, hpre⟩ := hP
  obtain ⟨-, -, -, hnamed, -, -, -, hat⟩ := (Spec.applies_iff hf).mp happ
  obtain ⟨hg, hn⟩ := and_e (Cond.before_iff.mp (show (Jvm.Cond.and given_1 narrow_1).before args s = true from hpre))
  obtain ⟨g1a, g1b⟩ := and_e hg
  obtain ⟨g2a, g2b⟩ := and_e g1b
  obtain ⟨g3a, g3b⟩ := and_e g2b
  obtain ⟨w0, w1, w2, rfl⟩ : ∃ w0 w1 w2 : Value, args = #[w0, w1, w2] := by
    have hs : args.size = 3 := by simpa [Cond.value, given_1] using g1a
    obtain ⟨L⟩ := args
    match L, hs with
    | [w0, w1, w2], _ => exact ⟨w0, w1, w2, rfl⟩
  have hw := fun d (hd : d ∈ tables_1) => atoms_spec (ws := Jvm.Cond.code x code maxLocals ret :: tables_1) hat d (List.mem_cons_of_mem _ hd)
  obtain ⟨i0, ei0⟩ := isL_v g2a
  obtain rfl : w0 = (.long i0) := Option.some.inj ei0
  obtain ⟨i1, ei1⟩ := is_v g3a
  obtain rfl : w1 = (.int i1) := Option.some.inj ei1
  obtain ⟨i2, ei2⟩ := is_v g3b
  obtain rfl : w2 = (.int i2) := Option.some.inj ei2
  obtain ⟨n, o, h1, h2, h3, _, L, rfl, ⟨rfl, N⟩, hq⟩ := rm0 l s _ hw tables_1 i0 i1 i2 s.heap s.heap.size (Nat.le_refl _) p e ha hc hk s m _ below hf ((Spec.applies_iff_loose hf).mp happ).1 ⟨rfl, State.Warmed39.refl s, rfl⟩ trivial
  refine ⟨n, _, h1, h2, h3, hpost _ _ _ _ _ _ ⟨Cond.after_iff.mpr rfl, Cond.after_iff.mpr (eq_i res_at (Term.int_eval (1)) rfl), trivial⟩ ⟨hq.1, hq.2.1, (hq.2.2.sift fun y hy => Or.inr (N y hy)).mono (by decide) (by decide)⟩⟩
theorem main_1_1 : Claimed_1_1 := comes_1 fun _ _ _ _ _ _ h hF => ⟨h.1, hF⟩
theorem main_1_2 : Claimed_1_2 := comes_1 fun _ _ _ _ _ _ h hF => ⟨h.2.1, hF⟩
end Jvm.Pilot.@@N@@
namespace Jvm.Pilot.@@N@@
open Jvm Jvm.ClassFile Sem Op Lib Jvm.Free Jvm.Stand Jvm.Pilot.@@N@@.Jvm.D
/-! MADE BY PROGRAM (witnessworld.py) out of the Statement's table words and the real class files: 9 classes; the members and pool entries that the words name. The judged class is class 1, her method 4. -/
namespace start1
open Jvm.ClassFile
def u (s : String) : CpInfo := .utf8 (stringToUtf16 s)
/-- a pool by its gaps: so many unusable entries, then the entry; so many at the end -/
def gap : Nat → List CpInfo → List CpInfo
  | 0, r => r
  | n + 1, r => .unusable :: gap n r
def poolList (es : List (Nat × CpInfo)) (last : Nat) : List CpInfo := es.foldr (fun e r => gap e.1 (e.2 :: r)) (gap last [])
def pool (es : List (Nat × CpInfo)) (last : Nat) : Array CpInfo := ⟨poolList es last⟩
def fileOf (pool : Array CpInfo) (this : Nat) (attrs : Array Attribute := #[]) (ms : Array MethodInfo := #[]) (fl : Nat := 33) (sup : Nat := 0) (ifs : Array Nat := #[]) (fds : Array FieldInfo := #[]) : ClassFile where
  minorVersion := 0
  majorVersion := 65
  constantPool := pool
  accessFlags := fl
  thisClass := this
  superClass := sup
  interfaces := ifs
  fields := fds
  methods := ms
  attributes := attrs
def plain (name : String) (sup : Option ClassId) : Class where
  name := name
  kind := .ordinary
  loader := none
  accessFlags := 33
  super := sup
  interfaces := #[]
  cf := none
  fields := #[]
  methods := #[]
  instanceTypes := #[]
  staticTypes := #[]
  resolved := #[]
  callSites := []
  init := .initialized
  statics := none
  mirror := none

def pool0 : Array CpInfo := pool [(5, u "<init>"), (0, u "()V"), (1, .class_ 10), (1, u "java/lang/Object")] 113

def k0m0 : Method := { name := "<init>", desc := "()V", sig := { parameters := [], returnType := none }, accessFlags := 1, code := none }
/-- java/lang/Object -/
def k0 : Class := { plain "java/lang/Object" none with
  accessFlags := 33
  interfaces := #[]
  cf := some (fileOf pool0 8 #[] #[{ accessFlags := 1, nameIndex := 5, descriptorIndex := 6, attributes := #[] }] 33 0 #[] #[])
  fields := #[]
  methods := #[k0m0]
  instanceTypes := #[]
  staticTypes := #[]
  resolved := Array.replicate 124 none
  statics := none }

def pool1 : Array CpInfo := pool [(2, .class_ 4), (1, u "java/lang/Object"), (0, u "<init>"), (0, u "()V"), (0, .methodref 8 9), (0, .class_ 10), (0, .nameAndType 11 12), (0, u "com/example/serra/serra/input/LineFieldsSkipDigitsPinLaw"), (0, u "d"), (0, u "(B)Z"), (0, .methodref 8 14), (0, .nameAndType 15 16), (0, u "mk"), (0, u "(JI)B"), (0, .integer 2147483647), (0, .methodref 19 20), (0, .class_ 21), (0, .nameAndType 22 23), (0, u "com/example/serra/serra/input/LineFields"), (0, u "skipDigits"), (0, u "([BII)I"), (0, .methodref 8 25), (0, .nameAndType 26 27), (0, u "inRunIsDigit"), (0, u "([BIII)Z"), (3, u "law"), (0, u "(JII)Z")] 4

def k1m0 : Method := { name := "<init>", desc := "()V", sig := { parameters := [], returnType := none }, accessFlags := 2, code := none }
def k1c1 : Code := { maxStack := 2, maxLocals := 1, code := method_2_code, exceptionTable := #[], attributes := #[] }
def k1m1 : Method := { name := "d", desc := "(B)Z", sig := { parameters := [.byte], returnType := some .boolean }, accessFlags := 10, code := some k1c1 }
def k1c2 : Code := { maxStack := 4, maxLocals := 5, code := method_3_code, exceptionTable := #[], attributes := #[] }
def k1m2 : Method := { name := "mk", desc := "(JI)B", sig := { parameters := [.long, .int], returnType := some .byte }, accessFlags := 10, code := some k1c2 }
def k1c3 : Code := { maxStack := 2, maxLocals := 4, code := method_4_code, exceptionTable := #[], attributes := #[] }
def k1m3 : Method := { name := "inRunIsDigit", desc := "([BIII)Z", sig := { parameters := [(.array .byte), .int, .int, .int], returnType := some .boolean }, accessFlags := 10, code := some k1c3 }
def k1c4 : Code := { maxStack := 5, maxLocals := 9, code := code, exceptionTable := #[], attributes := #[] }
def k1m4 : Method := { name := "law", desc := "(JII)Z", sig := { parameters := [.long, .int, .int], returnType := some .boolean }, accessFlags := 9, code := some k1c4 }
/-- com/example/serra/serra/input/LineFieldsSkipDigitsPinLaw -/
def k1 : Class := { plain "com/example/serra/serra/input/LineFieldsSkipDigitsPinLaw" (some 0) with
  accessFlags := 49
  interfaces := #[]
  cf := some (fileOf pool1 8 #[] #[{ accessFlags := 2, nameIndex := 5, descriptorIndex := 6, attributes := #[] }, { accessFlags := 10, nameIndex := 11, descriptorIndex := 12, attributes := #[] }, { accessFlags := 10, nameIndex := 15, descriptorIndex := 16, attributes := #[] }, { accessFlags := 10, nameIndex := 26, descriptorIndex := 27, attributes := #[] }, { accessFlags := 9, nameIndex := 31, descriptorIndex := 32, attributes := #[] }] 49 2 #[] #[])
  fields := #[]
  methods := #[k1m0, k1m1, k1m2, k1m3, k1m4]
  instanceTypes := #[]
  staticTypes := #[]
  resolved := Array.replicate 37 none
  statics := none }

def pool2 : Array CpInfo := pool [(2, .class_ 4), (1, u "java/lang/Object"), (0, u "<init>"), (0, u "()V"), (1, .class_ 10), (1, u "com/example/serra/serra/input/LineFields"), (24, u "([BII)I"), (37, u "skipDigits")] 28

def k2m0 : Method := { name := "<init>", desc := "()V", sig := { parameters := [], returnType := none }, accessFlags := 2, code := none }
def k2c1 : Code := { maxStack := 2, maxLocals := 4, code := prog_28_method_6_code, exceptionTable := #[], attributes := #[] }
def k2m1 : Method := { name := "skipDigits", desc := "([BII)I", sig := { parameters := [(.array .byte), .int, .int], returnType := some .int }, accessFlags := 8, code := some k2c1 }
/-- com/example/serra/serra/input/LineFields -/
def k2 : Class := { plain "com/example/serra/serra/input/LineFields" (some 0) with
  accessFlags := 48
  interfaces := #[]
  cf := some (fileOf pool2 8 #[] #[{ accessFlags := 2, nameIndex := 5, descriptorIndex := 6, attributes := #[] }, { accessFlags := 8, nameIndex := 73, descriptorIndex := 35, attributes := #[] }] 48 2 #[] #[])
  fields := #[]
  methods := #[k2m0, k2m1]
  instanceTypes := #[]
  staticTypes := #[]
  resolved := Array.replicate 102 none
  statics := none }

def pool3 : Array CpInfo := pool [(1, u "java/lang/Cloneable"), (0, .class_ 1), (0, u "java/lang/Object"), (0, .class_ 3)] 3

/-- java/lang/Cloneable -/
def k3 : Class := { plain "java/lang/Cloneable" (some 0) with
  accessFlags := 1537
  interfaces := #[]
  cf := some (fileOf pool3 2 #[] #[] 1537 4 #[] #[])
  fields := #[]
  methods := #[]
  instanceTypes := #[]
  staticTypes := #[]
  resolved := Array.replicate 8 none
  statics := none }

def pool4 : Array CpInfo := pool [(1, u "java/io/Serializable"), (0, .class_ 1), (0, u "java/lang/Object"), (0, .class_ 3)] 3

/-- java/io/Serializable -/
def k4 : Class := { plain "java/io/Serializable" (some 0) with
  accessFlags := 1537
  interfaces := #[]
  cf := some (fileOf pool4 2 #[] #[] 1537 4 #[] #[])
  fields := #[]
  methods := #[]
  instanceTypes := #[]
  staticTypes := #[]
  resolved := Array.replicate 8 none
  statics := none }

/-- the primitive byte -/
def k5 : Class := { plain "byte" none with kind := .primitive 'B', accessFlags := 0x411 }
/-- [B -/
def k6 : Class := { plain "[B" (some 0) with kind := .array 5 .byte, interfaces := #[3, 4], accessFlags := 1041 }

/-- the primitive int -/
def k7 : Class := { plain "int" none with kind := .primitive 'I', accessFlags := 0x411 }
/-- [I -/
def k8 : Class := { plain "[I" (some 0) with kind := .array 7 .int, interfaces := #[3, 4], accessFlags := 1041 }

def heap : Heap := #[]
def classes : Array Class := #[k0, k1, k2, k3, k4, k5, k6, k7, k8]
def interned : List (Array UInt16 × Addr) := []
def slotsUsed : Nat := 0
def theMethod : MethodId := ⟨1, 4⟩
def args0 : Array Value := #[.long 5, .int 5, .int 5]
def aboutOver (below : List Frame) : State where
  vm := { classes := classes, interned := interned.toArray }
  heap := heap
  slotsUsed := slotsUsed
  threads := #[{ frames := .invoking theMethod args0 :: below }]
def below0 : List Frame := [.native { method := ⟨0, 0⟩, args := #[] }]
def about1 : State := aboutOver below0
def p0 : Program := .bare "" "" ""
def e0 : Env := launch0.env 0 0 0
theorem w_frames : about1.frames = Frame.invoking theMethod args0 :: below0 := rfl
set_option maxRecDepth 65536 in
theorem w_args : argsFit about1.vm theMethod args0 = true := by decide +kernel
set_option maxRecDepth 65536 in
theorem w_heap : heapFits about1 = true := by decide +kernel
set_option maxRecDepth 65536 in
theorem w_runnable : about1.curStatus? = some .runnable := by decide +kernel
set_option maxRecDepth 65536 in
theorem w_alone : about1.alone = true := by decide +kernel
set_option maxRecDepth 65536 in
theorem w_named : about1.methodNamed? x = some theMethod := by decide +kernel
set_option maxRecDepth 65536 in
theorem w_hears : about1.hears theMethod below0 = true := by decide +kernel
set_option maxRecDepth 65536 in
theorem w_ripe : about1.ripe theMethod args0 below0 = true := by decide +kernel
theorem w_running : about1.status = .running := rfl
set_option maxRecDepth 65536 in
theorem w_room : about1.hasRoom e0.platform room_1 = true :=
  launch0.hasRoom_least _ room_1 (by decide +kernel) (by decide +kernel) (by decide +kernel) (by decide +kernel) (by decide +kernel) (by decide +kernel)
theorem allAtoms_all (ts : List Jvm.Cond) (a : Array Jvm.Value) (st : Jvm.State) : (allAtoms ts).before a st = ts.all (fun c => c.before a st) := by
  induction ts with
  | nil => rfl
  | cons c t ih =>
    show (Jvm.Cond.and c (allAtoms t)).before a st = _
    rw [Jvm.Cond.before_and, ih, List.all_cons]
def words1 : List Jvm.Cond := Jvm.Cond.code x code maxLocals ret :: tables_1
/-- a 'code' word, met by the world's own term for the bytes: nothing is compared byte by byte -/
theorem code_word {y : MethodName} {bytes : ByteArray} {mx : Nat} {rt : Option FieldType} {a : Array Value} {s : State} {m : MethodId} {meth : Method} {c : Code} (h1 : s.methodNamed? y = some m) (h2 : s.vm.method? m = some meth) (h3 : meth.code = some c) (h4 : c.code = bytes)
    (h5 : (c.maxLocals == mx && c.exceptionTable.isEmpty && decide (c.maxStack ≤ mostOperands) && decide (meth.sig.returnType = rt) && !meth.locks && decide (parseMethodDescriptor y.desc = some meth.sig)) = true) : (Jvm.Cond.code y bytes mx rt).before a s = true := by
  simp only [Bool.and_eq_true, beq_iff_eq, Bool.not_eq_true', decide_eq_true_eq] at h5
  obtain ⟨⟨⟨⟨⟨g1, g2⟩, g3⟩, g4⟩, g5⟩, g6⟩ := h5
  simp [Cond.before, Cond.holds, Cond.value, h1, h2, h3, h4, g1, g2, g3, g4, g5, g6]
def isCode : Jvm.Cond → Bool
  | .code _ _ _ _ => true
  | _ => false
theorem all_split {L : List Jvm.Cond} {P : Jvm.Cond → Bool} (h1 : L.all (fun c => isCode c || P c) = true) (h2 : ∀ c ∈ L.filter isCode, P c = true) : L.all P = true := by
  refine List.all_eq_true.mpr fun c hc => ?_
  have h := List.all_eq_true.mp h1 c hc
  rcases Bool.eq_false_or_eq_true (isCode c) with hi | hi
  · exact h2 c (List.mem_filter.mpr ⟨hc, hi⟩)
  · simpa [hi] using h
set_option maxRecDepth 65536 in
theorem w_c0 : (Jvm.Cond.code x code maxLocals ret).before args0 about1 = true := code_word (m := ⟨1, 4⟩) (meth := k1m4) (c := k1c4) (by decide +kernel) rfl rfl rfl (by decide +kernel)
set_option maxRecDepth 65536 in
theorem w_c1 : (Jvm.Cond.code ({ cls := "com/example/serra/serra/input/LineFieldsSkipDigitsPinLaw", name := "mk", desc := "(JI)B" } : Jvm.MethodName) method_3_code (5 : Nat) (Option.some Jvm.ClassFile.FieldType.byte)).before args0 about1 = true := code_word (m := ⟨1, 2⟩) (meth := k1m2) (c := k1c2) (by decide +kernel) rfl rfl rfl (by decide +kernel)
set_option maxRecDepth 65536 in
theorem w_c2 : (Jvm.Cond.code ({ cls := "com/example/serra/serra/input/LineFields", name := "skipDigits", desc := "([BII)I" } : Jvm.MethodName) prog_28_method_6_code (4 : Nat) (Option.some Jvm.ClassFile.FieldType.int)).before args0 about1 = true := code_word (m := ⟨2, 1⟩) (meth := k2m1) (c := k2c1) (by decide +kernel) rfl rfl rfl (by decide +kernel)
set_option maxRecDepth 65536 in
theorem w_c3 : (Jvm.Cond.code ({ cls := "com/example/serra/serra/input/LineFieldsSkipDigitsPinLaw", name := "d", desc := "(B)Z" } : Jvm.MethodName) method_2_code (1 : Nat) (Option.some Jvm.ClassFile.FieldType.boolean)).before args0 about1 = true := code_word (m := ⟨1, 1⟩) (meth := k1m1) (c := k1c1) (by decide +kernel) rfl rfl rfl (by decide +kernel)
set_option maxRecDepth 65536 in
theorem w_c4 : (Jvm.Cond.code ({ cls := "com/example/serra/serra/input/LineFieldsSkipDigitsPinLaw", name := "inRunIsDigit", desc := "([BIII)Z" } : Jvm.MethodName) method_4_code (4 : Nat) (Option.some Jvm.ClassFile.FieldType.boolean)).before args0 about1 = true := code_word (m := ⟨1, 3⟩) (meth := k1m3) (c := k1c3) (by decide +kernel) rfl rfl rfl (by decide +kernel)
def codes1 : List Jvm.Cond := [Jvm.Cond.code x code maxLocals ret, Jvm.Cond.code ({ cls := "com/example/serra/serra/input/LineFieldsSkipDigitsPinLaw", name := "mk", desc := "(JI)B" } : Jvm.MethodName) method_3_code (5 : Nat) (Option.some Jvm.ClassFile.FieldType.byte), Jvm.Cond.code ({ cls := "com/example/serra/serra/input/LineFields", name := "skipDigits", desc := "([BII)I" } : Jvm.MethodName) prog_28_method_6_code (4 : Nat) (Option.some Jvm.ClassFile.FieldType.int), Jvm.Cond.code ({ cls := "com/example/serra/serra/input/LineFieldsSkipDigitsPinLaw", name := "d", desc := "(B)Z" } : Jvm.MethodName) method_2_code (1 : Nat) (Option.some Jvm.ClassFile.FieldType.boolean), Jvm.Cond.code ({ cls := "com/example/serra/serra/input/LineFieldsSkipDigitsPinLaw", name := "inRunIsDigit", desc := "([BIII)Z" } : Jvm.MethodName) method_4_code (4 : Nat) (Option.some Jvm.ClassFile.FieldType.boolean)]
set_option maxRecDepth 65536 in
theorem codes_eq : words1.filter isCode = codes1 := rfl
theorem w_codes : ∀ c ∈ words1.filter isCode, c.before args0 about1 = true := by
  rw [codes_eq]
  intro c hc
  simp only [codes1, List.mem_cons, List.not_mem_nil, or_false] at hc
  rcases hc with rfl | rfl | rfl | rfl | rfl
  · exact w_c0
  · exact w_c1
  · exact w_c2
  · exact w_c3
  · exact w_c4
set_option maxRecDepth 65536 in
theorem w_t1 : words1.all (fun c => isCode c || c.before args0 about1) = true := by decide +kernel
theorem w_tables : (allAtoms (Jvm.Cond.code x code maxLocals ret :: tables_1)).before args0 about1 = true := by
  rw [allAtoms_all]
  show words1.all (fun c => c.before args0 about1) = true
  refine all_split ?_ w_codes
  rw [w_t1]
set_option maxRecDepth 65536 in
theorem w_case : (Jvm.Cond.and given_1 narrow_1).before args0 about1 = true := by decide +kernel
theorem w_applies : (headSpec (Jvm.Cond.code x code maxLocals ret :: tables_1) room_1).applies x e0.platform about1 = true :=
  (Spec.applies_iff w_frames).mpr ⟨w_running, w_runnable, w_alone, w_named, w_hears, w_ripe, w_room, w_tables⟩
theorem atStart : AtStart classFile x code maxLocals ret World_1 tables_1 room_1 Calls_1 rest_1 Pre_1 launch0 p0 e0 about1 theMethod args0 below0 :=
  ⟨lists_1, trivial, launch0.admits_env _ _ _, launch0.least_env, fairChoices_fair.cas, fairChoices_fair.clock, w_frames, w_args, w_heap, w_applies, trivial, trivial, w_case⟩
end start1
theorem witness_1 : WitnessClaimed_1 := ⟨start1.p0, start1.e0, start1.about1, start1.theMethod, start1.args0, start1.below0, start1.atStart⟩
end Jvm.Pilot.@@N@@
