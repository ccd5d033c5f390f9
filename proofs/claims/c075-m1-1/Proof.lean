import JvmDerived
import JvmDerived.Pilot.@@N@@Statement
import JvmDerived.Pilot.@@N@@Code
set_option linter.unusedVariables false
set_option linter.unusedSimpArgs false
namespace Jvm.Pilot.@@N@@
open Jvm Jvm.ClassFile Sem Op Lib Jvm.Free Jvm.Stand Jvm.LawKit Jvm.RoadKit Bundle Jvm.Pilot.@@N@@.Jvm.D
section Own
variable {p : Program} {l : Launch} {e : Env} {R : Room} {s : State} {m : MethodId} {args : Array Value} {below : List Frame} {meth : Method} {c : Code} {T : State} {locs : List Loc} {cells slots : Nat} {Z : State} {h h' : Heap} {a b : Addr}
/-- from A the run comes to its return, and Q holds there -/
def own_Goes (p : Program) (e : Env) (below : List Frame) (s : State) (Q : Option Value → Heap → List Loc → Prop) (kc ks : Nat) (A : State) : Prop :=
  ∃ s₂ o, Steps p.tables e below A s₂ ∧ s₂.status = .running ∧ Ended s₂ below o ∧ ∃ v L, o = .returned v ∧ Q v s₂.heap L ∧ FrameEnd s o s₂ L kc ks
theorem own_go {Q : Option Value → Heap → List Loc → Prop} {kc ks : Nat} {A B : State} (st : ∀ t, Steps p.tables e below B t → Steps p.tables e below A t) (k : own_Goes p e below s Q kc ks B) : own_Goes p e below s Q kc ks A := by
  obtain ⟨s2, o, h1, h2⟩ := k
  exact ⟨s2, o, st _ h1, h2⟩
theorem own_w {a0 : Array Value} {Z : State} (hw : ∀ d ∈ tables_1, d.before a0 Z = true) (i : Nat) {d : Jvm.Cond} (h : tables_1[i]? = some d) : d.before a0 Z = true := hw d (List.mem_of_getElem? h)
theorem own_selP {y y' : MethodName} (hs : (Cond.selects y'.cls y' y').before args s = true) (he : y.cls = y'.cls) (hpriv : s.PrivateAt y) (hinst : (Cond.instanceMethod y).before args s = true) (hy : y.cls ≠ "java/lang/invoke/MethodHandle" ∧ y.cls ≠ "java/lang/invoke/VarHandle") : (Cond.selects y.cls y y).before args s = true := by
  obtain ⟨c2, r2, m2, q1, q2, q3, q4, kP, hkP, hkPi⟩ := Cond.selects_spec hs
  exact selects_self_of_private (by rw [he]; exact findClass_of_methodNamed q3) hkP hkPi hpriv hinst hy
theorem own_st {tb : Tables} {A B t : State} (h1 : Steps tb e below A B) (k : Steps tb e below B t) : Steps tb e below A t := h1.trans k
theorem own_out {Q : Option Value → Heap → List Loc → Prop} {kc ks : Nat} {A : State} (X : Stand p l e R s m args below meth c T locs cells slots) {v : Option Value} (hv : meth.sig.returnType = none → v = none) (hlk : meth.locks = false)
    (st : ∀ fs, (∀ (f : JFrame) (acts : List Action), f.method = m → f.locked = none → f.entered = [] → (doReturn e (T.setTop f) acts v).1 = T.setFrames fs) → Steps p.tables e below A (T.setFrames fs))
    (hq : Q v T.heap locs) (hc : cells ≤ kc) (hs : slots ≤ ks) : own_Goes p e below s Q kc ks A := by
  obtain ⟨fs, hr, hrun, hended, hW, hsame⟩ := X.leave hv hlk
  exact ⟨_, _, st fs hr, hrun, hended, _, _, rfl, hq, ⟨_, rfl⟩, hW, hsame.mono hc hs⟩
theorem own_irem {tb : Tables} [Ours tb] {T target : State} {g : JFrame} (h : At T m c below) (hx : tb.exec = Jvm.exec) (hg : g.method = m) {x y : Int32} {rest : List Value} (hd : decode c.code g.pc = .ok (.irem, 1)) (hs : g.stack = .int y :: .int x :: rest) (hy : y ≠ 0)
    (hr : Steps tb e below (T.setTop { g with pc := g.pc + 1, stack := .int (x % y) :: rest }) target) : Steps tb e below (T.setTop g) target := XS.irem h hx hg hd hs hy (by rw [irem_eq_mod]; exact hr)
theorem own_lrem {tb : Tables} [Ours tb] {T target : State} {g : JFrame} (h : At T m c below) (hx : tb.exec = Jvm.exec) (hg : g.method = m) {x y : Int64} {rest : List Value} (hd : decode c.code g.pc = .ok (.lrem, 1)) (hs : g.stack = .long y :: .long x :: rest) (hy : y ≠ 0)
    (hr : Steps tb e below (T.setTop { g with pc := g.pc + 1, stack := .long (x % y) :: rest }) target) : Steps tb e below (T.setTop g) target := XS.lrem h hx hg hd hs hy (by rw [lrem_mod]; exact hr)
/-- an array of ints (bytes, booleans): its length, and what each place holds -/
def own_IA (Z : State) (h : Heap) (a : Addr) (ty : FieldType) (n : Nat) (f : Nat → Int32) : Prop := ∃ c : Cell, Arr Z h a c ty ∧ c.slots.size = n ∧ ∀ i, i < n → c.slots[i]? = some (.int (f i))
/-- an array of longs -/
def own_LA (Z : State) (h : Heap) (a : Addr) (n : Nat) (f : Nat → Int64) : Prop := ∃ c : Cell, Arr Z h a c .long ∧ c.slots.size = n ∧ ∀ i, i < n → c.slots[i]? = some (.long (f i))
def own_upd {α : Type} (f : Nat → α) (j : Nat) (x : α) (i : Nat) : α := if i = j then x else f i
theorem own_upd_hit {α : Type} (f : Nat → α) (j : Nat) (x : α) : own_upd f j x j = x := if_pos rfl
theorem own_upd_miss {α : Type} (f : Nat → α) {i j : Nat} (x : α) (q : i ≠ j) : own_upd f j x i = f i := if_neg q
section Arrays
variable {ty : FieldType} {n : Nat} {f : Nat → Int32} {fl : Nat → Int64} {sl : Nat} {v : Value} {ws : List Addr}
theorem own_IA.lt (F : own_IA Z h a ty n f) : a < h.size := by obtain ⟨c, A, -⟩ := F; exact A.lt
theorem own_LA.lt (F : own_LA Z h a n fl) : a < h.size := by obtain ⟨c, A, -⟩ := F; exact A.lt
theorem own_IA.ext (F : own_IA Z h a ty n f) (E : Ext h h') : own_IA Z h' a ty n f := by obtain ⟨c, A, r⟩ := F; exact ⟨c, A.ext E, r⟩
theorem own_LA.ext (F : own_LA Z h a n fl) (E : Ext h h') : own_LA Z h' a n fl := by obtain ⟨c, A, r⟩ := F; exact ⟨c, A.ext E, r⟩
theorem own_IA.other (F : own_IA Z h b ty n f) (W : Wr h h' a sl v) (q : b ≠ a) : own_IA Z h' b ty n f := by obtain ⟨c, A, r⟩ := F; exact ⟨c, A.other W q, r⟩
theorem own_LA.other (F : own_LA Z h b n fl) (W : Wr h h' a sl v) (q : b ≠ a) : own_LA Z h' b n fl := by obtain ⟨c, A, r⟩ := F; exact ⟨c, A.other W q, r⟩
theorem own_IA.keep (F : own_IA Z h a ty n f) (K : Keep h h' ws) (q : a ∉ ws) : own_IA Z h' a ty n f := by obtain ⟨c, A, r⟩ := F; exact ⟨c, ⟨K.2.1 a c A.1 q, A.2⟩, r⟩
theorem own_LA.keep (F : own_LA Z h a n fl) (K : Keep h h' ws) (q : a ∉ ws) : own_LA Z h' a n fl := by obtain ⟨c, A, r⟩ := F; exact ⟨c, ⟨K.2.1 a c A.1 q, A.2⟩, r⟩
theorem own_IA.cong {g : Nat → Int32} (F : own_IA Z h a ty n f) (q : ∀ i, i < n → f i = g i) : own_IA Z h a ty n g := by obtain ⟨c, A, r, u⟩ := F; exact ⟨c, A, r, fun i hi => by rw [u i hi, q i hi]⟩
theorem own_LA.cong {g : Nat → Int64} (F : own_LA Z h a n fl) (q : ∀ i, i < n → fl i = g i) : own_LA Z h a n g := by obtain ⟨c, A, r, u⟩ := F; exact ⟨c, A, r, fun i hi => by rw [u i hi, q i hi]⟩
theorem own_in {cl : Cell} {j : Int32} {k : Nat} (S : cl.slots.size = n) (h1 : ¬ j < 0) (hk : j.toNatClampNeg = k) (h2 : k < n) : ¬ (j < 0 ∨ cl.slots.size ≤ j.toNatClampNeg) := by
  rintro (q | q)
  · exact h1 q
  · rw [S, hk] at q; exact absurd h2 (Nat.not_lt.mpr q)
theorem own_set {cl : Cell} {k : Nat} (S : cl.slots.size = n) (h2 : k < n) (v : Value) (i : Nat) : (cl.setSlot k v).slots[i]? = if i = k then some v else cl.slots[i]? := by
  by_cases q : i = k
  · subst q; rw [if_pos rfl]; exact Array.getElem?_setIfInBounds_self_of_lt (by rw [S]; exact h2)
  · rw [if_neg q]; exact Array.getElem?_setIfInBounds_ne (fun z => q z.symm)
theorem own_Inew {k : ClassId} {z : Int32} (A : Arr Z h a (newA k ty z) ty) (hz : z.toNatClampNeg = n) (hd : defaultValue ty = .int 0) : own_IA Z h a ty n (fun _ => 0) := by
  refine ⟨_, A, by rw [sz_new, hz], fun i hi => ?_⟩
  show (Array.replicate z.toNatClampNeg (defaultValue ty))[i]? = _
  rw [hz, hd, Array.getElem?_replicate, if_pos hi]
theorem own_Lnew {k : ClassId} {z : Int32} (A : Arr Z h a (newA k .long z) .long) (hz : z.toNatClampNeg = n) : own_LA Z h a n (fun _ => 0) := by
  refine ⟨_, A, by rw [sz_new, hz], fun i hi => ?_⟩
  show (Array.replicate z.toNatClampNeg (defaultValue .long))[i]? = _
  rw [hz, Array.getElem?_replicate, if_pos hi]; rfl
theorem own_iaload (X : Stand p l e R s m args below meth c T locs cells slots) (hx : p.tables.exec = Jvm.exec) (hZ : Z.Warmed39 s.vm) (eT : T.heap = h) (V : own_IA Z h a .int n f) {j : Int32} {k : Nat} (h1 : ¬ j < 0) (hk : j.toNatClampNeg = k) (h2 : k < n) {pc : Nat} {Ls : Array Slot} {rest : List Value} (hd : decode c.code pc = .ok (.iaload, 1)) (t : State)
    (kk : Steps p.tables e below (T.setTop (mkF m (pc + 1) Ls (.int (f k) :: rest))) t) : Steps p.tables e below (T.setTop (mkF m pc Ls (.int j :: .ref a :: rest))) t := by
  obtain ⟨cl, A, S, H⟩ := V
  exact X.iaload hx (j := j) (v := .int (f k)) (by rw [eT]; exact A.1) (State.isArrayOf_alike hZ.alike A.2.1) A.2.2 (own_in S h1 hk h2) (by rw [hk]; exact H _ h2) (g := mkF m pc Ls (.int j :: .ref a :: rest)) rfl rfl hd t kk
theorem own_baload (X : Stand p l e R s m args below meth c T locs cells slots) (hx : p.tables.exec = Jvm.exec) (hZ : Z.Warmed39 s.vm) (eT : T.heap = h) (V : own_IA Z h a .byte n f) {j : Int32} {k : Nat} (h1 : ¬ j < 0) (hk : j.toNatClampNeg = k) (h2 : k < n) {pc : Nat} {Ls : Array Slot} {rest : List Value} (hd : decode c.code pc = .ok (.baload, 1)) (t : State)
    (kk : Steps p.tables e below (T.setTop (mkF m (pc + 1) Ls (.int (f k) :: rest))) t) : Steps p.tables e below (T.setTop (mkF m pc Ls (.int j :: .ref a :: rest))) t := by
  obtain ⟨cl, A, S, H⟩ := V
  exact X.baloadBytes hx (j := j) (v := .int (f k)) (by rw [eT]; exact A.1) (State.isArrayOf_alike hZ.alike A.2.1) A.2.2 (own_in S h1 hk h2) (by rw [hk]; exact H _ h2) (g := mkF m pc Ls (.int j :: .ref a :: rest)) rfl rfl hd t kk
theorem own_laload (X : Stand p l e R s m args below meth c T locs cells slots) (hx : p.tables.exec = Jvm.exec) (hZ : Z.Warmed39 s.vm) (eT : T.heap = h) (V : own_LA Z h a n fl) {j : Int32} {k : Nat} (h1 : ¬ j < 0) (hk : j.toNatClampNeg = k) (h2 : k < n) {pc : Nat} {Ls : Array Slot} {rest : List Value} (hd : decode c.code pc = .ok (.laload, 1)) (t : State)
    (kk : Steps p.tables e below (T.setTop (mkF m (pc + 1) Ls (.long (fl k) :: rest))) t) : Steps p.tables e below (T.setTop (mkF m pc Ls (.int j :: .ref a :: rest))) t := by
  obtain ⟨cl, A, S, H⟩ := V
  exact X.laload hx (j := j) (v := .long (fl k)) (by rw [eT]; exact A.1) (State.isArrayOf_alike hZ.alike A.2.1) A.2.2 (own_in S h1 hk h2) (by rw [hk]; exact H _ h2) (g := mkF m pc Ls (.int j :: .ref a :: rest)) rfl rfl hd t kk
theorem own_alen (X : Stand p l e R s m args below meth c T locs cells slots) (hx : p.tables.exec = Jvm.exec) (hZ : Z.Warmed39 s.vm) (eT : T.heap = h) (V : own_IA Z h a ty n f) {z : Int32} (hl : n.toInt32 = z) {pc : Nat} {Ls : Array Slot} {rest : List Value} (hd : decode c.code pc = .ok (.arraylength, 1)) (t : State)
    (kk : Steps p.tables e below (T.setTop (mkF m (pc + 1) Ls (.int z :: rest))) t) : Steps p.tables e below (T.setTop (mkF m pc Ls (.ref a :: rest))) t := by
  obtain ⟨cl, A, S, H⟩ := V
  exact X.arraylength hx (by rw [eT]; exact A.1) (State.isArrayOf_alike hZ.alike A.2.1) (g := mkF m pc Ls (.ref a :: rest)) rfl rfl hd t (by rw [S, hl]; exact kk)
theorem own_alenL (X : Stand p l e R s m args below meth c T locs cells slots) (hx : p.tables.exec = Jvm.exec) (hZ : Z.Warmed39 s.vm) (eT : T.heap = h) (V : own_LA Z h a n fl) {z : Int32} (hl : n.toInt32 = z) {pc : Nat} {Ls : Array Slot} {rest : List Value} (hd : decode c.code pc = .ok (.arraylength, 1)) (t : State)
    (kk : Steps p.tables e below (T.setTop (mkF m (pc + 1) Ls (.int z :: rest))) t) : Steps p.tables e below (T.setTop (mkF m pc Ls (.ref a :: rest))) t := by
  obtain ⟨cl, A, S, H⟩ := V
  exact X.arraylength hx (by rw [eT]; exact A.1) (State.isArrayOf_alike hZ.alike A.2.1) (g := mkF m pc Ls (.ref a :: rest)) rfl rfl hd t (by rw [S, hl]; exact kk)
theorem own_iastore (X : Stand p l e R s m args below meth c T locs cells slots) (hx : p.tables.exec = Jvm.exec) (hZ : Z.Warmed39 s.vm) (eT : T.heap = h) (V : own_IA Z h a .int n f) {j x : Int32} {k : Nat} (h1 : ¬ j < 0) (hk : j.toNatClampNeg = k) (h2 : k < n) {g : JFrame} (hg : g.method = m) {rest : List Value} (hs : g.stack = .int x :: .int j :: .ref a :: rest) (hd : decode c.code g.pc = .ok (.iastore, 1)) :
    ∃ T' h', Stand p l e R s m args below meth c T' (locs ++ [⟨a, k⟩]) cells slots ∧ T'.heap = h' ∧ Wr h h' a k (.int x) ∧ own_IA Z h' a .int n (own_upd f k x) ∧ ∀ target, Steps p.tables e below (T'.setTop { g with pc := g.pc + 1, stack := rest }) target → Steps p.tables e below (T.setTop g) target := by
  obtain ⟨cl, A, S, H⟩ := V
  obtain ⟨T', h', X', e', W, st⟩ := stI X hx hZ eT A (own_in S h1 hk h2) hg hs hd
  rw [hk] at X' W
  refine ⟨T', h', X', e', W, ⟨_, A.same W, by rw [sz_set, S], fun i hi => ?_⟩, st⟩
  rw [own_set S h2]; unfold own_upd
  by_cases q : i = k
  · rw [if_pos q, if_pos q]
  · rw [if_neg q, if_neg q]; exact H i hi
theorem own_bastore (X : Stand p l e R s m args below meth c T locs cells slots) (hx : p.tables.exec = Jvm.exec) (hZ : Z.Warmed39 s.vm) (eT : T.heap = h) (V : own_IA Z h a .byte n f) {j x : Int32} {k : Nat} (h1 : ¬ j < 0) (hk : j.toNatClampNeg = k) (h2 : k < n) {g : JFrame} (hg : g.method = m) {rest : List Value} (hs : g.stack = .int x :: .int j :: .ref a :: rest) (hd : decode c.code g.pc = .ok (.bastore, 1)) :
    ∃ T' h', Stand p l e R s m args below meth c T' (locs ++ [⟨a, k⟩]) cells slots ∧ T'.heap = h' ∧ Wr h h' a k (.int x.toInt8.toInt32) ∧ own_IA Z h' a .byte n (own_upd f k x.toInt8.toInt32) ∧ ∀ target, Steps p.tables e below (T'.setTop { g with pc := g.pc + 1, stack := rest }) target → Steps p.tables e below (T.setTop g) target := by
  obtain ⟨cl, A, S, H⟩ := V
  obtain ⟨T', h', X', e', W, st⟩ := stB X hx hZ eT A (own_in S h1 hk h2) hg hs hd
  rw [hk] at X' W
  refine ⟨T', h', X', e', W, ⟨_, A.same W, by rw [sz_set, S], fun i hi => ?_⟩, st⟩
  rw [own_set S h2]; unfold own_upd
  by_cases q : i = k
  · rw [if_pos q, if_pos q]; rfl
  · rw [if_neg q, if_neg q]; exact H i hi
theorem own_lastore (X : Stand p l e R s m args below meth c T locs cells slots) (hx : p.tables.exec = Jvm.exec) (hZ : Z.Warmed39 s.vm) (eT : T.heap = h) (V : own_LA Z h a n fl) {j : Int32} {x : Int64} {k : Nat} (h1 : ¬ j < 0) (hk : j.toNatClampNeg = k) (h2 : k < n) {g : JFrame} (hg : g.method = m) {rest : List Value} (hs : g.stack = .long x :: .int j :: .ref a :: rest) (hd : decode c.code g.pc = .ok (.lastore, 1)) :
    ∃ T' h', Stand p l e R s m args below meth c T' (locs ++ [⟨a, k⟩]) cells slots ∧ T'.heap = h' ∧ Wr h h' a k (.long x) ∧ own_LA Z h' a n (own_upd fl k x) ∧ ∀ target, Steps p.tables e below (T'.setTop { g with pc := g.pc + 1, stack := rest }) target → Steps p.tables e below (T.setTop g) target := by
  obtain ⟨cl, A, S, H⟩ := V
  obtain ⟨T', h', X', e', W, st⟩ := stJ X hx hZ eT A (own_in S h1 hk h2) hg hs hd
  rw [hk] at X' W
  refine ⟨T', h', X', e', W, ⟨_, A.same W, by rw [sz_set, S], fun i hi => ?_⟩, st⟩
  rw [own_set S h2]; unfold own_upd
  by_cases q : i = k
  · rw [if_pos q, if_pos q]
  · rw [if_neg q, if_neg q]; exact H i hi
theorem own_clone (X : Stand p l e R s m args below meth c T locs cells slots) (hx : p.tables.exec = Jvm.exec) (hZ : Z.Warmed39 s.vm) {a0 : Array Value} {own ad : String} {index : Nat} (hown : s.vm.findClass own = some m.cls)
    (w1 : (Cond.methodLink own index ⟨ad, "clone", "()Ljava/lang/Object;"⟩).before a0 Z = true) (w2 : (Cond.sameMethod ad "java/lang/Object" "clone" "()Ljava/lang/Object;").before a0 Z = true) (w3 : (Cond.native ⟨"java/lang/Object", "clone", "()Ljava/lang/Object;"⟩).before a0 Z = true)
    (w4 : (Cond.instanceMethod ⟨"java/lang/Object", "clone", "()Ljava/lang/Object;"⟩).before a0 Z = true) (w5 : (Cond.selects ad ⟨ad, "clone", "()Ljava/lang/Object;"⟩ ⟨"java/lang/Object", "clone", "()Ljava/lang/Object;"⟩).before a0 Z = true) (w6 : (Cond.castable ad "java/lang/Cloneable").before a0 Z = true)
    (eT : T.heap = h) (V : own_IA Z h a .int n f) (E : Exa Z h a ad) {g : JFrame} (hg : g.method = m) (hsize : g.locals.size = c.maxLocals) {rest : List Value} (hst : g.stack = .ref a :: rest) (hd : decode c.code g.pc = .ok (.invokevirtual index, 3))
    (hf : 1 ≤ R.frames) {W cap : Nat} (hW : 2 * g.monitorRoom + (rest.map fun v => v.category).sum ≤ W) (hl : W + 14 ≤ R.locals) (hcap : n ≤ cap) (hc : cells + 1 ≤ R.cells) (hsl : slots + cap ≤ R.slots) :
    ∃ T' h', Stand p l e R s m args below meth c T' locs (cells + 1) (slots + cap) ∧ T'.heap = h' ∧ Ext h h' ∧ own_IA Z h' h.size .int n f ∧ Exa Z h' h.size ad ∧
      ∀ target, Steps p.tables e below (T'.setTop { g with pc := g.pc + 3, stack := .ref h.size :: rest }) target → Steps p.tables e below (T.setTop g) target := by
  obtain ⟨cl, A, S, H⟩ := V
  have FC : FitC Z cl := fitC_of A fun i hi v hv => by rw [H i (by rw [← S]; exact hi)] at hv; cases hv; rfl
  obtain ⟨T', h', X', e', ex, A', E', st⟩ := cloneA X hx hZ hown w1 w2 w3 w4 w5 w6 eT A E FC hg hsize hst hd hf hW hl (by rw [S]; exact hcap) hc hsl
  exact ⟨T', h', X', e', ex, ⟨cloneOf cl, A', S, H⟩, E', st⟩
end Arrays
end Own
def own_sh (x : Int64) (k : Int32) : Int64 := ((x.toUInt64 >>> (k &&& 0x3f).toInt64.toUInt64).toInt64)
def own_xm (x : Int64) (k : Int32) (m : Int64) : Int64 := (x ^^^ own_sh x k) * m
def own_mix (x : Int64) : Int64 := own_xm (own_xm x (30 : Int32) (-4658895280553007687 : Int64)) (27 : Int32) (-7723592293110705685 : Int64) ^^^ own_sh (own_xm (own_xm x (30 : Int32) (-4658895280553007687 : Int64)) (27 : Int32) (-7723592293110705685 : Int64)) (31 : Int32)
def own_nw (c x : Int64) : Int64 := x * ((2 : Int64) - c * x)
def own_inv (c : Int64) : Int64 := own_nw c (own_nw c (own_nw c (own_nw c (own_nw c c))))
def own_ux (y : Int64) (k k2 : Int32) : Int64 := (y ^^^ own_sh y k) ^^^ own_sh y k2
def own_unmix (y : Int64) : Int64 := own_ux (own_ux (own_ux y (31 : Int32) (62 : Int32) * own_inv (-7723592293110705685 : Int64)) (27 : Int32) (54 : Int32) * own_inv (-4658895280553007687 : Int64)) (30 : Int32) (60 : Int32)
theorem own_sh_bv (x : Int64) (k : Int32) (n : Nat) (hk : (k &&& 0x3f).toInt64.toUInt64.toBitVec % 64 = BitVec.ofNat 64 n) (hn : n < 64) : (own_sh x k).toBitVec = x.toBitVec >>> n := by
  unfold own_sh
  show (x.toUInt64 >>> (k &&& 0x3f).toInt64.toUInt64).toBitVec = _
  rw [UInt64.toBitVec_shiftRight, hk, BitVec.ushiftRight_eq', BitVec.toNat_ofNat, Nat.mod_eq_of_lt (by omega)]
  rfl
theorem own_xs (z : BitVec 64) (k : Nat) (h : 64 ≤ 3 * k) : ((z ^^^ z >>> k) ^^^ (z ^^^ z >>> k) >>> k) ^^^ (z ^^^ z >>> k) >>> (2 * k) = z := by
  apply BitVec.eq_of_getLsbD_eq
  intro i hi
  simp only [BitVec.getLsbD_xor, BitVec.getLsbD_ushiftRight]
  rw [show k + (k + i) = 2 * k + i by omega, BitVec.getLsbD_of_ge z (k + (2 * k + i)) (by omega)]
  cases z.getLsbD i <;> cases z.getLsbD (k + i) <;> cases z.getLsbD (2 * k + i) <;> rfl
theorem own_undo (x : Int64) (k k2 : Int32) (n : Nat) (hk : (k &&& 0x3f).toInt64.toUInt64.toBitVec % 64 = BitVec.ofNat 64 n) (hk2 : (k2 &&& 0x3f).toInt64.toUInt64.toBitVec % 64 = BitVec.ofNat 64 (2 * n)) (hn : 2 * n < 64) (h3 : 64 ≤ 3 * n) : own_ux (x ^^^ own_sh x k) k k2 = x := by
  apply Int64.toBitVec_inj.mp
  unfold own_ux
  rw [Int64.toBitVec_xor, Int64.toBitVec_xor, own_sh_bv _ k n hk (by omega), own_sh_bv _ k2 (2 * n) hk2 hn, Int64.toBitVec_xor, own_sh_bv _ k n hk (by omega)]
  exact own_xs _ n h3
theorem own_inv1 : (-4658895280553007687 : Int64) * own_inv (-4658895280553007687 : Int64) = 1 := by decide +kernel
theorem own_inv2 : (-7723592293110705685 : Int64) * own_inv (-7723592293110705685 : Int64) = 1 := by decide +kernel
theorem own_plain (x : Int64) : own_unmix (own_mix x) = x := by
  unfold own_unmix own_mix
  rw [own_undo _ 31 62 31 (by decide) (by decide) (by decide) (by decide)]
  generalize e1 : own_xm x (30 : Int32) (-4658895280553007687 : Int64) = y
  unfold own_xm
  rw [Int64.mul_assoc, own_inv2, Int64.mul_one, own_undo _ 27 54 27 (by decide) (by decide) (by decide) (by decide), ← e1]
  unfold own_xm
  rw [Int64.mul_assoc, own_inv1, Int64.mul_one, own_undo _ 30 60 30 (by decide) (by decide) (by decide) (by decide)]
theorem pn_com_example_netloom_netloom_embed_Draws : plainName "com/example/netloom/netloom/embed/Draws" = true := by first | (simp [plainName, overriddenIn]; done) | decide +kernel
theorem d1_0 : decode prog_28_method_1_code 0 = .ok (.aload_n 0, 1) := by decide +kernel
theorem d1_1 : decode prog_28_method_1_code 1 = .ok (.invokespecial 1, 3) := by decide +kernel
theorem d1_4 : decode prog_28_method_1_code 4 = .ok (.aload_n 0, 1) := by decide +kernel
theorem d1_5 : decode prog_28_method_1_code 5 = .ok (.lload_n 1, 1) := by decide +kernel
theorem d1_6 : decode prog_28_method_1_code 6 = .ok (.putfield 7, 3) := by decide +kernel
theorem d1_9 : decode prog_28_method_1_code 9 = .ok (.return_, 1) := by decide +kernel
theorem ef_1 (m : MethodId) (x0 : Addr) (x1 : Int64) : entryFrame m #[(.ref x0), (.long x1)] 3 = mkF m 0 #[.val (.ref x0), .val (.long x1), .second] [] := by first | (simp [entryFrame, mkF, argsToLocals, Value.category]; done) | rfl
def own_Q1 (Z : State) (za : Addr) (zq : Int64) (h0 : Heap) (n0 : Nat) (v : Option Value) (h : Heap) (L : List Loc) : Prop := v = none ∧ Fr n0 L ∧ Keep h0 h [za] ∧ Exa Z h za "com/example/netloom/netloom/embed/Draws" ∧ Fld Z h za "com/example/netloom/netloom/embed/Draws" "state" "J" (.long zq)
set_option maxRecDepth 65536 in
set_option maxHeartbeats 40000000 in
theorem rm1 (l : Launch) (Z : State) (a0 : Array Value) (hw : ∀ d ∈ tables_1, d.before a0 Z = true) (ws : List Jvm.Cond) (za : Addr) (zq : Int64) (h0 : Heap) (n0 : Nat) (Z0 : n0 ≤ h0.size) (E_za : Exa Z h0 za "com/example/netloom/netloom/embed/Draws") (F_za_state : Fld Z h0 za "com/example/netloom/netloom/embed/Draws" "state" "J" (.long (0 : Int64))) (g_za : n0 ≤ za) :
    MetFree l (⟨"com/example/netloom/netloom/embed/Draws", "<init>", "(J)V"⟩ : MethodName) (head1 (Jvm.Cond.code (⟨"com/example/netloom/netloom/embed/Draws", "<init>", "(J)V"⟩ : MethodName) prog_28_method_1_code 3 none :: ws) ({ frames := 1, cells := 0, slots := 0, locals := 12 } : Room)) (fun a U => a = #[(.ref za), (.long zq)] ∧ Z.Warmed39 U.vm ∧ U.heap = h0) (fun _ _ _ _ _ => True) (fun _ U o U' => ∃ v L, o = .returned v ∧ own_Q1 Z za zq h0 n0 v U'.heap L ∧ FrameEnd U o U' L ({ frames := 1, cells := 0, slots := 0, locals := 12 } : Room).cells ({ frames := 1, cells := 0, slots := 0, locals := 12 } : Room).slots) := by
  refine MetFree.of_bodySF (plainFor_of_name pn_com_example_netloom_netloom_embed_Draws) hisR ?_
  intro p e s m args below meth c s₁ Bd hml0 hP hK
  obtain ⟨rfl, hZ, hh⟩ := hP
  have hx := Bd.exec
  have hby := Bd.bytes
  have hml : c.maxLocals = 3 := hml0
  have hown : s.vm.findClass "com/example/netloom/netloom/embed/Draws" = some m.cls := findClass_of_methodNamed Bd.named
  have hnm := (name_of_methodNamed Bd.named Bd.method).1
  have X0 : Stand p l e ({ frames := 1, cells := 0, slots := 0, locals := 12 } : Room) s m #[(.ref za), (.long zq)] below meth c s₁ [] 0 0 := Stand.of_body Bd
  have e0 : s₁.heap = h0 := by rw [← hh, Bd.state]; rfl
  have N0 := Fr.nil n0
  have Zs := Z0
  have K : Keep h0 h0 [za] := Keep.refl _ _
  show own_Goes p e below s (own_Q1 Z za zq h0 n0) ({ frames := 1, cells := 0, slots := 0, locals := 12 } : Room).cells ({ frames := 1, cells := 0, slots := 0, locals := 12 } : Room).slots _
  refine own_go (B := s₁.setTop (mkF m 0 #[.val (.ref za), .val (.long zq), .second] [])) (fun t k => castTop (ef_1 m za zq) k) ?_
  refine own_go (B := s₁.setTop (mkF m 1 #[.val (.ref za), .val (.long zq), .second] [(.ref za)])) (fun t k => XS.aloadN X0.here hx rfl (Jvm.hb hby d1_0) rfl rfl k) ?_
  obtain ⟨T1, X1, e1, st1⟩ := initO X0 hx hZ hown (own_w hw 6 rfl) (own_w hw 7 rfl) (own_w hw 8 rfl) e0 (g := (mkF m 1 #[.val (.ref za), .val (.long zq), .second] [(.ref za)])) rfl (by rw [hml]; rfl) rfl (Jvm.hb hby d1_1) (by decide) (W := 0) (by show 2 * 0 + _ ≤ _; exact Nat.le_of_eq rfl) (by decide)
  refine own_go (B := T1.setTop (mkF m 4 #[.val (.ref za), .val (.long zq), .second] [])) (fun t k => st1 _ k) ?_
  refine own_go (B := T1.setTop (mkF m 5 #[.val (.ref za), .val (.long zq), .second] [(.ref za)])) (fun t k => XS.aloadN X1.here hx rfl (Jvm.hb hby d1_4) rfl rfl k) ?_
  refine own_go (B := T1.setTop (mkF m 6 #[.val (.ref za), .val (.long zq), .second] [(.long zq), (.ref za)])) (fun t k => XS.lloadN X1.here hx rfl (Jvm.hb hby d1_5) rfl k) ?_
  obtain ⟨T2, h2, X2, e2, W2, st2⟩ := putF X1 hx hZ hown (host := "") (Or.inl (own_w hw 9 rfl)) Via.refl e1 F_za_state E_za (Or.inl (own_w hw 10 rfl)) (own_w hw 1 rfl) (ty := .long) (by decide) rfl rfl (g := (mkF m 6 #[.val (.ref za), .val (.long zq), .second] [(.long zq), (.ref za)])) rfl rfl (Jvm.hb hby d1_6)
  have N2 := Fr.snoc X2 N0 g_za
  have E_za := E_za.wr W2
  have F_za_state := F_za_state.same W2
  have K := K.wr W2 (Or.inl (List.mem_of_getElem? (i := 0) rfl))
  have Zs := Nat.le_trans Zs (Keep.of_wr W2).1
  refine own_go (B := T2.setTop (mkF m 9 #[.val (.ref za), .val (.long zq), .second] [])) (fun t k => st2 _ k) ?_
  refine own_out X2 (v := none) (fun _ => rfl) Bd.notSynchronized (fun fs hr => X2.returnOut hx Bd.returns (Jvm.hb hby d1_9) hr) ?_ (by decide) (by decide)
  show own_Q1 Z za zq h0 n0 none T2.heap _
  rw [e2]
  exact ⟨rfl, N2, K, E_za, F_za_state⟩
theorem d3_0 : decode prog_28_method_2_code 0 = .ok (.aload_n 0, 1) := by decide +kernel
theorem d3_1 : decode prog_28_method_2_code 1 = .ok (.dup, 1) := by decide +kernel
theorem d3_2 : decode prog_28_method_2_code 2 = .ok (.getfield 7, 3) := by decide +kernel
theorem d3_5 : decode prog_28_method_2_code 5 = .ok (.ldc2_w 13, 3) := by decide +kernel
theorem d3_8 : decode prog_28_method_2_code 8 = .ok (.ladd, 1) := by decide +kernel
theorem d3_9 : decode prog_28_method_2_code 9 = .ok (.putfield 7, 3) := by decide +kernel
theorem d3_12 : decode prog_28_method_2_code 12 = .ok (.aload_n 0, 1) := by decide +kernel
theorem d3_13 : decode prog_28_method_2_code 13 = .ok (.getfield 7, 3) := by decide +kernel
theorem d3_16 : decode prog_28_method_2_code 16 = .ok (.lstore_n 1, 1) := by decide +kernel
theorem d3_17 : decode prog_28_method_2_code 17 = .ok (.lload_n 1, 1) := by decide +kernel
theorem d3_18 : decode prog_28_method_2_code 18 = .ok (.lload_n 1, 1) := by decide +kernel
theorem d3_19 : decode prog_28_method_2_code 19 = .ok (.bipush 30, 2) := by decide +kernel
theorem d3_21 : decode prog_28_method_2_code 21 = .ok (.lushr, 1) := by decide +kernel
theorem d3_22 : decode prog_28_method_2_code 22 = .ok (.lxor, 1) := by decide +kernel
theorem d3_23 : decode prog_28_method_2_code 23 = .ok (.ldc2_w 15, 3) := by decide +kernel
theorem d3_26 : decode prog_28_method_2_code 26 = .ok (.lmul, 1) := by decide +kernel
theorem d3_27 : decode prog_28_method_2_code 27 = .ok (.lstore_n 1, 1) := by decide +kernel
theorem d3_28 : decode prog_28_method_2_code 28 = .ok (.lload_n 1, 1) := by decide +kernel
theorem d3_29 : decode prog_28_method_2_code 29 = .ok (.lload_n 1, 1) := by decide +kernel
theorem d3_30 : decode prog_28_method_2_code 30 = .ok (.bipush 27, 2) := by decide +kernel
theorem d3_32 : decode prog_28_method_2_code 32 = .ok (.lushr, 1) := by decide +kernel
theorem d3_33 : decode prog_28_method_2_code 33 = .ok (.lxor, 1) := by decide +kernel
theorem d3_34 : decode prog_28_method_2_code 34 = .ok (.ldc2_w 17, 3) := by decide +kernel
theorem d3_37 : decode prog_28_method_2_code 37 = .ok (.lmul, 1) := by decide +kernel
theorem d3_38 : decode prog_28_method_2_code 38 = .ok (.lstore_n 1, 1) := by decide +kernel
theorem d3_39 : decode prog_28_method_2_code 39 = .ok (.lload_n 1, 1) := by decide +kernel
theorem d3_40 : decode prog_28_method_2_code 40 = .ok (.lload_n 1, 1) := by decide +kernel
theorem d3_41 : decode prog_28_method_2_code 41 = .ok (.bipush 31, 2) := by decide +kernel
theorem d3_43 : decode prog_28_method_2_code 43 = .ok (.lushr, 1) := by decide +kernel
theorem d3_44 : decode prog_28_method_2_code 44 = .ok (.lxor, 1) := by decide +kernel
theorem d3_45 : decode prog_28_method_2_code 45 = .ok (.lreturn, 1) := by decide +kernel
theorem ef_3 (m : MethodId) (x0 : Addr) : entryFrame m #[(.ref x0)] 3 = mkF m 0 #[.val (.ref x0), .unset, .unset] [] := by first | (simp [entryFrame, mkF, argsToLocals, Value.category]; done) | rfl
def own_Q3 (Z : State) (za : Addr) (zq : Int64) (h0 : Heap) (n0 : Nat) (v : Option Value) (h : Heap) (L : List Loc) : Prop := v = some (.long (own_mix (zq + (-7046029254386353131 : Int64)))) ∧ Fr n0 L ∧ Keep h0 h [za] ∧ Exa Z h za "com/example/netloom/netloom/embed/Draws" ∧ Fld Z h za "com/example/netloom/netloom/embed/Draws" "state" "J" (.long (zq + (-7046029254386353131 : Int64)))
set_option maxRecDepth 65536 in
set_option maxHeartbeats 40000000 in
theorem rm3 (l : Launch) (Z : State) (a0 : Array Value) (hw : ∀ d ∈ tables_1, d.before a0 Z = true) (ws : List Jvm.Cond) (za : Addr) (zq : Int64) (h0 : Heap) (n0 : Nat) (Z0 : n0 ≤ h0.size) (E_za : Exa Z h0 za "com/example/netloom/netloom/embed/Draws") (F_za_state : Fld Z h0 za "com/example/netloom/netloom/embed/Draws" "state" "J" (.long zq)) (g_za : n0 ≤ za) :
    MetFree l (⟨"com/example/netloom/netloom/embed/Draws", "next", "()J"⟩ : MethodName) (head1 (Jvm.Cond.code (⟨"com/example/netloom/netloom/embed/Draws", "next", "()J"⟩ : MethodName) prog_28_method_2_code 3 (some .long) :: ws) ({ frames := 0, cells := 0, slots := 0, locals := 0 } : Room)) (fun a U => a = #[(.ref za)] ∧ Z.Warmed39 U.vm ∧ U.heap = h0) (fun _ _ _ _ _ => True) (fun _ U o U' => ∃ v L, o = .returned v ∧ own_Q3 Z za zq h0 n0 v U'.heap L ∧ FrameEnd U o U' L ({ frames := 0, cells := 0, slots := 0, locals := 0 } : Room).cells ({ frames := 0, cells := 0, slots := 0, locals := 0 } : Room).slots) := by
  refine MetFree.of_bodySF (plainFor_of_name pn_com_example_netloom_netloom_embed_Draws) hisR ?_
  intro p e s m args below meth c s₁ Bd hml0 hP hK
  obtain ⟨rfl, hZ, hh⟩ := hP
  have hx := Bd.exec
  have hby := Bd.bytes
  have hml : c.maxLocals = 3 := hml0
  have hown : s.vm.findClass "com/example/netloom/netloom/embed/Draws" = some m.cls := findClass_of_methodNamed Bd.named
  have hnm := (name_of_methodNamed Bd.named Bd.method).1
  have X0 : Stand p l e ({ frames := 0, cells := 0, slots := 0, locals := 0 } : Room) s m #[(.ref za)] below meth c s₁ [] 0 0 := Stand.of_body Bd
  have e0 : s₁.heap = h0 := by rw [← hh, Bd.state]; rfl
  have N0 := Fr.nil n0
  have Zs := Z0
  have K : Keep h0 h0 [za] := Keep.refl _ _
  show own_Goes p e below s (own_Q3 Z za zq h0 n0) ({ frames := 0, cells := 0, slots := 0, locals := 0 } : Room).cells ({ frames := 0, cells := 0, slots := 0, locals := 0 } : Room).slots _
  refine own_go (B := s₁.setTop (mkF m 0 #[.val (.ref za), .unset, .unset] [])) (fun t k => castTop (ef_3 m za) k) ?_
  refine own_go (B := s₁.setTop (mkF m 1 #[.val (.ref za), .unset, .unset] [(.ref za)])) (fun t k => XS.aloadN X0.here hx rfl (Jvm.hb hby d3_0) rfl rfl k) ?_
  refine own_go (B := s₁.setTop (mkF m 2 #[.val (.ref za), .unset, .unset] [(.ref za), (.ref za)])) (fun t k => XS.dup X0.here hx rfl (Jvm.hb hby d3_1) rfl rfl k) ?_
  obtain ⟨T3, X3, e3, st3⟩ := getF X0 hx hZ hown (host := "") (Or.inl (own_w hw 9 rfl)) Via.refl e0 F_za_state (g := (mkF m 2 #[.val (.ref za), .unset, .unset] [(.ref za), (.ref za)])) rfl rfl (Jvm.hb hby d3_2)
  refine own_go (B := T3.setTop (mkF m 5 #[.val (.ref za), .unset, .unset] [(.long zq), (.ref za)])) (fun t k => st3 _ k) ?_
  refine own_go (B := T3.setTop (mkF m 8 #[.val (.ref za), .unset, .unset] [(.long (-7046029254386353131 : Int64)), (.long zq), (.ref za)])) (fun t k => X3.ldc2Long hx hown (mvT hZ (own_w hw 16 rfl)) (g := (mkF m 5 #[.val (.ref za), .unset, .unset] [(.long zq), (.ref za)])) rfl (Jvm.hb hby d3_5) _ k) ?_
  refine own_go (B := T3.setTop (mkF m 9 #[.val (.ref za), .unset, .unset] [(.long (zq + (-7046029254386353131 : Int64))), (.ref za)])) (fun t k => XS.ladd X3.here hx rfl (Jvm.hb hby d3_8) rfl k) ?_
  obtain ⟨T4, h4, X4, e4, W4, st4⟩ := putF X3 hx hZ hown (host := "") (Or.inl (own_w hw 9 rfl)) Via.refl e3 F_za_state E_za (Or.inl (own_w hw 10 rfl)) (own_w hw 1 rfl) (ty := .long) (by decide) rfl rfl (g := (mkF m 9 #[.val (.ref za), .unset, .unset] [(.long (zq + (-7046029254386353131 : Int64))), (.ref za)])) rfl rfl (Jvm.hb hby d3_9)
  have N4 := Fr.snoc X4 N0 g_za
  have E_za := E_za.wr W4
  have F_za_state := F_za_state.same W4
  have K := K.wr W4 (Or.inl (List.mem_of_getElem? (i := 0) rfl))
  have Zs := Nat.le_trans Zs (Keep.of_wr W4).1
  refine own_go (B := T4.setTop (mkF m 12 #[.val (.ref za), .unset, .unset] [])) (fun t k => st4 _ k) ?_
  refine own_go (B := T4.setTop (mkF m 13 #[.val (.ref za), .unset, .unset] [(.ref za)])) (fun t k => XS.aloadN X4.here hx rfl (Jvm.hb hby d3_12) rfl rfl k) ?_
  obtain ⟨T5, X5, e5, st5⟩ := getF X4 hx hZ hown (host := "") (Or.inl (own_w hw 9 rfl)) Via.refl e4 F_za_state (g := (mkF m 13 #[.val (.ref za), .unset, .unset] [(.ref za)])) rfl rfl (Jvm.hb hby d3_13)
  refine own_go (B := T5.setTop (mkF m 16 #[.val (.ref za), .unset, .unset] [(.long (zq + (-7046029254386353131 : Int64)))])) (fun t k => st5 _ k) ?_
  refine own_go (B := T5.setTop (mkF m 17 #[.val (.ref za), .val (.long (zq + (-7046029254386353131 : Int64))), .second] [])) (fun t k => XS.lstoreN X5.here hx rfl (Jvm.hb hby d3_16) rfl (l' := #[.val (.ref za), .val (.long (zq + (-7046029254386353131 : Int64))), .second]) rfl k) ?_
  refine own_go (B := T5.setTop (mkF m 18 #[.val (.ref za), .val (.long (zq + (-7046029254386353131 : Int64))), .second] [(.long (zq + (-7046029254386353131 : Int64)))])) (fun t k => XS.lloadN X5.here hx rfl (Jvm.hb hby d3_17) rfl k) ?_
  refine own_go (B := T5.setTop (mkF m 19 #[.val (.ref za), .val (.long (zq + (-7046029254386353131 : Int64))), .second] [(.long (zq + (-7046029254386353131 : Int64))), (.long (zq + (-7046029254386353131 : Int64)))])) (fun t k => XS.lloadN X5.here hx rfl (Jvm.hb hby d3_18) rfl k) ?_
  refine own_go (B := T5.setTop (mkF m 21 #[.val (.ref za), .val (.long (zq + (-7046029254386353131 : Int64))), .second] [(.int (30 : Int32)), (.long (zq + (-7046029254386353131 : Int64))), (.long (zq + (-7046029254386353131 : Int64)))])) (fun t k => XS.bipush X5.here hx rfl (Jvm.hb hby d3_19) k) ?_
  refine own_go (B := T5.setTop (mkF m 22 #[.val (.ref za), .val (.long (zq + (-7046029254386353131 : Int64))), .second] [(.long (((zq + (-7046029254386353131 : Int64)).toUInt64 >>> ((30 : Int32) &&& 0x3f).toInt64.toUInt64).toInt64)), (.long (zq + (-7046029254386353131 : Int64)))])) (fun t k => XS.lushr X5.here hx rfl (Jvm.hb hby d3_21) rfl k) ?_
  refine own_go (B := T5.setTop (mkF m 23 #[.val (.ref za), .val (.long (zq + (-7046029254386353131 : Int64))), .second] [(.long ((zq + (-7046029254386353131 : Int64)) ^^^ (((zq + (-7046029254386353131 : Int64)).toUInt64 >>> ((30 : Int32) &&& 0x3f).toInt64.toUInt64).toInt64)))])) (fun t k => XS.lxor X5.here hx rfl (Jvm.hb hby d3_22) rfl k) ?_
  refine own_go (B := T5.setTop (mkF m 26 #[.val (.ref za), .val (.long (zq + (-7046029254386353131 : Int64))), .second] [(.long (-4658895280553007687 : Int64)), (.long ((zq + (-7046029254386353131 : Int64)) ^^^ (((zq + (-7046029254386353131 : Int64)).toUInt64 >>> ((30 : Int32) &&& 0x3f).toInt64.toUInt64).toInt64)))])) (fun t k => X5.ldc2Long hx hown (mvT hZ (own_w hw 17 rfl)) (g := (mkF m 23 #[.val (.ref za), .val (.long (zq + (-7046029254386353131 : Int64))), .second] [(.long ((zq + (-7046029254386353131 : Int64)) ^^^ (((zq + (-7046029254386353131 : Int64)).toUInt64 >>> ((30 : Int32) &&& 0x3f).toInt64.toUInt64).toInt64)))])) rfl (Jvm.hb hby d3_23) _ k) ?_
  refine own_go (B := T5.setTop (mkF m 27 #[.val (.ref za), .val (.long (zq + (-7046029254386353131 : Int64))), .second] [(.long (((zq + (-7046029254386353131 : Int64)) ^^^ (((zq + (-7046029254386353131 : Int64)).toUInt64 >>> ((30 : Int32) &&& 0x3f).toInt64.toUInt64).toInt64)) * (-4658895280553007687 : Int64)))])) (fun t k => XS.lmul X5.here hx rfl (Jvm.hb hby d3_26) rfl k) ?_
  obtain ⟨vz0, hvz0⟩ : ∃ z : Int64, z = (((zq + (-7046029254386353131 : Int64)) ^^^ (((zq + (-7046029254386353131 : Int64)).toUInt64 >>> ((30 : Int32) &&& 0x3f).toInt64.toUInt64).toInt64)) * (-4658895280553007687 : Int64)) := ⟨_, rfl⟩
  rw [← hvz0]
  refine own_go (B := T5.setTop (mkF m 28 #[.val (.ref za), .val (.long vz0), .second] [])) (fun t k => XS.lstoreN X5.here hx rfl (Jvm.hb hby d3_27) rfl (l' := #[.val (.ref za), .val (.long vz0), .second]) rfl k) ?_
  refine own_go (B := T5.setTop (mkF m 29 #[.val (.ref za), .val (.long vz0), .second] [(.long vz0)])) (fun t k => XS.lloadN X5.here hx rfl (Jvm.hb hby d3_28) rfl k) ?_
  refine own_go (B := T5.setTop (mkF m 30 #[.val (.ref za), .val (.long vz0), .second] [(.long vz0), (.long vz0)])) (fun t k => XS.lloadN X5.here hx rfl (Jvm.hb hby d3_29) rfl k) ?_
  refine own_go (B := T5.setTop (mkF m 32 #[.val (.ref za), .val (.long vz0), .second] [(.int (27 : Int32)), (.long vz0), (.long vz0)])) (fun t k => XS.bipush X5.here hx rfl (Jvm.hb hby d3_30) k) ?_
  refine own_go (B := T5.setTop (mkF m 33 #[.val (.ref za), .val (.long vz0), .second] [(.long ((vz0.toUInt64 >>> ((27 : Int32) &&& 0x3f).toInt64.toUInt64).toInt64)), (.long vz0)])) (fun t k => XS.lushr X5.here hx rfl (Jvm.hb hby d3_32) rfl k) ?_
  refine own_go (B := T5.setTop (mkF m 34 #[.val (.ref za), .val (.long vz0), .second] [(.long (vz0 ^^^ ((vz0.toUInt64 >>> ((27 : Int32) &&& 0x3f).toInt64.toUInt64).toInt64)))])) (fun t k => XS.lxor X5.here hx rfl (Jvm.hb hby d3_33) rfl k) ?_
  refine own_go (B := T5.setTop (mkF m 37 #[.val (.ref za), .val (.long vz0), .second] [(.long (-7723592293110705685 : Int64)), (.long (vz0 ^^^ ((vz0.toUInt64 >>> ((27 : Int32) &&& 0x3f).toInt64.toUInt64).toInt64)))])) (fun t k => X5.ldc2Long hx hown (mvT hZ (own_w hw 18 rfl)) (g := (mkF m 34 #[.val (.ref za), .val (.long vz0), .second] [(.long (vz0 ^^^ ((vz0.toUInt64 >>> ((27 : Int32) &&& 0x3f).toInt64.toUInt64).toInt64)))])) rfl (Jvm.hb hby d3_34) _ k) ?_
  refine own_go (B := T5.setTop (mkF m 38 #[.val (.ref za), .val (.long vz0), .second] [(.long ((vz0 ^^^ ((vz0.toUInt64 >>> ((27 : Int32) &&& 0x3f).toInt64.toUInt64).toInt64)) * (-7723592293110705685 : Int64)))])) (fun t k => XS.lmul X5.here hx rfl (Jvm.hb hby d3_37) rfl k) ?_
  obtain ⟨vz1, hvz1⟩ : ∃ z : Int64, z = ((vz0 ^^^ ((vz0.toUInt64 >>> ((27 : Int32) &&& 0x3f).toInt64.toUInt64).toInt64)) * (-7723592293110705685 : Int64)) := ⟨_, rfl⟩
  rw [← hvz1]
  refine own_go (B := T5.setTop (mkF m 39 #[.val (.ref za), .val (.long vz1), .second] [])) (fun t k => XS.lstoreN X5.here hx rfl (Jvm.hb hby d3_38) rfl (l' := #[.val (.ref za), .val (.long vz1), .second]) rfl k) ?_
  refine own_go (B := T5.setTop (mkF m 40 #[.val (.ref za), .val (.long vz1), .second] [(.long vz1)])) (fun t k => XS.lloadN X5.here hx rfl (Jvm.hb hby d3_39) rfl k) ?_
  refine own_go (B := T5.setTop (mkF m 41 #[.val (.ref za), .val (.long vz1), .second] [(.long vz1), (.long vz1)])) (fun t k => XS.lloadN X5.here hx rfl (Jvm.hb hby d3_40) rfl k) ?_
  refine own_go (B := T5.setTop (mkF m 43 #[.val (.ref za), .val (.long vz1), .second] [(.int (31 : Int32)), (.long vz1), (.long vz1)])) (fun t k => XS.bipush X5.here hx rfl (Jvm.hb hby d3_41) k) ?_
  refine own_go (B := T5.setTop (mkF m 44 #[.val (.ref za), .val (.long vz1), .second] [(.long ((vz1.toUInt64 >>> ((31 : Int32) &&& 0x3f).toInt64.toUInt64).toInt64)), (.long vz1)])) (fun t k => XS.lushr X5.here hx rfl (Jvm.hb hby d3_43) rfl k) ?_
  refine own_go (B := T5.setTop (mkF m 45 #[.val (.ref za), .val (.long vz1), .second] [(.long (vz1 ^^^ ((vz1.toUInt64 >>> ((31 : Int32) &&& 0x3f).toInt64.toUInt64).toInt64)))])) (fun t k => XS.lxor X5.here hx rfl (Jvm.hb hby d3_44) rfl k) ?_
  refine own_out X5 (v := (some (.long (vz1 ^^^ ((vz1.toUInt64 >>> ((31 : Int32) &&& 0x3f).toInt64.toUInt64).toInt64))))) (fun h => by rw [Bd.returns] at h; cases h) Bd.notSynchronized (fun fs hr => retOut X5 hx (t := .long) Bd.returns rfl (Or.inr (Or.inl ⟨rfl, rfl, _, rfl⟩)) (Jvm.hb hby d3_45) hr) ?_ (by decide) (by decide)
  show own_Q3 Z za zq h0 n0 (some (.long (vz1 ^^^ ((vz1.toUInt64 >>> ((31 : Int32) &&& 0x3f).toInt64.toUInt64).toInt64)))) T5.heap _
  rw [e5]
  exact ⟨(by subst hvz0; subst hvz1; rfl), N4, K, E_za, F_za_state⟩
theorem pn_com_example_netloom_netloom_embed_DrawsNextPinLaw : plainName "com/example/netloom/netloom/embed/DrawsNextPinLaw" = true := by first | (simp [plainName, overriddenIn]; done) | decide +kernel
theorem d5_0 : decode method_2_code 0 = .ok (.lload_n 0, 1) := by decide +kernel
theorem d5_1 : decode method_2_code 1 = .ok (.lstore_n 2, 1) := by decide +kernel
theorem d5_2 : decode method_2_code 2 = .ok (.lload_n 2, 1) := by decide +kernel
theorem d5_3 : decode method_2_code 3 = .ok (.ldc2_w 7, 3) := by decide +kernel
theorem d5_6 : decode method_2_code 6 = .ok (.lload_n 0, 1) := by decide +kernel
theorem d5_7 : decode method_2_code 7 = .ok (.lload_n 2, 1) := by decide +kernel
theorem d5_8 : decode method_2_code 8 = .ok (.lmul, 1) := by decide +kernel
theorem d5_9 : decode method_2_code 9 = .ok (.lsub, 1) := by decide +kernel
theorem d5_10 : decode method_2_code 10 = .ok (.lmul, 1) := by decide +kernel
theorem d5_11 : decode method_2_code 11 = .ok (.lstore_n 2, 1) := by decide +kernel
theorem d5_12 : decode method_2_code 12 = .ok (.lload_n 2, 1) := by decide +kernel
theorem d5_13 : decode method_2_code 13 = .ok (.ldc2_w 7, 3) := by decide +kernel
theorem d5_16 : decode method_2_code 16 = .ok (.lload_n 0, 1) := by decide +kernel
theorem d5_17 : decode method_2_code 17 = .ok (.lload_n 2, 1) := by decide +kernel
theorem d5_18 : decode method_2_code 18 = .ok (.lmul, 1) := by decide +kernel
theorem d5_19 : decode method_2_code 19 = .ok (.lsub, 1) := by decide +kernel
theorem d5_20 : decode method_2_code 20 = .ok (.lmul, 1) := by decide +kernel
theorem d5_21 : decode method_2_code 21 = .ok (.lstore_n 2, 1) := by decide +kernel
theorem d5_22 : decode method_2_code 22 = .ok (.lload_n 2, 1) := by decide +kernel
theorem d5_23 : decode method_2_code 23 = .ok (.ldc2_w 7, 3) := by decide +kernel
theorem d5_26 : decode method_2_code 26 = .ok (.lload_n 0, 1) := by decide +kernel
theorem d5_27 : decode method_2_code 27 = .ok (.lload_n 2, 1) := by decide +kernel
theorem d5_28 : decode method_2_code 28 = .ok (.lmul, 1) := by decide +kernel
theorem d5_29 : decode method_2_code 29 = .ok (.lsub, 1) := by decide +kernel
theorem d5_30 : decode method_2_code 30 = .ok (.lmul, 1) := by decide +kernel
theorem d5_31 : decode method_2_code 31 = .ok (.lstore_n 2, 1) := by decide +kernel
theorem d5_32 : decode method_2_code 32 = .ok (.lload_n 2, 1) := by decide +kernel
theorem d5_33 : decode method_2_code 33 = .ok (.ldc2_w 7, 3) := by decide +kernel
theorem d5_36 : decode method_2_code 36 = .ok (.lload_n 0, 1) := by decide +kernel
theorem d5_37 : decode method_2_code 37 = .ok (.lload_n 2, 1) := by decide +kernel
theorem d5_38 : decode method_2_code 38 = .ok (.lmul, 1) := by decide +kernel
theorem d5_39 : decode method_2_code 39 = .ok (.lsub, 1) := by decide +kernel
theorem d5_40 : decode method_2_code 40 = .ok (.lmul, 1) := by decide +kernel
theorem d5_41 : decode method_2_code 41 = .ok (.lstore_n 2, 1) := by decide +kernel
theorem d5_42 : decode method_2_code 42 = .ok (.lload_n 2, 1) := by decide +kernel
theorem d5_43 : decode method_2_code 43 = .ok (.ldc2_w 7, 3) := by decide +kernel
theorem d5_46 : decode method_2_code 46 = .ok (.lload_n 0, 1) := by decide +kernel
theorem d5_47 : decode method_2_code 47 = .ok (.lload_n 2, 1) := by decide +kernel
theorem d5_48 : decode method_2_code 48 = .ok (.lmul, 1) := by decide +kernel
theorem d5_49 : decode method_2_code 49 = .ok (.lsub, 1) := by decide +kernel
theorem d5_50 : decode method_2_code 50 = .ok (.lmul, 1) := by decide +kernel
theorem d5_51 : decode method_2_code 51 = .ok (.lstore_n 2, 1) := by decide +kernel
theorem d5_52 : decode method_2_code 52 = .ok (.lload_n 2, 1) := by decide +kernel
theorem d5_53 : decode method_2_code 53 = .ok (.lreturn, 1) := by decide +kernel
theorem ef_5 (m : MethodId) (x0 : Int64) : entryFrame m #[(.long x0)] 4 = mkF m 0 #[.val (.long x0), .second, .unset, .unset] [] := by first | (simp [entryFrame, mkF, argsToLocals, Value.category]; done) | rfl
def own_Q5 (Z : State) (q : Int64) (h0 : Heap) (n0 : Nat) (v : Option Value) (h : Heap) (L : List Loc) : Prop := v = some (.long (own_inv q)) ∧ Fr n0 L ∧ h = h0
set_option maxRecDepth 65536 in
set_option maxHeartbeats 40000000 in
theorem rm5 (l : Launch) (Z : State) (a0 : Array Value) (hw : ∀ d ∈ tables_1, d.before a0 Z = true) (ws : List Jvm.Cond) (q : Int64) (h0 : Heap) (n0 : Nat) (Z0 : n0 ≤ h0.size)  :
    MetFree l (⟨"com/example/netloom/netloom/embed/DrawsNextPinLaw", "inv", "(J)J"⟩ : MethodName) (head1 (Jvm.Cond.code (⟨"com/example/netloom/netloom/embed/DrawsNextPinLaw", "inv", "(J)J"⟩ : MethodName) method_2_code 4 (some .long) :: ws) ({ frames := 0, cells := 0, slots := 0, locals := 0 } : Room)) (fun a U => a = #[(.long q)] ∧ Z.Warmed39 U.vm ∧ U.heap = h0) (fun _ _ _ _ _ => True) (fun _ U o U' => ∃ v L, o = .returned v ∧ own_Q5 Z q h0 n0 v U'.heap L ∧ FrameEnd U o U' L ({ frames := 0, cells := 0, slots := 0, locals := 0 } : Room).cells ({ frames := 0, cells := 0, slots := 0, locals := 0 } : Room).slots) := by
  refine MetFree.of_bodySF (plainFor_of_name pn_com_example_netloom_netloom_embed_DrawsNextPinLaw) hisR ?_
  intro p e s m args below meth c s₁ Bd hml0 hP hK
  obtain ⟨rfl, hZ, hh⟩ := hP
  have hx := Bd.exec
  have hby := Bd.bytes
  have hml : c.maxLocals = 4 := hml0
  have hown : s.vm.findClass "com/example/netloom/netloom/embed/DrawsNextPinLaw" = some m.cls := findClass_of_methodNamed Bd.named
  have hnm := (name_of_methodNamed Bd.named Bd.method).1
  have X0 : Stand p l e ({ frames := 0, cells := 0, slots := 0, locals := 0 } : Room) s m #[(.long q)] below meth c s₁ [] 0 0 := Stand.of_body Bd
  have e0 : s₁.heap = h0 := by rw [← hh, Bd.state]; rfl
  have N0 := Fr.nil n0
  have Zs := Z0
  show own_Goes p e below s (own_Q5 Z q h0 n0) ({ frames := 0, cells := 0, slots := 0, locals := 0 } : Room).cells ({ frames := 0, cells := 0, slots := 0, locals := 0 } : Room).slots _
  refine own_go (B := s₁.setTop (mkF m 0 #[.val (.long q), .second, .unset, .unset] [])) (fun t k => castTop (ef_5 m q) k) ?_
  refine own_go (B := s₁.setTop (mkF m 1 #[.val (.long q), .second, .unset, .unset] [(.long q)])) (fun t k => XS.lloadN X0.here hx rfl (Jvm.hb hby d5_0) rfl k) ?_
  refine own_go (B := s₁.setTop (mkF m 2 #[.val (.long q), .second, .val (.long q), .second] [])) (fun t k => XS.lstoreN X0.here hx rfl (Jvm.hb hby d5_1) rfl (l' := #[.val (.long q), .second, .val (.long q), .second]) rfl k) ?_
  refine own_go (B := s₁.setTop (mkF m 3 #[.val (.long q), .second, .val (.long q), .second] [(.long q)])) (fun t k => XS.lloadN X0.here hx rfl (Jvm.hb hby d5_2) rfl k) ?_
  refine own_go (B := s₁.setTop (mkF m 6 #[.val (.long q), .second, .val (.long q), .second] [(.long (2 : Int64)), (.long q)])) (fun t k => X0.ldc2Long hx hown (mvT hZ (own_w hw 27 rfl)) (g := (mkF m 3 #[.val (.long q), .second, .val (.long q), .second] [(.long q)])) rfl (Jvm.hb hby d5_3) _ k) ?_
  refine own_go (B := s₁.setTop (mkF m 7 #[.val (.long q), .second, .val (.long q), .second] [(.long q), (.long (2 : Int64)), (.long q)])) (fun t k => XS.lloadN X0.here hx rfl (Jvm.hb hby d5_6) rfl k) ?_
  refine own_go (B := s₁.setTop (mkF m 8 #[.val (.long q), .second, .val (.long q), .second] [(.long q), (.long q), (.long (2 : Int64)), (.long q)])) (fun t k => XS.lloadN X0.here hx rfl (Jvm.hb hby d5_7) rfl k) ?_
  refine own_go (B := s₁.setTop (mkF m 9 #[.val (.long q), .second, .val (.long q), .second] [(.long (q * q)), (.long (2 : Int64)), (.long q)])) (fun t k => XS.lmul X0.here hx rfl (Jvm.hb hby d5_8) rfl k) ?_
  refine own_go (B := s₁.setTop (mkF m 10 #[.val (.long q), .second, .val (.long q), .second] [(.long ((2 : Int64) - (q * q))), (.long q)])) (fun t k => XS.lsub X0.here hx rfl (Jvm.hb hby d5_9) rfl k) ?_
  refine own_go (B := s₁.setTop (mkF m 11 #[.val (.long q), .second, .val (.long q), .second] [(.long (q * ((2 : Int64) - (q * q))))])) (fun t k => XS.lmul X0.here hx rfl (Jvm.hb hby d5_10) rfl k) ?_
  obtain ⟨vz0, hvz0⟩ : ∃ z : Int64, z = (q * ((2 : Int64) - (q * q))) := ⟨_, rfl⟩
  rw [← hvz0]
  refine own_go (B := s₁.setTop (mkF m 12 #[.val (.long q), .second, .val (.long vz0), .second] [])) (fun t k => XS.lstoreN X0.here hx rfl (Jvm.hb hby d5_11) rfl (l' := #[.val (.long q), .second, .val (.long vz0), .second]) rfl k) ?_
  refine own_go (B := s₁.setTop (mkF m 13 #[.val (.long q), .second, .val (.long vz0), .second] [(.long vz0)])) (fun t k => XS.lloadN X0.here hx rfl (Jvm.hb hby d5_12) rfl k) ?_
  refine own_go (B := s₁.setTop (mkF m 16 #[.val (.long q), .second, .val (.long vz0), .second] [(.long (2 : Int64)), (.long vz0)])) (fun t k => X0.ldc2Long hx hown (mvT hZ (own_w hw 27 rfl)) (g := (mkF m 13 #[.val (.long q), .second, .val (.long vz0), .second] [(.long vz0)])) rfl (Jvm.hb hby d5_13) _ k) ?_
  refine own_go (B := s₁.setTop (mkF m 17 #[.val (.long q), .second, .val (.long vz0), .second] [(.long q), (.long (2 : Int64)), (.long vz0)])) (fun t k => XS.lloadN X0.here hx rfl (Jvm.hb hby d5_16) rfl k) ?_
  refine own_go (B := s₁.setTop (mkF m 18 #[.val (.long q), .second, .val (.long vz0), .second] [(.long vz0), (.long q), (.long (2 : Int64)), (.long vz0)])) (fun t k => XS.lloadN X0.here hx rfl (Jvm.hb hby d5_17) rfl k) ?_
  refine own_go (B := s₁.setTop (mkF m 19 #[.val (.long q), .second, .val (.long vz0), .second] [(.long (q * vz0)), (.long (2 : Int64)), (.long vz0)])) (fun t k => XS.lmul X0.here hx rfl (Jvm.hb hby d5_18) rfl k) ?_
  refine own_go (B := s₁.setTop (mkF m 20 #[.val (.long q), .second, .val (.long vz0), .second] [(.long ((2 : Int64) - (q * vz0))), (.long vz0)])) (fun t k => XS.lsub X0.here hx rfl (Jvm.hb hby d5_19) rfl k) ?_
  refine own_go (B := s₁.setTop (mkF m 21 #[.val (.long q), .second, .val (.long vz0), .second] [(.long (vz0 * ((2 : Int64) - (q * vz0))))])) (fun t k => XS.lmul X0.here hx rfl (Jvm.hb hby d5_20) rfl k) ?_
  obtain ⟨vz1, hvz1⟩ : ∃ z : Int64, z = (vz0 * ((2 : Int64) - (q * vz0))) := ⟨_, rfl⟩
  rw [← hvz1]
  refine own_go (B := s₁.setTop (mkF m 22 #[.val (.long q), .second, .val (.long vz1), .second] [])) (fun t k => XS.lstoreN X0.here hx rfl (Jvm.hb hby d5_21) rfl (l' := #[.val (.long q), .second, .val (.long vz1), .second]) rfl k) ?_
  refine own_go (B := s₁.setTop (mkF m 23 #[.val (.long q), .second, .val (.long vz1), .second] [(.long vz1)])) (fun t k => XS.lloadN X0.here hx rfl (Jvm.hb hby d5_22) rfl k) ?_
  refine own_go (B := s₁.setTop (mkF m 26 #[.val (.long q), .second, .val (.long vz1), .second] [(.long (2 : Int64)), (.long vz1)])) (fun t k => X0.ldc2Long hx hown (mvT hZ (own_w hw 27 rfl)) (g := (mkF m 23 #[.val (.long q), .second, .val (.long vz1), .second] [(.long vz1)])) rfl (Jvm.hb hby d5_23) _ k) ?_
  refine own_go (B := s₁.setTop (mkF m 27 #[.val (.long q), .second, .val (.long vz1), .second] [(.long q), (.long (2 : Int64)), (.long vz1)])) (fun t k => XS.lloadN X0.here hx rfl (Jvm.hb hby d5_26) rfl k) ?_
  refine own_go (B := s₁.setTop (mkF m 28 #[.val (.long q), .second, .val (.long vz1), .second] [(.long vz1), (.long q), (.long (2 : Int64)), (.long vz1)])) (fun t k => XS.lloadN X0.here hx rfl (Jvm.hb hby d5_27) rfl k) ?_
  refine own_go (B := s₁.setTop (mkF m 29 #[.val (.long q), .second, .val (.long vz1), .second] [(.long (q * vz1)), (.long (2 : Int64)), (.long vz1)])) (fun t k => XS.lmul X0.here hx rfl (Jvm.hb hby d5_28) rfl k) ?_
  refine own_go (B := s₁.setTop (mkF m 30 #[.val (.long q), .second, .val (.long vz1), .second] [(.long ((2 : Int64) - (q * vz1))), (.long vz1)])) (fun t k => XS.lsub X0.here hx rfl (Jvm.hb hby d5_29) rfl k) ?_
  refine own_go (B := s₁.setTop (mkF m 31 #[.val (.long q), .second, .val (.long vz1), .second] [(.long (vz1 * ((2 : Int64) - (q * vz1))))])) (fun t k => XS.lmul X0.here hx rfl (Jvm.hb hby d5_30) rfl k) ?_
  obtain ⟨vz2, hvz2⟩ : ∃ z : Int64, z = (vz1 * ((2 : Int64) - (q * vz1))) := ⟨_, rfl⟩
  rw [← hvz2]
  refine own_go (B := s₁.setTop (mkF m 32 #[.val (.long q), .second, .val (.long vz2), .second] [])) (fun t k => XS.lstoreN X0.here hx rfl (Jvm.hb hby d5_31) rfl (l' := #[.val (.long q), .second, .val (.long vz2), .second]) rfl k) ?_
  refine own_go (B := s₁.setTop (mkF m 33 #[.val (.long q), .second, .val (.long vz2), .second] [(.long vz2)])) (fun t k => XS.lloadN X0.here hx rfl (Jvm.hb hby d5_32) rfl k) ?_
  refine own_go (B := s₁.setTop (mkF m 36 #[.val (.long q), .second, .val (.long vz2), .second] [(.long (2 : Int64)), (.long vz2)])) (fun t k => X0.ldc2Long hx hown (mvT hZ (own_w hw 27 rfl)) (g := (mkF m 33 #[.val (.long q), .second, .val (.long vz2), .second] [(.long vz2)])) rfl (Jvm.hb hby d5_33) _ k) ?_
  refine own_go (B := s₁.setTop (mkF m 37 #[.val (.long q), .second, .val (.long vz2), .second] [(.long q), (.long (2 : Int64)), (.long vz2)])) (fun t k => XS.lloadN X0.here hx rfl (Jvm.hb hby d5_36) rfl k) ?_
  refine own_go (B := s₁.setTop (mkF m 38 #[.val (.long q), .second, .val (.long vz2), .second] [(.long vz2), (.long q), (.long (2 : Int64)), (.long vz2)])) (fun t k => XS.lloadN X0.here hx rfl (Jvm.hb hby d5_37) rfl k) ?_
  refine own_go (B := s₁.setTop (mkF m 39 #[.val (.long q), .second, .val (.long vz2), .second] [(.long (q * vz2)), (.long (2 : Int64)), (.long vz2)])) (fun t k => XS.lmul X0.here hx rfl (Jvm.hb hby d5_38) rfl k) ?_
  refine own_go (B := s₁.setTop (mkF m 40 #[.val (.long q), .second, .val (.long vz2), .second] [(.long ((2 : Int64) - (q * vz2))), (.long vz2)])) (fun t k => XS.lsub X0.here hx rfl (Jvm.hb hby d5_39) rfl k) ?_
  refine own_go (B := s₁.setTop (mkF m 41 #[.val (.long q), .second, .val (.long vz2), .second] [(.long (vz2 * ((2 : Int64) - (q * vz2))))])) (fun t k => XS.lmul X0.here hx rfl (Jvm.hb hby d5_40) rfl k) ?_
  obtain ⟨vz3, hvz3⟩ : ∃ z : Int64, z = (vz2 * ((2 : Int64) - (q * vz2))) := ⟨_, rfl⟩
  rw [← hvz3]
  refine own_go (B := s₁.setTop (mkF m 42 #[.val (.long q), .second, .val (.long vz3), .second] [])) (fun t k => XS.lstoreN X0.here hx rfl (Jvm.hb hby d5_41) rfl (l' := #[.val (.long q), .second, .val (.long vz3), .second]) rfl k) ?_
  refine own_go (B := s₁.setTop (mkF m 43 #[.val (.long q), .second, .val (.long vz3), .second] [(.long vz3)])) (fun t k => XS.lloadN X0.here hx rfl (Jvm.hb hby d5_42) rfl k) ?_
  refine own_go (B := s₁.setTop (mkF m 46 #[.val (.long q), .second, .val (.long vz3), .second] [(.long (2 : Int64)), (.long vz3)])) (fun t k => X0.ldc2Long hx hown (mvT hZ (own_w hw 27 rfl)) (g := (mkF m 43 #[.val (.long q), .second, .val (.long vz3), .second] [(.long vz3)])) rfl (Jvm.hb hby d5_43) _ k) ?_
  refine own_go (B := s₁.setTop (mkF m 47 #[.val (.long q), .second, .val (.long vz3), .second] [(.long q), (.long (2 : Int64)), (.long vz3)])) (fun t k => XS.lloadN X0.here hx rfl (Jvm.hb hby d5_46) rfl k) ?_
  refine own_go (B := s₁.setTop (mkF m 48 #[.val (.long q), .second, .val (.long vz3), .second] [(.long vz3), (.long q), (.long (2 : Int64)), (.long vz3)])) (fun t k => XS.lloadN X0.here hx rfl (Jvm.hb hby d5_47) rfl k) ?_
  refine own_go (B := s₁.setTop (mkF m 49 #[.val (.long q), .second, .val (.long vz3), .second] [(.long (q * vz3)), (.long (2 : Int64)), (.long vz3)])) (fun t k => XS.lmul X0.here hx rfl (Jvm.hb hby d5_48) rfl k) ?_
  refine own_go (B := s₁.setTop (mkF m 50 #[.val (.long q), .second, .val (.long vz3), .second] [(.long ((2 : Int64) - (q * vz3))), (.long vz3)])) (fun t k => XS.lsub X0.here hx rfl (Jvm.hb hby d5_49) rfl k) ?_
  refine own_go (B := s₁.setTop (mkF m 51 #[.val (.long q), .second, .val (.long vz3), .second] [(.long (vz3 * ((2 : Int64) - (q * vz3))))])) (fun t k => XS.lmul X0.here hx rfl (Jvm.hb hby d5_50) rfl k) ?_
  obtain ⟨vz4, hvz4⟩ : ∃ z : Int64, z = (vz3 * ((2 : Int64) - (q * vz3))) := ⟨_, rfl⟩
  rw [← hvz4]
  refine own_go (B := s₁.setTop (mkF m 52 #[.val (.long q), .second, .val (.long vz4), .second] [])) (fun t k => XS.lstoreN X0.here hx rfl (Jvm.hb hby d5_51) rfl (l' := #[.val (.long q), .second, .val (.long vz4), .second]) rfl k) ?_
  refine own_go (B := s₁.setTop (mkF m 53 #[.val (.long q), .second, .val (.long vz4), .second] [(.long vz4)])) (fun t k => XS.lloadN X0.here hx rfl (Jvm.hb hby d5_52) rfl k) ?_
  refine own_out X0 (v := (some (.long vz4))) (fun h => by rw [Bd.returns] at h; cases h) Bd.notSynchronized (fun fs hr => retOut X0 hx (t := .long) Bd.returns rfl (Or.inr (Or.inl ⟨rfl, rfl, _, rfl⟩)) (Jvm.hb hby d5_53) hr) ?_ (by decide) (by decide)
  show own_Q5 Z q h0 n0 (some (.long vz4)) s₁.heap _
  rw [e0]
  exact ⟨congrArg (fun z => some (Value.long z)) (by subst hvz0; subst hvz1; subst hvz2; subst hvz3; subst hvz4; rfl), N0, rfl⟩
theorem d4_0 : decode method_3_code 0 = .ok (.lload_n 0, 1) := by decide +kernel
theorem d4_1 : decode method_3_code 1 = .ok (.lload_n 0, 1) := by decide +kernel
theorem d4_2 : decode method_3_code 2 = .ok (.bipush 31, 2) := by decide +kernel
theorem d4_4 : decode method_3_code 4 = .ok (.lushr, 1) := by decide +kernel
theorem d4_5 : decode method_3_code 5 = .ok (.lxor, 1) := by decide +kernel
theorem d4_6 : decode method_3_code 6 = .ok (.lload_n 0, 1) := by decide +kernel
theorem d4_7 : decode method_3_code 7 = .ok (.bipush 62, 2) := by decide +kernel
theorem d4_9 : decode method_3_code 9 = .ok (.lushr, 1) := by decide +kernel
theorem d4_10 : decode method_3_code 10 = .ok (.lxor, 1) := by decide +kernel
theorem d4_11 : decode method_3_code 11 = .ok (.lstore_n 0, 1) := by decide +kernel
theorem d4_12 : decode method_3_code 12 = .ok (.lload_n 0, 1) := by decide +kernel
theorem d4_13 : decode method_3_code 13 = .ok (.ldc2_w 11, 3) := by decide +kernel
theorem d4_16 : decode method_3_code 16 = .ok (.invokestatic 13, 3) := by decide +kernel
theorem d4_19 : decode method_3_code 19 = .ok (.lmul, 1) := by decide +kernel
theorem d4_20 : decode method_3_code 20 = .ok (.lstore_n 0, 1) := by decide +kernel
theorem d4_21 : decode method_3_code 21 = .ok (.lload_n 0, 1) := by decide +kernel
theorem d4_22 : decode method_3_code 22 = .ok (.lload_n 0, 1) := by decide +kernel
theorem d4_23 : decode method_3_code 23 = .ok (.bipush 27, 2) := by decide +kernel
theorem d4_25 : decode method_3_code 25 = .ok (.lushr, 1) := by decide +kernel
theorem d4_26 : decode method_3_code 26 = .ok (.lxor, 1) := by decide +kernel
theorem d4_27 : decode method_3_code 27 = .ok (.lload_n 0, 1) := by decide +kernel
theorem d4_28 : decode method_3_code 28 = .ok (.bipush 54, 2) := by decide +kernel
theorem d4_30 : decode method_3_code 30 = .ok (.lushr, 1) := by decide +kernel
theorem d4_31 : decode method_3_code 31 = .ok (.lxor, 1) := by decide +kernel
theorem d4_32 : decode method_3_code 32 = .ok (.lstore_n 0, 1) := by decide +kernel
theorem d4_33 : decode method_3_code 33 = .ok (.lload_n 0, 1) := by decide +kernel
theorem d4_34 : decode method_3_code 34 = .ok (.ldc2_w 17, 3) := by decide +kernel
theorem d4_37 : decode method_3_code 37 = .ok (.invokestatic 13, 3) := by decide +kernel
theorem d4_40 : decode method_3_code 40 = .ok (.lmul, 1) := by decide +kernel
theorem d4_41 : decode method_3_code 41 = .ok (.lstore_n 0, 1) := by decide +kernel
theorem d4_42 : decode method_3_code 42 = .ok (.lload_n 0, 1) := by decide +kernel
theorem d4_43 : decode method_3_code 43 = .ok (.lload_n 0, 1) := by decide +kernel
theorem d4_44 : decode method_3_code 44 = .ok (.bipush 30, 2) := by decide +kernel
theorem d4_46 : decode method_3_code 46 = .ok (.lushr, 1) := by decide +kernel
theorem d4_47 : decode method_3_code 47 = .ok (.lxor, 1) := by decide +kernel
theorem d4_48 : decode method_3_code 48 = .ok (.lload_n 0, 1) := by decide +kernel
theorem d4_49 : decode method_3_code 49 = .ok (.bipush 60, 2) := by decide +kernel
theorem d4_51 : decode method_3_code 51 = .ok (.lushr, 1) := by decide +kernel
theorem d4_52 : decode method_3_code 52 = .ok (.lxor, 1) := by decide +kernel
theorem d4_53 : decode method_3_code 53 = .ok (.lstore_n 0, 1) := by decide +kernel
theorem d4_54 : decode method_3_code 54 = .ok (.lload_n 0, 1) := by decide +kernel
theorem d4_55 : decode method_3_code 55 = .ok (.lreturn, 1) := by decide +kernel
theorem pd_0 : parseMethodDescriptor "(J)J" = some ⟨[.long], some .long⟩ := by decide +kernel
theorem ef_4 (m : MethodId) (x0 : Int64) : entryFrame m #[(.long x0)] 2 = mkF m 0 #[.val (.long x0), .second] [] := by first | (simp [entryFrame, mkF, argsToLocals, Value.category]; done) | rfl
def own_Q4 (Z : State) (q : Int64) (h0 : Heap) (n0 : Nat) (v : Option Value) (h : Heap) (L : List Loc) : Prop := v = some (.long (own_unmix q)) ∧ Fr n0 L ∧ h = h0
set_option maxRecDepth 65536 in
set_option maxHeartbeats 40000000 in
theorem rm4 (l : Launch) (Z : State) (a0 : Array Value) (hw : ∀ d ∈ tables_1, d.before a0 Z = true) (ws : List Jvm.Cond) (q : Int64) (h0 : Heap) (n0 : Nat) (Z0 : n0 ≤ h0.size)  :
    MetFree l (⟨"com/example/netloom/netloom/embed/DrawsNextPinLaw", "unmix", "(J)J"⟩ : MethodName) (head1 (Jvm.Cond.code (⟨"com/example/netloom/netloom/embed/DrawsNextPinLaw", "unmix", "(J)J"⟩ : MethodName) method_3_code 2 (some .long) :: ws) ({ frames := 1, cells := 0, slots := 0, locals := 17 } : Room)) (fun a U => a = #[(.long q)] ∧ Z.Warmed39 U.vm ∧ U.heap = h0) (fun _ _ _ _ _ => True) (fun _ U o U' => ∃ v L, o = .returned v ∧ own_Q4 Z q h0 n0 v U'.heap L ∧ FrameEnd U o U' L ({ frames := 1, cells := 0, slots := 0, locals := 17 } : Room).cells ({ frames := 1, cells := 0, slots := 0, locals := 17 } : Room).slots) := by
  refine MetFree.of_bodySF (plainFor_of_name pn_com_example_netloom_netloom_embed_DrawsNextPinLaw) hisR ?_
  intro p e s m args below meth c s₁ Bd hml0 hP hK
  obtain ⟨rfl, hZ, hh⟩ := hP
  have hx := Bd.exec
  have hby := Bd.bytes
  have hml : c.maxLocals = 2 := hml0
  have hown : s.vm.findClass "com/example/netloom/netloom/embed/DrawsNextPinLaw" = some m.cls := findClass_of_methodNamed Bd.named
  have hnm := (name_of_methodNamed Bd.named Bd.method).1
  have X0 : Stand p l e ({ frames := 1, cells := 0, slots := 0, locals := 17 } : Room) s m #[(.long q)] below meth c s₁ [] 0 0 := Stand.of_body Bd
  have e0 : s₁.heap = h0 := by rw [← hh, Bd.state]; rfl
  have N0 := Fr.nil n0
  have Zs := Z0
  show own_Goes p e below s (own_Q4 Z q h0 n0) ({ frames := 1, cells := 0, slots := 0, locals := 17 } : Room).cells ({ frames := 1, cells := 0, slots := 0, locals := 17 } : Room).slots _
  refine own_go (B := s₁.setTop (mkF m 0 #[.val (.long q), .second] [])) (fun t k => castTop (ef_4 m q) k) ?_
  refine own_go (B := s₁.setTop (mkF m 1 #[.val (.long q), .second] [(.long q)])) (fun t k => XS.lloadN X0.here hx rfl (Jvm.hb hby d4_0) rfl k) ?_
  refine own_go (B := s₁.setTop (mkF m 2 #[.val (.long q), .second] [(.long q), (.long q)])) (fun t k => XS.lloadN X0.here hx rfl (Jvm.hb hby d4_1) rfl k) ?_
  refine own_go (B := s₁.setTop (mkF m 4 #[.val (.long q), .second] [(.int (31 : Int32)), (.long q), (.long q)])) (fun t k => XS.bipush X0.here hx rfl (Jvm.hb hby d4_2) k) ?_
  refine own_go (B := s₁.setTop (mkF m 5 #[.val (.long q), .second] [(.long ((q.toUInt64 >>> ((31 : Int32) &&& 0x3f).toInt64.toUInt64).toInt64)), (.long q)])) (fun t k => XS.lushr X0.here hx rfl (Jvm.hb hby d4_4) rfl k) ?_
  refine own_go (B := s₁.setTop (mkF m 6 #[.val (.long q), .second] [(.long (q ^^^ ((q.toUInt64 >>> ((31 : Int32) &&& 0x3f).toInt64.toUInt64).toInt64)))])) (fun t k => XS.lxor X0.here hx rfl (Jvm.hb hby d4_5) rfl k) ?_
  refine own_go (B := s₁.setTop (mkF m 7 #[.val (.long q), .second] [(.long q), (.long (q ^^^ ((q.toUInt64 >>> ((31 : Int32) &&& 0x3f).toInt64.toUInt64).toInt64)))])) (fun t k => XS.lloadN X0.here hx rfl (Jvm.hb hby d4_6) rfl k) ?_
  refine own_go (B := s₁.setTop (mkF m 9 #[.val (.long q), .second] [(.int (62 : Int32)), (.long q), (.long (q ^^^ ((q.toUInt64 >>> ((31 : Int32) &&& 0x3f).toInt64.toUInt64).toInt64)))])) (fun t k => XS.bipush X0.here hx rfl (Jvm.hb hby d4_7) k) ?_
  refine own_go (B := s₁.setTop (mkF m 10 #[.val (.long q), .second] [(.long ((q.toUInt64 >>> ((62 : Int32) &&& 0x3f).toInt64.toUInt64).toInt64)), (.long (q ^^^ ((q.toUInt64 >>> ((31 : Int32) &&& 0x3f).toInt64.toUInt64).toInt64)))])) (fun t k => XS.lushr X0.here hx rfl (Jvm.hb hby d4_9) rfl k) ?_
  refine own_go (B := s₁.setTop (mkF m 11 #[.val (.long q), .second] [(.long ((q ^^^ ((q.toUInt64 >>> ((31 : Int32) &&& 0x3f).toInt64.toUInt64).toInt64)) ^^^ ((q.toUInt64 >>> ((62 : Int32) &&& 0x3f).toInt64.toUInt64).toInt64)))])) (fun t k => XS.lxor X0.here hx rfl (Jvm.hb hby d4_10) rfl k) ?_
  obtain ⟨vz0, hvz0⟩ : ∃ z : Int64, z = ((q ^^^ ((q.toUInt64 >>> ((31 : Int32) &&& 0x3f).toInt64.toUInt64).toInt64)) ^^^ ((q.toUInt64 >>> ((62 : Int32) &&& 0x3f).toInt64.toUInt64).toInt64)) := ⟨_, rfl⟩
  rw [← hvz0]
  refine own_go (B := s₁.setTop (mkF m 12 #[.val (.long vz0), .second] [])) (fun t k => XS.lstoreN X0.here hx rfl (Jvm.hb hby d4_11) rfl (l' := #[.val (.long vz0), .second]) rfl k) ?_
  refine own_go (B := s₁.setTop (mkF m 13 #[.val (.long vz0), .second] [(.long vz0)])) (fun t k => XS.lloadN X0.here hx rfl (Jvm.hb hby d4_12) rfl k) ?_
  refine own_go (B := s₁.setTop (mkF m 16 #[.val (.long vz0), .second] [(.long (-7723592293110705685 : Int64)), (.long vz0)])) (fun t k => X0.ldc2Long hx hown (mvT hZ (own_w hw 23 rfl)) (g := (mkF m 13 #[.val (.long vz0), .second] [(.long vz0)])) rfl (Jvm.hb hby d4_13) _ k) ?_
  obtain ⟨_, _, ⟨T6, La6, ka6, na6⟩, -, X6, ⟨Lc6, hQ6, l6, y6, z6⟩, st6⟩ := Jvm.LawKit.callS X0 hx (y := (⟨"com/example/netloom/netloom/embed/DrawsNextPinLaw", "inv", "(J)J"⟩ : MethodName)) hown (mvT hZ (own_w hw 24 rfl)) (mvT hZ (own_w hw 25 rfl)) (mvT hZ (own_w hw 21 rfl)) (mvT hZ (own_w hw 26 rfl)) (by decide) (backOf (W := 2) (rm5 l Z a0 hw [] (-7723592293110705685 : Int64) h0 n0 Zs) hZ (own_w hw 26 rfl) (own_w hw 21 rfl) (by decide) (by decide)) (g := (mkF m 16 #[.val (.long vz0), .second] [(.long (-7723592293110705685 : Int64)), (.long vz0)])) rfl (by rw [hml]; rfl) (argsL := [(.long (-7723592293110705685 : Int64))]) (rest := [(.long vz0)]) (lenOf pd_0 rfl) rfl (by show 2 * 0 + _ ≤ _; exact Nat.le_of_eq rfl) (Jvm.hb hby d4_16) (fun _ _ => ⟨rfl, e0, (by decide : 0 + 0 ≤ _), (by decide : 0 + 0 ≤ _)⟩)
  dsimp only [Pt.U, Pt.locs, Pt.cells, Pt.slots] at X6 l6 y6 z6 st6 hQ6
  subst l6 y6 z6
  obtain ⟨rfl, N6q, e6⟩ := hQ6
  have N6 := Fr.app N0 N6q
  refine own_go (B := T6.setTop (mkF m 19 #[.val (.long vz0), .second] [(.long (own_inv (-7723592293110705685 : Int64))), (.long vz0)])) (fun t k => st6 _ k) ?_
  refine own_go (B := T6.setTop (mkF m 20 #[.val (.long vz0), .second] [(.long (vz0 * (own_inv (-7723592293110705685 : Int64))))])) (fun t k => XS.lmul X6.here hx rfl (Jvm.hb hby d4_19) rfl k) ?_
  obtain ⟨vz1, hvz1⟩ : ∃ z : Int64, z = (vz0 * (own_inv (-7723592293110705685 : Int64))) := ⟨_, rfl⟩
  rw [← hvz1]
  refine own_go (B := T6.setTop (mkF m 21 #[.val (.long vz1), .second] [])) (fun t k => XS.lstoreN X6.here hx rfl (Jvm.hb hby d4_20) rfl (l' := #[.val (.long vz1), .second]) rfl k) ?_
  refine own_go (B := T6.setTop (mkF m 22 #[.val (.long vz1), .second] [(.long vz1)])) (fun t k => XS.lloadN X6.here hx rfl (Jvm.hb hby d4_21) rfl k) ?_
  refine own_go (B := T6.setTop (mkF m 23 #[.val (.long vz1), .second] [(.long vz1), (.long vz1)])) (fun t k => XS.lloadN X6.here hx rfl (Jvm.hb hby d4_22) rfl k) ?_
  refine own_go (B := T6.setTop (mkF m 25 #[.val (.long vz1), .second] [(.int (27 : Int32)), (.long vz1), (.long vz1)])) (fun t k => XS.bipush X6.here hx rfl (Jvm.hb hby d4_23) k) ?_
  refine own_go (B := T6.setTop (mkF m 26 #[.val (.long vz1), .second] [(.long ((vz1.toUInt64 >>> ((27 : Int32) &&& 0x3f).toInt64.toUInt64).toInt64)), (.long vz1)])) (fun t k => XS.lushr X6.here hx rfl (Jvm.hb hby d4_25) rfl k) ?_
  refine own_go (B := T6.setTop (mkF m 27 #[.val (.long vz1), .second] [(.long (vz1 ^^^ ((vz1.toUInt64 >>> ((27 : Int32) &&& 0x3f).toInt64.toUInt64).toInt64)))])) (fun t k => XS.lxor X6.here hx rfl (Jvm.hb hby d4_26) rfl k) ?_
  refine own_go (B := T6.setTop (mkF m 28 #[.val (.long vz1), .second] [(.long vz1), (.long (vz1 ^^^ ((vz1.toUInt64 >>> ((27 : Int32) &&& 0x3f).toInt64.toUInt64).toInt64)))])) (fun t k => XS.lloadN X6.here hx rfl (Jvm.hb hby d4_27) rfl k) ?_
  refine own_go (B := T6.setTop (mkF m 30 #[.val (.long vz1), .second] [(.int (54 : Int32)), (.long vz1), (.long (vz1 ^^^ ((vz1.toUInt64 >>> ((27 : Int32) &&& 0x3f).toInt64.toUInt64).toInt64)))])) (fun t k => XS.bipush X6.here hx rfl (Jvm.hb hby d4_28) k) ?_
  refine own_go (B := T6.setTop (mkF m 31 #[.val (.long vz1), .second] [(.long ((vz1.toUInt64 >>> ((54 : Int32) &&& 0x3f).toInt64.toUInt64).toInt64)), (.long (vz1 ^^^ ((vz1.toUInt64 >>> ((27 : Int32) &&& 0x3f).toInt64.toUInt64).toInt64)))])) (fun t k => XS.lushr X6.here hx rfl (Jvm.hb hby d4_30) rfl k) ?_
  refine own_go (B := T6.setTop (mkF m 32 #[.val (.long vz1), .second] [(.long ((vz1 ^^^ ((vz1.toUInt64 >>> ((27 : Int32) &&& 0x3f).toInt64.toUInt64).toInt64)) ^^^ ((vz1.toUInt64 >>> ((54 : Int32) &&& 0x3f).toInt64.toUInt64).toInt64)))])) (fun t k => XS.lxor X6.here hx rfl (Jvm.hb hby d4_31) rfl k) ?_
  obtain ⟨vz2, hvz2⟩ : ∃ z : Int64, z = ((vz1 ^^^ ((vz1.toUInt64 >>> ((27 : Int32) &&& 0x3f).toInt64.toUInt64).toInt64)) ^^^ ((vz1.toUInt64 >>> ((54 : Int32) &&& 0x3f).toInt64.toUInt64).toInt64)) := ⟨_, rfl⟩
  rw [← hvz2]
  refine own_go (B := T6.setTop (mkF m 33 #[.val (.long vz2), .second] [])) (fun t k => XS.lstoreN X6.here hx rfl (Jvm.hb hby d4_32) rfl (l' := #[.val (.long vz2), .second]) rfl k) ?_
  refine own_go (B := T6.setTop (mkF m 34 #[.val (.long vz2), .second] [(.long vz2)])) (fun t k => XS.lloadN X6.here hx rfl (Jvm.hb hby d4_33) rfl k) ?_
  refine own_go (B := T6.setTop (mkF m 37 #[.val (.long vz2), .second] [(.long (-4658895280553007687 : Int64)), (.long vz2)])) (fun t k => X6.ldc2Long hx hown (mvT hZ (own_w hw 28 rfl)) (g := (mkF m 34 #[.val (.long vz2), .second] [(.long vz2)])) rfl (Jvm.hb hby d4_34) _ k) ?_
  obtain ⟨_, _, ⟨T7, La7, ka7, na7⟩, -, X7, ⟨Lc7, hQ7, l7, y7, z7⟩, st7⟩ := Jvm.LawKit.callS X6 hx (y := (⟨"com/example/netloom/netloom/embed/DrawsNextPinLaw", "inv", "(J)J"⟩ : MethodName)) hown (mvT hZ (own_w hw 24 rfl)) (mvT hZ (own_w hw 25 rfl)) (mvT hZ (own_w hw 21 rfl)) (mvT hZ (own_w hw 26 rfl)) (by decide) (backOf (W := 2) (rm5 l Z a0 hw [] (-4658895280553007687 : Int64) h0 n0 Zs) hZ (own_w hw 26 rfl) (own_w hw 21 rfl) (by decide) (by decide)) (g := (mkF m 37 #[.val (.long vz2), .second] [(.long (-4658895280553007687 : Int64)), (.long vz2)])) rfl (by rw [hml]; rfl) (argsL := [(.long (-4658895280553007687 : Int64))]) (rest := [(.long vz2)]) (lenOf pd_0 rfl) rfl (by show 2 * 0 + _ ≤ _; exact Nat.le_of_eq rfl) (Jvm.hb hby d4_37) (fun _ _ => ⟨rfl, e6, (by decide : 0 + 0 ≤ _), (by decide : 0 + 0 ≤ _)⟩)
  dsimp only [Pt.U, Pt.locs, Pt.cells, Pt.slots] at X7 l7 y7 z7 st7 hQ7
  subst l7 y7 z7
  obtain ⟨rfl, N7q, e7⟩ := hQ7
  have N7 := Fr.app N6 N7q
  refine own_go (B := T7.setTop (mkF m 40 #[.val (.long vz2), .second] [(.long (own_inv (-4658895280553007687 : Int64))), (.long vz2)])) (fun t k => st7 _ k) ?_
  refine own_go (B := T7.setTop (mkF m 41 #[.val (.long vz2), .second] [(.long (vz2 * (own_inv (-4658895280553007687 : Int64))))])) (fun t k => XS.lmul X7.here hx rfl (Jvm.hb hby d4_40) rfl k) ?_
  obtain ⟨vz3, hvz3⟩ : ∃ z : Int64, z = (vz2 * (own_inv (-4658895280553007687 : Int64))) := ⟨_, rfl⟩
  rw [← hvz3]
  refine own_go (B := T7.setTop (mkF m 42 #[.val (.long vz3), .second] [])) (fun t k => XS.lstoreN X7.here hx rfl (Jvm.hb hby d4_41) rfl (l' := #[.val (.long vz3), .second]) rfl k) ?_
  refine own_go (B := T7.setTop (mkF m 43 #[.val (.long vz3), .second] [(.long vz3)])) (fun t k => XS.lloadN X7.here hx rfl (Jvm.hb hby d4_42) rfl k) ?_
  refine own_go (B := T7.setTop (mkF m 44 #[.val (.long vz3), .second] [(.long vz3), (.long vz3)])) (fun t k => XS.lloadN X7.here hx rfl (Jvm.hb hby d4_43) rfl k) ?_
  refine own_go (B := T7.setTop (mkF m 46 #[.val (.long vz3), .second] [(.int (30 : Int32)), (.long vz3), (.long vz3)])) (fun t k => XS.bipush X7.here hx rfl (Jvm.hb hby d4_44) k) ?_
  refine own_go (B := T7.setTop (mkF m 47 #[.val (.long vz3), .second] [(.long ((vz3.toUInt64 >>> ((30 : Int32) &&& 0x3f).toInt64.toUInt64).toInt64)), (.long vz3)])) (fun t k => XS.lushr X7.here hx rfl (Jvm.hb hby d4_46) rfl k) ?_
  refine own_go (B := T7.setTop (mkF m 48 #[.val (.long vz3), .second] [(.long (vz3 ^^^ ((vz3.toUInt64 >>> ((30 : Int32) &&& 0x3f).toInt64.toUInt64).toInt64)))])) (fun t k => XS.lxor X7.here hx rfl (Jvm.hb hby d4_47) rfl k) ?_
  refine own_go (B := T7.setTop (mkF m 49 #[.val (.long vz3), .second] [(.long vz3), (.long (vz3 ^^^ ((vz3.toUInt64 >>> ((30 : Int32) &&& 0x3f).toInt64.toUInt64).toInt64)))])) (fun t k => XS.lloadN X7.here hx rfl (Jvm.hb hby d4_48) rfl k) ?_
  refine own_go (B := T7.setTop (mkF m 51 #[.val (.long vz3), .second] [(.int (60 : Int32)), (.long vz3), (.long (vz3 ^^^ ((vz3.toUInt64 >>> ((30 : Int32) &&& 0x3f).toInt64.toUInt64).toInt64)))])) (fun t k => XS.bipush X7.here hx rfl (Jvm.hb hby d4_49) k) ?_
  refine own_go (B := T7.setTop (mkF m 52 #[.val (.long vz3), .second] [(.long ((vz3.toUInt64 >>> ((60 : Int32) &&& 0x3f).toInt64.toUInt64).toInt64)), (.long (vz3 ^^^ ((vz3.toUInt64 >>> ((30 : Int32) &&& 0x3f).toInt64.toUInt64).toInt64)))])) (fun t k => XS.lushr X7.here hx rfl (Jvm.hb hby d4_51) rfl k) ?_
  refine own_go (B := T7.setTop (mkF m 53 #[.val (.long vz3), .second] [(.long ((vz3 ^^^ ((vz3.toUInt64 >>> ((30 : Int32) &&& 0x3f).toInt64.toUInt64).toInt64)) ^^^ ((vz3.toUInt64 >>> ((60 : Int32) &&& 0x3f).toInt64.toUInt64).toInt64)))])) (fun t k => XS.lxor X7.here hx rfl (Jvm.hb hby d4_52) rfl k) ?_
  obtain ⟨vz4, hvz4⟩ : ∃ z : Int64, z = ((vz3 ^^^ ((vz3.toUInt64 >>> ((30 : Int32) &&& 0x3f).toInt64.toUInt64).toInt64)) ^^^ ((vz3.toUInt64 >>> ((60 : Int32) &&& 0x3f).toInt64.toUInt64).toInt64)) := ⟨_, rfl⟩
  rw [← hvz4]
  refine own_go (B := T7.setTop (mkF m 54 #[.val (.long vz4), .second] [])) (fun t k => XS.lstoreN X7.here hx rfl (Jvm.hb hby d4_53) rfl (l' := #[.val (.long vz4), .second]) rfl k) ?_
  refine own_go (B := T7.setTop (mkF m 55 #[.val (.long vz4), .second] [(.long vz4)])) (fun t k => XS.lloadN X7.here hx rfl (Jvm.hb hby d4_54) rfl k) ?_
  refine own_out X7 (v := (some (.long vz4))) (fun h => by rw [Bd.returns] at h; cases h) Bd.notSynchronized (fun fs hr => retOut X7 hx (t := .long) Bd.returns rfl (Or.inr (Or.inl ⟨rfl, rfl, _, rfl⟩)) (Jvm.hb hby d4_55) hr) ?_ (by decide) (by decide)
  show own_Q4 Z q h0 n0 (some (.long vz4)) T7.heap _
  rw [e7]
  exact ⟨congrArg (fun z => some (Value.long z)) (by subst hvz0; subst hvz1; subst hvz2; subst hvz3; subst hvz4; rfl), N7, rfl⟩
theorem own_c2 (q : Int64) : own_unmix (own_mix ((q + (-7046029254386353131 : Int64)) + (-7046029254386353131 : Int64))) = q + (4354685564936845354 : Int64) := by
  rw [own_plain, Int64.add_assoc]; rfl
theorem own_c3 (q : Int64) : own_unmix (own_mix (((q + (-7046029254386353131 : Int64)) + (-7046029254386353131 : Int64)) + (-7046029254386353131 : Int64))) = q + (-2691343689449507777 : Int64) := by
  rw [own_plain, Int64.add_assoc, Int64.add_assoc]; rfl
theorem pd_1 : parseMethodDescriptor "(J)V" = some ⟨[.long], none⟩ := by decide +kernel
theorem pd_2 : parseMethodDescriptor "()J" = some ⟨[], some .long⟩ := by decide +kernel
theorem ef_0 (m : MethodId) (x0 : Int64) : entryFrame m #[(.long x0)] maxLocals = mkF m 0 #[.val (.long x0), .second, .unset, .unset, .unset, .unset, .unset, .unset, .unset] [] := by first | (simp [entryFrame, mkF, argsToLocals, Value.category, maxLocals]; done) | rfl
def own_Q0 (Z : State) (q1 : Int64) (h0 : Heap) (n0 : Nat) (v : Option Value) (h : Heap) (L : List Loc) : Prop := v = some (.int 1) ∧ Fr n0 L
set_option maxRecDepth 65536 in
set_option maxHeartbeats 40000000 in
theorem rm0 (l : Launch) (Z : State) (a0 : Array Value) (hw : ∀ d ∈ tables_1, d.before a0 Z = true) (ws : List Jvm.Cond) (q1 : Int64) (h0 : Heap) (n0 : Nat) (Z0 : n0 ≤ h0.size)  :
    MetFree l x (head1 (Jvm.Cond.code x code maxLocals ret :: ws) room_1) (fun a U => a = #[(.long q1)] ∧ Z.Warmed39 U.vm ∧ U.heap = h0) (fun _ _ _ _ _ => True) (fun _ U o U' => ∃ v L, o = .returned v ∧ own_Q0 Z q1 h0 n0 v U'.heap L ∧ FrameEnd U o U' L room_1.cells room_1.slots) := by
  refine MetFree.of_bodySF (plainFor_of_name pn_com_example_netloom_netloom_embed_DrawsNextPinLaw) hisR ?_
  intro p e s m args below meth c s₁ Bd hml0 hP hK
  obtain ⟨rfl, hZ, hh⟩ := hP
  have hx := Bd.exec
  have hby := Bd.bytes
  have hml : c.maxLocals = 9 := hml0
  have hown : s.vm.findClass "com/example/netloom/netloom/embed/DrawsNextPinLaw" = some m.cls := findClass_of_methodNamed Bd.named
  have hnm := (name_of_methodNamed Bd.named Bd.method).1
  have X0 : Stand p l e room_1 s m #[(.long q1)] below meth c s₁ [] 0 0 := Stand.of_body Bd
  have e0 : s₁.heap = h0 := by rw [← hh, Bd.state]; rfl
  have N0 := Fr.nil n0
  have Zs := Z0
  show own_Goes p e below s (own_Q0 Z q1 h0 n0) room_1.cells room_1.slots _
  refine own_go (B := s₁.setTop (mkF m 0 #[.val (.long q1), .second, .unset, .unset, .unset, .unset, .unset, .unset, .unset] [])) (fun t k => castTop (ef_0 m q1) k) ?_
  obtain ⟨T8, h8, X8, e8, E8, A8, D8, -, st8⟩ := newO X0 hx hZ hown (own_w hw 0 rfl) (own_w hw 1 rfl) (own_w hw 2 rfl) e0 (g := (mkF m 0 #[.val (.long q1), .second, .unset, .unset, .unset, .unset, .unset, .unset, .unset] [])) rfl (Jvm.hb hby at_0) (by decide) (by decide)
  obtain ⟨b8, g8⟩ : ∃ z, z = h0.size := ⟨_, rfl⟩
  rw [← g8] at A8 D8 st8
  have g_b8 : n0 ≤ b8 := Nat.le_trans Zs (Nat.le_of_eq g8.symm)
  have Zs := Nat.le_trans Zs E8.1
  have E_b8 := A8
  have F_b8_state : Fld Z h8 b8 "com/example/netloom/netloom/embed/Draws" "state" "J" (.long (0 : Int64)) := D8 (Or.inl (own_w hw 10 rfl)) (ty := .long) (by decide)
  refine own_go (B := T8.setTop (mkF m 3 #[.val (.long q1), .second, .unset, .unset, .unset, .unset, .unset, .unset, .unset] [(.ref b8)])) (fun t k => st8 _ k) ?_
  refine own_go (B := T8.setTop (mkF m 4 #[.val (.long q1), .second, .unset, .unset, .unset, .unset, .unset, .unset, .unset] [(.ref b8), (.ref b8)])) (fun t k => XS.dup X8.here hx rfl (Jvm.hb hby at_3) rfl rfl k) ?_
  refine own_go (B := T8.setTop (mkF m 5 #[.val (.long q1), .second, .unset, .unset, .unset, .unset, .unset, .unset, .unset] [(.long q1), (.ref b8), (.ref b8)])) (fun t k => XS.lloadN X8.here hx rfl (Jvm.hb hby at_4) rfl k) ?_
  obtain ⟨_, _, ⟨T9, La9, ka9, na9⟩, -, X9, ⟨Lc9, hQ9, l9, y9, z9⟩, st9⟩ := X8.specialBack hx (y := (⟨"com/example/netloom/netloom/embed/Draws", "<init>", "(J)V"⟩ : MethodName)) rfl hown (mvT hZ (own_w hw 3 rfl)) (mvT hZ (own_w hw 4 rfl)) (mvT hZ (own_w hw 5 rfl)) (by decide) (backOf (W := 1) (rm1 l Z a0 hw [] b8 q1 h8 n0 Zs E_b8 F_b8_state g_b8) hZ (own_w hw 5 rfl) (own_w hw 2 rfl) (by decide) (by decide)) (g := (mkF m 5 #[.val (.long q1), .second, .unset, .unset, .unset, .unset, .unset, .unset, .unset] [(.long q1), (.ref b8), (.ref b8)])) rfl (by rw [hml]; rfl) (Steps.refl _) (a := b8) (argsL := [(.long q1)]) (rest := [(.ref b8)]) (lenOf pd_1 rfl) rfl (by show 2 * 0 + _ ≤ _; exact Nat.le_of_eq rfl) (Jvm.hb hby at_5) (fun _ _ => ⟨rfl, e8, (by decide : 1 + 0 ≤ _), (by decide : 1 + 0 ≤ _)⟩)
  dsimp only [Pt.U, Pt.locs, Pt.cells, Pt.slots] at X9 l9 y9 z9 st9 hQ9
  subst l9 y9 z9
  obtain ⟨rfl, N9q, Kc9, E_b8_q, F_b8_state_q⟩ := hQ9
  have N9 := Fr.app N0 N9q
  have Zs := Nat.le_trans Zs Kc9.1
  have E_b8 := E_b8_q
  have F_b8_state := F_b8_state_q
  refine own_go (B := T9.setTop (mkF m 8 #[.val (.long q1), .second, .unset, .unset, .unset, .unset, .unset, .unset, .unset] [(.ref b8)])) (fun t k => own_st st9 k) ?_
  refine own_go (B := T9.setTop (mkF m 9 #[.val (.long q1), .second, .val (.ref b8), .unset, .unset, .unset, .unset, .unset, .unset] [])) (fun t k => XS.astoreN X9.here hx rfl (Jvm.hb hby at_8) rfl rfl (l' := #[.val (.long q1), .second, .val (.ref b8), .unset, .unset, .unset, .unset, .unset, .unset]) rfl k) ?_
  refine own_go (B := T9.setTop (mkF m 10 #[.val (.long q1), .second, .val (.ref b8), .unset, .unset, .unset, .unset, .unset, .unset] [(.ref b8)])) (fun t k => XS.aloadN X9.here hx rfl (Jvm.hb hby at_9) rfl rfl k) ?_
  obtain ⟨cq10, kq10, q10a, q10b, q10c⟩ := isOf hZ rfl E_b8
  obtain ⟨_, _, ⟨T10, La10, ka10, na10⟩, -, X10, ⟨Lc10, hQ10, l10, y10, z10⟩, st10⟩ := X9.virtualBack hx (y := (⟨"com/example/netloom/netloom/embed/Draws", "next", "()J"⟩ : MethodName)) (z := (⟨"com/example/netloom/netloom/embed/Draws", "next", "()J"⟩ : MethodName)) hown (mvT hZ (own_w hw 11 rfl)) (mvT hZ (own_w hw 12 rfl)) (notFace_of_selects (args := #[]) (mvT hZ (own_w hw 14 rfl))) (mvT hZ (own_w hw 14 rfl)) (mvT hZ (own_w hw 13 rfl)) (by decide) (backOf (W := 0) (rm3 l Z a0 hw [] b8 q1 T9.heap n0 Zs E_b8 F_b8_state g_b8) hZ (own_w hw 15 rfl) (own_w hw 2 rfl) (by decide) (by decide)) q10a q10c (g := (mkF m 10 #[.val (.long q1), .second, .val (.ref b8), .unset, .unset, .unset, .unset, .unset, .unset] [(.ref b8)])) rfl (by rw [hml]; rfl) (Steps.refl _) (argsL := []) (rest := []) (lenOf pd_2 rfl) rfl (by show 2 * 0 + _ ≤ _; exact Nat.le_of_eq rfl) (Jvm.hb hby at_10) (fun _ _ => ⟨rfl, rfl, (by decide : 1 + 0 ≤ _), (by decide : 1 + 0 ≤ _)⟩)
  dsimp only [Pt.U, Pt.locs, Pt.cells, Pt.slots] at X10 l10 y10 z10 st10 hQ10
  subst l10 y10 z10
  obtain ⟨rfl, N10q, Kc10, E_b8_q, F_b8_state_q⟩ := hQ10
  have N10 := Fr.app N9 N10q
  have Zs := Nat.le_trans Zs Kc10.1
  have E_b8 := E_b8_q
  have F_b8_state := F_b8_state_q
  refine own_go (B := T10.setTop (mkF m 13 #[.val (.long q1), .second, .val (.ref b8), .unset, .unset, .unset, .unset, .unset, .unset] [(.long (own_mix (q1 + (-7046029254386353131 : Int64))))])) (fun t k => own_st st10 k) ?_
  refine own_go (B := T10.setTop (mkF m 14 #[.val (.long q1), .second, .val (.ref b8), .val (.long (own_mix (q1 + (-7046029254386353131 : Int64)))), .second, .unset, .unset, .unset, .unset] [])) (fun t k => XS.lstoreN X10.here hx rfl (Jvm.hb hby at_13) rfl (l' := #[.val (.long q1), .second, .val (.ref b8), .val (.long (own_mix (q1 + (-7046029254386353131 : Int64)))), .second, .unset, .unset, .unset, .unset]) rfl k) ?_
  refine own_go (B := T10.setTop (mkF m 15 #[.val (.long q1), .second, .val (.ref b8), .val (.long (own_mix (q1 + (-7046029254386353131 : Int64)))), .second, .unset, .unset, .unset, .unset] [(.ref b8)])) (fun t k => XS.aloadN X10.here hx rfl (Jvm.hb hby at_14) rfl rfl k) ?_
  obtain ⟨cq11, kq11, q11a, q11b, q11c⟩ := isOf hZ rfl E_b8
  obtain ⟨_, _, ⟨T11, La11, ka11, na11⟩, -, X11, ⟨Lc11, hQ11, l11, y11, z11⟩, st11⟩ := X10.virtualBack hx (y := (⟨"com/example/netloom/netloom/embed/Draws", "next", "()J"⟩ : MethodName)) (z := (⟨"com/example/netloom/netloom/embed/Draws", "next", "()J"⟩ : MethodName)) hown (mvT hZ (own_w hw 11 rfl)) (mvT hZ (own_w hw 12 rfl)) (notFace_of_selects (args := #[]) (mvT hZ (own_w hw 14 rfl))) (mvT hZ (own_w hw 14 rfl)) (mvT hZ (own_w hw 13 rfl)) (by decide) (backOf (W := 0) (rm3 l Z a0 hw [] b8 (q1 + (-7046029254386353131 : Int64)) T10.heap n0 Zs E_b8 F_b8_state g_b8) hZ (own_w hw 15 rfl) (own_w hw 2 rfl) (by decide) (by decide)) q11a q11c (g := (mkF m 15 #[.val (.long q1), .second, .val (.ref b8), .val (.long (own_mix (q1 + (-7046029254386353131 : Int64)))), .second, .unset, .unset, .unset, .unset] [(.ref b8)])) rfl (by rw [hml]; rfl) (Steps.refl _) (argsL := []) (rest := []) (lenOf pd_2 rfl) rfl (by show 2 * 0 + _ ≤ _; exact Nat.le_of_eq rfl) (Jvm.hb hby at_15) (fun _ _ => ⟨rfl, rfl, (by decide : 1 + 0 ≤ _), (by decide : 1 + 0 ≤ _)⟩)
  dsimp only [Pt.U, Pt.locs, Pt.cells, Pt.slots] at X11 l11 y11 z11 st11 hQ11
  subst l11 y11 z11
  obtain ⟨rfl, N11q, Kc11, E_b8_q, F_b8_state_q⟩ := hQ11
  have N11 := Fr.app N10 N11q
  have Zs := Nat.le_trans Zs Kc11.1
  have E_b8 := E_b8_q
  have F_b8_state := F_b8_state_q
  refine own_go (B := T11.setTop (mkF m 18 #[.val (.long q1), .second, .val (.ref b8), .val (.long (own_mix (q1 + (-7046029254386353131 : Int64)))), .second, .unset, .unset, .unset, .unset] [(.long (own_mix ((q1 + (-7046029254386353131 : Int64)) + (-7046029254386353131 : Int64))))])) (fun t k => own_st st11 k) ?_
  refine own_go (B := T11.setTop (mkF m 20 #[.val (.long q1), .second, .val (.ref b8), .val (.long (own_mix (q1 + (-7046029254386353131 : Int64)))), .second, .val (.long (own_mix ((q1 + (-7046029254386353131 : Int64)) + (-7046029254386353131 : Int64)))), .second, .unset, .unset] [])) (fun t k => XS.lstore X11.here hx rfl (Jvm.hb hby at_18) rfl (l' := #[.val (.long q1), .second, .val (.ref b8), .val (.long (own_mix (q1 + (-7046029254386353131 : Int64)))), .second, .val (.long (own_mix ((q1 + (-7046029254386353131 : Int64)) + (-7046029254386353131 : Int64)))), .second, .unset, .unset]) rfl k) ?_
  refine own_go (B := T11.setTop (mkF m 21 #[.val (.long q1), .second, .val (.ref b8), .val (.long (own_mix (q1 + (-7046029254386353131 : Int64)))), .second, .val (.long (own_mix ((q1 + (-7046029254386353131 : Int64)) + (-7046029254386353131 : Int64)))), .second, .unset, .unset] [(.ref b8)])) (fun t k => XS.aloadN X11.here hx rfl (Jvm.hb hby at_20) rfl rfl k) ?_
  obtain ⟨cq12, kq12, q12a, q12b, q12c⟩ := isOf hZ rfl E_b8
  obtain ⟨_, _, ⟨T12, La12, ka12, na12⟩, -, X12, ⟨Lc12, hQ12, l12, y12, z12⟩, st12⟩ := X11.virtualBack hx (y := (⟨"com/example/netloom/netloom/embed/Draws", "next", "()J"⟩ : MethodName)) (z := (⟨"com/example/netloom/netloom/embed/Draws", "next", "()J"⟩ : MethodName)) hown (mvT hZ (own_w hw 11 rfl)) (mvT hZ (own_w hw 12 rfl)) (notFace_of_selects (args := #[]) (mvT hZ (own_w hw 14 rfl))) (mvT hZ (own_w hw 14 rfl)) (mvT hZ (own_w hw 13 rfl)) (by decide) (backOf (W := 0) (rm3 l Z a0 hw [] b8 ((q1 + (-7046029254386353131 : Int64)) + (-7046029254386353131 : Int64)) T11.heap n0 Zs E_b8 F_b8_state g_b8) hZ (own_w hw 15 rfl) (own_w hw 2 rfl) (by decide) (by decide)) q12a q12c (g := (mkF m 21 #[.val (.long q1), .second, .val (.ref b8), .val (.long (own_mix (q1 + (-7046029254386353131 : Int64)))), .second, .val (.long (own_mix ((q1 + (-7046029254386353131 : Int64)) + (-7046029254386353131 : Int64)))), .second, .unset, .unset] [(.ref b8)])) rfl (by rw [hml]; rfl) (Steps.refl _) (argsL := []) (rest := []) (lenOf pd_2 rfl) rfl (by show 2 * 0 + _ ≤ _; exact Nat.le_of_eq rfl) (Jvm.hb hby at_21) (fun _ _ => ⟨rfl, rfl, (by decide : 1 + 0 ≤ _), (by decide : 1 + 0 ≤ _)⟩)
  dsimp only [Pt.U, Pt.locs, Pt.cells, Pt.slots] at X12 l12 y12 z12 st12 hQ12
  subst l12 y12 z12
  obtain ⟨rfl, N12q, Kc12, E_b8_q, F_b8_state_q⟩ := hQ12
  have N12 := Fr.app N11 N12q
  have Zs := Nat.le_trans Zs Kc12.1
  have E_b8 := E_b8_q
  have F_b8_state := F_b8_state_q
  refine own_go (B := T12.setTop (mkF m 24 #[.val (.long q1), .second, .val (.ref b8), .val (.long (own_mix (q1 + (-7046029254386353131 : Int64)))), .second, .val (.long (own_mix ((q1 + (-7046029254386353131 : Int64)) + (-7046029254386353131 : Int64)))), .second, .unset, .unset] [(.long (own_mix (((q1 + (-7046029254386353131 : Int64)) + (-7046029254386353131 : Int64)) + (-7046029254386353131 : Int64))))])) (fun t k => own_st st12 k) ?_
  refine own_go (B := T12.setTop (mkF m 26 #[.val (.long q1), .second, .val (.ref b8), .val (.long (own_mix (q1 + (-7046029254386353131 : Int64)))), .second, .val (.long (own_mix ((q1 + (-7046029254386353131 : Int64)) + (-7046029254386353131 : Int64)))), .second, .val (.long (own_mix (((q1 + (-7046029254386353131 : Int64)) + (-7046029254386353131 : Int64)) + (-7046029254386353131 : Int64)))), .second] [])) (fun t k => XS.lstore X12.here hx rfl (Jvm.hb hby at_24) rfl (l' := #[.val (.long q1), .second, .val (.ref b8), .val (.long (own_mix (q1 + (-7046029254386353131 : Int64)))), .second, .val (.long (own_mix ((q1 + (-7046029254386353131 : Int64)) + (-7046029254386353131 : Int64)))), .second, .val (.long (own_mix (((q1 + (-7046029254386353131 : Int64)) + (-7046029254386353131 : Int64)) + (-7046029254386353131 : Int64)))), .second]) rfl k) ?_
  refine own_go (B := T12.setTop (mkF m 27 #[.val (.long q1), .second, .val (.ref b8), .val (.long (own_mix (q1 + (-7046029254386353131 : Int64)))), .second, .val (.long (own_mix ((q1 + (-7046029254386353131 : Int64)) + (-7046029254386353131 : Int64)))), .second, .val (.long (own_mix (((q1 + (-7046029254386353131 : Int64)) + (-7046029254386353131 : Int64)) + (-7046029254386353131 : Int64)))), .second] [(.long (own_mix (q1 + (-7046029254386353131 : Int64))))])) (fun t k => XS.lloadN X12.here hx rfl (Jvm.hb hby at_26) rfl k) ?_
  obtain ⟨_, _, ⟨T13, La13, ka13, na13⟩, -, X13, ⟨Lc13, hQ13, l13, y13, z13⟩, st13⟩ := Jvm.LawKit.callS X12 hx (y := (⟨"com/example/netloom/netloom/embed/DrawsNextPinLaw", "unmix", "(J)J"⟩ : MethodName)) hown (mvT hZ (own_w hw 19 rfl)) (mvT hZ (own_w hw 20 rfl)) (mvT hZ (own_w hw 21 rfl)) (mvT hZ (own_w hw 22 rfl)) (by decide) (backOf (W := 0) (rm4 l Z a0 hw [] (own_mix (q1 + (-7046029254386353131 : Int64))) T12.heap n0 Zs) hZ (own_w hw 22 rfl) (own_w hw 21 rfl) (by decide) (by decide)) (g := (mkF m 27 #[.val (.long q1), .second, .val (.ref b8), .val (.long (own_mix (q1 + (-7046029254386353131 : Int64)))), .second, .val (.long (own_mix ((q1 + (-7046029254386353131 : Int64)) + (-7046029254386353131 : Int64)))), .second, .val (.long (own_mix (((q1 + (-7046029254386353131 : Int64)) + (-7046029254386353131 : Int64)) + (-7046029254386353131 : Int64)))), .second] [(.long (own_mix (q1 + (-7046029254386353131 : Int64))))])) rfl (by rw [hml]; rfl) (argsL := [(.long (own_mix (q1 + (-7046029254386353131 : Int64))))]) (rest := []) (lenOf pd_0 rfl) rfl (by show 2 * 0 + _ ≤ _; exact Nat.le_of_eq rfl) (Jvm.hb hby at_27) (fun _ _ => ⟨rfl, rfl, (by decide : 1 + 0 ≤ _), (by decide : 1 + 0 ≤ _)⟩)
  dsimp only [Pt.U, Pt.locs, Pt.cells, Pt.slots] at X13 l13 y13 z13 st13 hQ13
  subst l13 y13 z13
  obtain ⟨rfl, N13q, e13⟩ := hQ13
  have N13 := Fr.app N12 N13q
  refine own_go (B := T13.setTop (mkF m 30 #[.val (.long q1), .second, .val (.ref b8), .val (.long (own_mix (q1 + (-7046029254386353131 : Int64)))), .second, .val (.long (own_mix ((q1 + (-7046029254386353131 : Int64)) + (-7046029254386353131 : Int64)))), .second, .val (.long (own_mix (((q1 + (-7046029254386353131 : Int64)) + (-7046029254386353131 : Int64)) + (-7046029254386353131 : Int64)))), .second] [(.long (own_unmix (own_mix (q1 + (-7046029254386353131 : Int64)))))])) (fun t k => st13 _ k) ?_
  refine own_go (B := T13.setTop (mkF m 31 #[.val (.long q1), .second, .val (.ref b8), .val (.long (own_mix (q1 + (-7046029254386353131 : Int64)))), .second, .val (.long (own_mix ((q1 + (-7046029254386353131 : Int64)) + (-7046029254386353131 : Int64)))), .second, .val (.long (own_mix (((q1 + (-7046029254386353131 : Int64)) + (-7046029254386353131 : Int64)) + (-7046029254386353131 : Int64)))), .second] [(.long q1), (.long (own_unmix (own_mix (q1 + (-7046029254386353131 : Int64)))))])) (fun t k => XS.lloadN X13.here hx rfl (Jvm.hb hby at_30) rfl k) ?_
  refine own_go (B := T13.setTop (mkF m 34 #[.val (.long q1), .second, .val (.ref b8), .val (.long (own_mix (q1 + (-7046029254386353131 : Int64)))), .second, .val (.long (own_mix ((q1 + (-7046029254386353131 : Int64)) + (-7046029254386353131 : Int64)))), .second, .val (.long (own_mix (((q1 + (-7046029254386353131 : Int64)) + (-7046029254386353131 : Int64)) + (-7046029254386353131 : Int64)))), .second] [(.long (-7046029254386353131 : Int64)), (.long q1), (.long (own_unmix (own_mix (q1 + (-7046029254386353131 : Int64)))))])) (fun t k => X13.ldc2Long hx hown (mvT hZ (own_w hw 29 rfl)) (g := (mkF m 31 #[.val (.long q1), .second, .val (.ref b8), .val (.long (own_mix (q1 + (-7046029254386353131 : Int64)))), .second, .val (.long (own_mix ((q1 + (-7046029254386353131 : Int64)) + (-7046029254386353131 : Int64)))), .second, .val (.long (own_mix (((q1 + (-7046029254386353131 : Int64)) + (-7046029254386353131 : Int64)) + (-7046029254386353131 : Int64)))), .second] [(.long q1), (.long (own_unmix (own_mix (q1 + (-7046029254386353131 : Int64)))))])) rfl (Jvm.hb hby at_31) _ k) ?_
  refine own_go (B := T13.setTop (mkF m 35 #[.val (.long q1), .second, .val (.ref b8), .val (.long (own_mix (q1 + (-7046029254386353131 : Int64)))), .second, .val (.long (own_mix ((q1 + (-7046029254386353131 : Int64)) + (-7046029254386353131 : Int64)))), .second, .val (.long (own_mix (((q1 + (-7046029254386353131 : Int64)) + (-7046029254386353131 : Int64)) + (-7046029254386353131 : Int64)))), .second] [(.long (q1 + (-7046029254386353131 : Int64))), (.long (own_unmix (own_mix (q1 + (-7046029254386353131 : Int64)))))])) (fun t k => XS.ladd X13.here hx rfl (Jvm.hb hby at_34) rfl k) ?_
  refine own_go (B := T13.setTop (mkF m 36 #[.val (.long q1), .second, .val (.ref b8), .val (.long (own_mix (q1 + (-7046029254386353131 : Int64)))), .second, .val (.long (own_mix ((q1 + (-7046029254386353131 : Int64)) + (-7046029254386353131 : Int64)))), .second, .val (.long (own_mix (((q1 + (-7046029254386353131 : Int64)) + (-7046029254386353131 : Int64)) + (-7046029254386353131 : Int64)))), .second] [(.int (lcmpW (own_unmix (own_mix (q1 + (-7046029254386353131 : Int64)))) (q1 + (-7046029254386353131 : Int64))))])) (fun t k => XS.lcmp X13.here hx rfl (Jvm.hb hby at_35) rfl k) ?_
  refine own_go (B := T13.setTop (mkF m 39 #[.val (.long q1), .second, .val (.ref b8), .val (.long (own_mix (q1 + (-7046029254386353131 : Int64)))), .second, .val (.long (own_mix ((q1 + (-7046029254386353131 : Int64)) + (-7046029254386353131 : Int64)))), .second, .val (.long (own_mix (((q1 + (-7046029254386353131 : Int64)) + (-7046029254386353131 : Int64)) + (-7046029254386353131 : Int64)))), .second] [])) (fun t k => XS.ifNo X13.here hx rfl (Jvm.hb hby at_36) rfl ((if0 _ _).trans (teq ((lw_eq (own_unmix (own_mix (q1 + (-7046029254386353131 : Int64)))) (q1 + (-7046029254386353131 : Int64))).mpr (own_plain _))).2) k) ?_
  refine own_go (B := T13.setTop (mkF m 41 #[.val (.long q1), .second, .val (.ref b8), .val (.long (own_mix (q1 + (-7046029254386353131 : Int64)))), .second, .val (.long (own_mix ((q1 + (-7046029254386353131 : Int64)) + (-7046029254386353131 : Int64)))), .second, .val (.long (own_mix (((q1 + (-7046029254386353131 : Int64)) + (-7046029254386353131 : Int64)) + (-7046029254386353131 : Int64)))), .second] [(.long (own_mix ((q1 + (-7046029254386353131 : Int64)) + (-7046029254386353131 : Int64))))])) (fun t k => XS.lload X13.here hx rfl (Jvm.hb hby at_39) rfl k) ?_
  obtain ⟨_, _, ⟨T14, La14, ka14, na14⟩, -, X14, ⟨Lc14, hQ14, l14, y14, z14⟩, st14⟩ := Jvm.LawKit.callS X13 hx (y := (⟨"com/example/netloom/netloom/embed/DrawsNextPinLaw", "unmix", "(J)J"⟩ : MethodName)) hown (mvT hZ (own_w hw 19 rfl)) (mvT hZ (own_w hw 20 rfl)) (mvT hZ (own_w hw 21 rfl)) (mvT hZ (own_w hw 22 rfl)) (by decide) (backOf (W := 0) (rm4 l Z a0 hw [] (own_mix ((q1 + (-7046029254386353131 : Int64)) + (-7046029254386353131 : Int64))) T12.heap n0 Zs) hZ (own_w hw 22 rfl) (own_w hw 21 rfl) (by decide) (by decide)) (g := (mkF m 41 #[.val (.long q1), .second, .val (.ref b8), .val (.long (own_mix (q1 + (-7046029254386353131 : Int64)))), .second, .val (.long (own_mix ((q1 + (-7046029254386353131 : Int64)) + (-7046029254386353131 : Int64)))), .second, .val (.long (own_mix (((q1 + (-7046029254386353131 : Int64)) + (-7046029254386353131 : Int64)) + (-7046029254386353131 : Int64)))), .second] [(.long (own_mix ((q1 + (-7046029254386353131 : Int64)) + (-7046029254386353131 : Int64))))])) rfl (by rw [hml]; rfl) (argsL := [(.long (own_mix ((q1 + (-7046029254386353131 : Int64)) + (-7046029254386353131 : Int64))))]) (rest := []) (lenOf pd_0 rfl) rfl (by show 2 * 0 + _ ≤ _; exact Nat.le_of_eq rfl) (Jvm.hb hby at_41) (fun _ _ => ⟨rfl, e13, (by decide : 1 + 0 ≤ _), (by decide : 1 + 0 ≤ _)⟩)
  dsimp only [Pt.U, Pt.locs, Pt.cells, Pt.slots] at X14 l14 y14 z14 st14 hQ14
  subst l14 y14 z14
  obtain ⟨rfl, N14q, e14⟩ := hQ14
  have N14 := Fr.app N13 N14q
  refine own_go (B := T14.setTop (mkF m 44 #[.val (.long q1), .second, .val (.ref b8), .val (.long (own_mix (q1 + (-7046029254386353131 : Int64)))), .second, .val (.long (own_mix ((q1 + (-7046029254386353131 : Int64)) + (-7046029254386353131 : Int64)))), .second, .val (.long (own_mix (((q1 + (-7046029254386353131 : Int64)) + (-7046029254386353131 : Int64)) + (-7046029254386353131 : Int64)))), .second] [(.long (own_unmix (own_mix ((q1 + (-7046029254386353131 : Int64)) + (-7046029254386353131 : Int64)))))])) (fun t k => st14 _ k) ?_
  refine own_go (B := T14.setTop (mkF m 45 #[.val (.long q1), .second, .val (.ref b8), .val (.long (own_mix (q1 + (-7046029254386353131 : Int64)))), .second, .val (.long (own_mix ((q1 + (-7046029254386353131 : Int64)) + (-7046029254386353131 : Int64)))), .second, .val (.long (own_mix (((q1 + (-7046029254386353131 : Int64)) + (-7046029254386353131 : Int64)) + (-7046029254386353131 : Int64)))), .second] [(.long q1), (.long (own_unmix (own_mix ((q1 + (-7046029254386353131 : Int64)) + (-7046029254386353131 : Int64)))))])) (fun t k => XS.lloadN X14.here hx rfl (Jvm.hb hby at_44) rfl k) ?_
  refine own_go (B := T14.setTop (mkF m 48 #[.val (.long q1), .second, .val (.ref b8), .val (.long (own_mix (q1 + (-7046029254386353131 : Int64)))), .second, .val (.long (own_mix ((q1 + (-7046029254386353131 : Int64)) + (-7046029254386353131 : Int64)))), .second, .val (.long (own_mix (((q1 + (-7046029254386353131 : Int64)) + (-7046029254386353131 : Int64)) + (-7046029254386353131 : Int64)))), .second] [(.long (4354685564936845354 : Int64)), (.long q1), (.long (own_unmix (own_mix ((q1 + (-7046029254386353131 : Int64)) + (-7046029254386353131 : Int64)))))])) (fun t k => X14.ldc2Long hx hown (mvT hZ (own_w hw 30 rfl)) (g := (mkF m 45 #[.val (.long q1), .second, .val (.ref b8), .val (.long (own_mix (q1 + (-7046029254386353131 : Int64)))), .second, .val (.long (own_mix ((q1 + (-7046029254386353131 : Int64)) + (-7046029254386353131 : Int64)))), .second, .val (.long (own_mix (((q1 + (-7046029254386353131 : Int64)) + (-7046029254386353131 : Int64)) + (-7046029254386353131 : Int64)))), .second] [(.long q1), (.long (own_unmix (own_mix ((q1 + (-7046029254386353131 : Int64)) + (-7046029254386353131 : Int64)))))])) rfl (Jvm.hb hby at_45) _ k) ?_
  refine own_go (B := T14.setTop (mkF m 49 #[.val (.long q1), .second, .val (.ref b8), .val (.long (own_mix (q1 + (-7046029254386353131 : Int64)))), .second, .val (.long (own_mix ((q1 + (-7046029254386353131 : Int64)) + (-7046029254386353131 : Int64)))), .second, .val (.long (own_mix (((q1 + (-7046029254386353131 : Int64)) + (-7046029254386353131 : Int64)) + (-7046029254386353131 : Int64)))), .second] [(.long (q1 + (4354685564936845354 : Int64))), (.long (own_unmix (own_mix ((q1 + (-7046029254386353131 : Int64)) + (-7046029254386353131 : Int64)))))])) (fun t k => XS.ladd X14.here hx rfl (Jvm.hb hby at_48) rfl k) ?_
  refine own_go (B := T14.setTop (mkF m 50 #[.val (.long q1), .second, .val (.ref b8), .val (.long (own_mix (q1 + (-7046029254386353131 : Int64)))), .second, .val (.long (own_mix ((q1 + (-7046029254386353131 : Int64)) + (-7046029254386353131 : Int64)))), .second, .val (.long (own_mix (((q1 + (-7046029254386353131 : Int64)) + (-7046029254386353131 : Int64)) + (-7046029254386353131 : Int64)))), .second] [(.int (lcmpW (own_unmix (own_mix ((q1 + (-7046029254386353131 : Int64)) + (-7046029254386353131 : Int64)))) (q1 + (4354685564936845354 : Int64))))])) (fun t k => XS.lcmp X14.here hx rfl (Jvm.hb hby at_49) rfl k) ?_
  refine own_go (B := T14.setTop (mkF m 53 #[.val (.long q1), .second, .val (.ref b8), .val (.long (own_mix (q1 + (-7046029254386353131 : Int64)))), .second, .val (.long (own_mix ((q1 + (-7046029254386353131 : Int64)) + (-7046029254386353131 : Int64)))), .second, .val (.long (own_mix (((q1 + (-7046029254386353131 : Int64)) + (-7046029254386353131 : Int64)) + (-7046029254386353131 : Int64)))), .second] [])) (fun t k => XS.ifNo X14.here hx rfl (Jvm.hb hby at_50) rfl ((if0 _ _).trans (teq ((lw_eq (own_unmix (own_mix ((q1 + (-7046029254386353131 : Int64)) + (-7046029254386353131 : Int64)))) (q1 + (4354685564936845354 : Int64))).mpr (own_c2 q1))).2) k) ?_
  refine own_go (B := T14.setTop (mkF m 55 #[.val (.long q1), .second, .val (.ref b8), .val (.long (own_mix (q1 + (-7046029254386353131 : Int64)))), .second, .val (.long (own_mix ((q1 + (-7046029254386353131 : Int64)) + (-7046029254386353131 : Int64)))), .second, .val (.long (own_mix (((q1 + (-7046029254386353131 : Int64)) + (-7046029254386353131 : Int64)) + (-7046029254386353131 : Int64)))), .second] [(.long (own_mix (((q1 + (-7046029254386353131 : Int64)) + (-7046029254386353131 : Int64)) + (-7046029254386353131 : Int64))))])) (fun t k => XS.lload X14.here hx rfl (Jvm.hb hby at_53) rfl k) ?_
  obtain ⟨_, _, ⟨T15, La15, ka15, na15⟩, -, X15, ⟨Lc15, hQ15, l15, y15, z15⟩, st15⟩ := Jvm.LawKit.callS X14 hx (y := (⟨"com/example/netloom/netloom/embed/DrawsNextPinLaw", "unmix", "(J)J"⟩ : MethodName)) hown (mvT hZ (own_w hw 19 rfl)) (mvT hZ (own_w hw 20 rfl)) (mvT hZ (own_w hw 21 rfl)) (mvT hZ (own_w hw 22 rfl)) (by decide) (backOf (W := 0) (rm4 l Z a0 hw [] (own_mix (((q1 + (-7046029254386353131 : Int64)) + (-7046029254386353131 : Int64)) + (-7046029254386353131 : Int64))) T12.heap n0 Zs) hZ (own_w hw 22 rfl) (own_w hw 21 rfl) (by decide) (by decide)) (g := (mkF m 55 #[.val (.long q1), .second, .val (.ref b8), .val (.long (own_mix (q1 + (-7046029254386353131 : Int64)))), .second, .val (.long (own_mix ((q1 + (-7046029254386353131 : Int64)) + (-7046029254386353131 : Int64)))), .second, .val (.long (own_mix (((q1 + (-7046029254386353131 : Int64)) + (-7046029254386353131 : Int64)) + (-7046029254386353131 : Int64)))), .second] [(.long (own_mix (((q1 + (-7046029254386353131 : Int64)) + (-7046029254386353131 : Int64)) + (-7046029254386353131 : Int64))))])) rfl (by rw [hml]; rfl) (argsL := [(.long (own_mix (((q1 + (-7046029254386353131 : Int64)) + (-7046029254386353131 : Int64)) + (-7046029254386353131 : Int64))))]) (rest := []) (lenOf pd_0 rfl) rfl (by show 2 * 0 + _ ≤ _; exact Nat.le_of_eq rfl) (Jvm.hb hby at_55) (fun _ _ => ⟨rfl, e14, (by decide : 1 + 0 ≤ _), (by decide : 1 + 0 ≤ _)⟩)
  dsimp only [Pt.U, Pt.locs, Pt.cells, Pt.slots] at X15 l15 y15 z15 st15 hQ15
  subst l15 y15 z15
  obtain ⟨rfl, N15q, e15⟩ := hQ15
  have N15 := Fr.app N14 N15q
  refine own_go (B := T15.setTop (mkF m 58 #[.val (.long q1), .second, .val (.ref b8), .val (.long (own_mix (q1 + (-7046029254386353131 : Int64)))), .second, .val (.long (own_mix ((q1 + (-7046029254386353131 : Int64)) + (-7046029254386353131 : Int64)))), .second, .val (.long (own_mix (((q1 + (-7046029254386353131 : Int64)) + (-7046029254386353131 : Int64)) + (-7046029254386353131 : Int64)))), .second] [(.long (own_unmix (own_mix (((q1 + (-7046029254386353131 : Int64)) + (-7046029254386353131 : Int64)) + (-7046029254386353131 : Int64)))))])) (fun t k => st15 _ k) ?_
  refine own_go (B := T15.setTop (mkF m 59 #[.val (.long q1), .second, .val (.ref b8), .val (.long (own_mix (q1 + (-7046029254386353131 : Int64)))), .second, .val (.long (own_mix ((q1 + (-7046029254386353131 : Int64)) + (-7046029254386353131 : Int64)))), .second, .val (.long (own_mix (((q1 + (-7046029254386353131 : Int64)) + (-7046029254386353131 : Int64)) + (-7046029254386353131 : Int64)))), .second] [(.long q1), (.long (own_unmix (own_mix (((q1 + (-7046029254386353131 : Int64)) + (-7046029254386353131 : Int64)) + (-7046029254386353131 : Int64)))))])) (fun t k => XS.lloadN X15.here hx rfl (Jvm.hb hby at_58) rfl k) ?_
  refine own_go (B := T15.setTop (mkF m 62 #[.val (.long q1), .second, .val (.ref b8), .val (.long (own_mix (q1 + (-7046029254386353131 : Int64)))), .second, .val (.long (own_mix ((q1 + (-7046029254386353131 : Int64)) + (-7046029254386353131 : Int64)))), .second, .val (.long (own_mix (((q1 + (-7046029254386353131 : Int64)) + (-7046029254386353131 : Int64)) + (-7046029254386353131 : Int64)))), .second] [(.long (-2691343689449507777 : Int64)), (.long q1), (.long (own_unmix (own_mix (((q1 + (-7046029254386353131 : Int64)) + (-7046029254386353131 : Int64)) + (-7046029254386353131 : Int64)))))])) (fun t k => X15.ldc2Long hx hown (mvT hZ (own_w hw 31 rfl)) (g := (mkF m 59 #[.val (.long q1), .second, .val (.ref b8), .val (.long (own_mix (q1 + (-7046029254386353131 : Int64)))), .second, .val (.long (own_mix ((q1 + (-7046029254386353131 : Int64)) + (-7046029254386353131 : Int64)))), .second, .val (.long (own_mix (((q1 + (-7046029254386353131 : Int64)) + (-7046029254386353131 : Int64)) + (-7046029254386353131 : Int64)))), .second] [(.long q1), (.long (own_unmix (own_mix (((q1 + (-7046029254386353131 : Int64)) + (-7046029254386353131 : Int64)) + (-7046029254386353131 : Int64)))))])) rfl (Jvm.hb hby at_59) _ k) ?_
  refine own_go (B := T15.setTop (mkF m 63 #[.val (.long q1), .second, .val (.ref b8), .val (.long (own_mix (q1 + (-7046029254386353131 : Int64)))), .second, .val (.long (own_mix ((q1 + (-7046029254386353131 : Int64)) + (-7046029254386353131 : Int64)))), .second, .val (.long (own_mix (((q1 + (-7046029254386353131 : Int64)) + (-7046029254386353131 : Int64)) + (-7046029254386353131 : Int64)))), .second] [(.long (q1 + (-2691343689449507777 : Int64))), (.long (own_unmix (own_mix (((q1 + (-7046029254386353131 : Int64)) + (-7046029254386353131 : Int64)) + (-7046029254386353131 : Int64)))))])) (fun t k => XS.ladd X15.here hx rfl (Jvm.hb hby at_62) rfl k) ?_
  refine own_go (B := T15.setTop (mkF m 64 #[.val (.long q1), .second, .val (.ref b8), .val (.long (own_mix (q1 + (-7046029254386353131 : Int64)))), .second, .val (.long (own_mix ((q1 + (-7046029254386353131 : Int64)) + (-7046029254386353131 : Int64)))), .second, .val (.long (own_mix (((q1 + (-7046029254386353131 : Int64)) + (-7046029254386353131 : Int64)) + (-7046029254386353131 : Int64)))), .second] [(.int (lcmpW (own_unmix (own_mix (((q1 + (-7046029254386353131 : Int64)) + (-7046029254386353131 : Int64)) + (-7046029254386353131 : Int64)))) (q1 + (-2691343689449507777 : Int64))))])) (fun t k => XS.lcmp X15.here hx rfl (Jvm.hb hby at_63) rfl k) ?_
  refine own_go (B := T15.setTop (mkF m 67 #[.val (.long q1), .second, .val (.ref b8), .val (.long (own_mix (q1 + (-7046029254386353131 : Int64)))), .second, .val (.long (own_mix ((q1 + (-7046029254386353131 : Int64)) + (-7046029254386353131 : Int64)))), .second, .val (.long (own_mix (((q1 + (-7046029254386353131 : Int64)) + (-7046029254386353131 : Int64)) + (-7046029254386353131 : Int64)))), .second] [])) (fun t k => XS.ifNo X15.here hx rfl (Jvm.hb hby at_64) rfl ((if0 _ _).trans (teq ((lw_eq (own_unmix (own_mix (((q1 + (-7046029254386353131 : Int64)) + (-7046029254386353131 : Int64)) + (-7046029254386353131 : Int64)))) (q1 + (-2691343689449507777 : Int64))).mpr (own_c3 q1))).2) k) ?_
  refine own_go (B := T15.setTop (mkF m 68 #[.val (.long q1), .second, .val (.ref b8), .val (.long (own_mix (q1 + (-7046029254386353131 : Int64)))), .second, .val (.long (own_mix ((q1 + (-7046029254386353131 : Int64)) + (-7046029254386353131 : Int64)))), .second, .val (.long (own_mix (((q1 + (-7046029254386353131 : Int64)) + (-7046029254386353131 : Int64)) + (-7046029254386353131 : Int64)))), .second] [(.int (1 : Int32))])) (fun t k => XS.iconst X15.here hx rfl (Jvm.hb hby at_67) k) ?_
  refine own_go (B := T15.setTop (mkF m 72 #[.val (.long q1), .second, .val (.ref b8), .val (.long (own_mix (q1 + (-7046029254386353131 : Int64)))), .second, .val (.long (own_mix ((q1 + (-7046029254386353131 : Int64)) + (-7046029254386353131 : Int64)))), .second, .val (.long (own_mix (((q1 + (-7046029254386353131 : Int64)) + (-7046029254386353131 : Int64)) + (-7046029254386353131 : Int64)))), .second] [(.int (1 : Int32))])) (fun t k => XS.goto X15.here hx rfl (pc0 := 68) (pc' := 72) rfl (Jvm.hb hby at_68) (by decide) (by decide) k) ?_
  refine own_out X15 (v := (some (.int (1 : Int32)))) (fun h => by rw [Bd.returns] at h; cases h) Bd.notSynchronized (fun fs hr => retOut X15 hx (t := .boolean) Bd.returns rfl (by first | exact Or.inl ⟨rfl, by simp, _, rfl⟩) (Jvm.hb hby at_72) hr) ?_ (by decide) (by decide)
  show own_Q0 Z q1 h0 n0 (some (.int (1 : Int32))) T15.heap _
  rw [e15]
  exact ⟨rfl, N15⟩
set_option maxRecDepth 65536 in
set_option maxHeartbeats 40000000 in
theorem comes_1 {Post : Tables → Env → Array Value → State → Outcome → State → Prop} (hpost : ∀ tb e args s v u, (limb_1_1.after args s (.returned v) u = true ∧ limb_1_2.after args s (.returned v) u = true ∧ True) → FrameEnd s (.returned v) u (Jvm.fieldLocs frame_1_writes args s ++ Jvm.arrayLocs frame_1_arrays args s ++ Jvm.staticLocs frame_1_statics s) 16 128 → Post tb e args s (.returned v) u) :
    ArmFor flags0 classFile x code maxLocals ret World_1 tables_1 room_1 Calls_1 rest_1 Pre_1 Post := by
  intro l hfl _ _ p e ha hc hk s m args below hf hA hF happ hP
  obtain ⟨hcalls, hrest, hpre⟩ := hP
  obtain ⟨-, -, -, hnamed, -, -, -, hat⟩ := (Spec.applies_iff hf).mp happ
  obtain ⟨hg, hn⟩ := and_e (Cond.before_iff.mp (show (Jvm.Cond.and given_1 narrow_1).before args s = true from hpre))
  obtain ⟨g1a, g1b⟩ := and_e hg
  obtain ⟨w0, rfl⟩ : ∃ w0 : Value, args = #[w0] := by
    have hs : args.size = 1 := by simpa [Cond.value, given_1] using g1a
    obtain ⟨L⟩ := args
    match L, hs with
    | [w0], _ => exact ⟨w0, rfl⟩
  have hw := fun d (hd : d ∈ tables_1) => atoms_spec (ws := Jvm.Cond.code x code maxLocals ret :: tables_1) hat d (List.mem_cons_of_mem _ hd)
  obtain ⟨i0, ei0⟩ := isL_v g1b
  obtain rfl : w0 = (.long i0) := Option.some.inj ei0
  obtain ⟨n, o, h1, h2, h3, _, L, rfl, ⟨rfl, N⟩, hq⟩ := rm0 l s _ hw tables_1 i0 s.heap s.heap.size (Nat.le_refl _) p e ha hc hk s m _ below hf ((Spec.applies_iff_loose hf).mp happ).1 ⟨rfl, State.Warmed39.refl s, rfl⟩ trivial
  refine ⟨n, _, h1, h2, h3, hpost _ _ _ _ _ _ ⟨Cond.after_iff.mpr rfl, Cond.after_iff.mpr (eq_i res_at (Term.int_eval (1)) rfl), trivial⟩ ⟨hq.1, hq.2.1, (hq.2.2.sift fun y hy => Or.inr (N y hy)).mono (by decide) (by decide)⟩⟩
theorem main_1_1 : Claimed_1_1 := comes_1 fun _ _ _ _ _ _ h hF => ⟨h.1, hF⟩
theorem main_1_2 : Claimed_1_2 := comes_1 fun _ _ _ _ _ _ h hF => ⟨h.2.1, hF⟩
end Jvm.Pilot.@@N@@
namespace Jvm.Pilot.@@N@@
open Jvm Jvm.ClassFile Sem Op Lib Jvm.Free Jvm.Stand Jvm.Pilot.@@N@@.Jvm.D
/-! MADE BY PROGRAM (witnessworld.py) out of the Statement's table words and the real class files: 9 classes; the members and pool entries that the words name. The judged class is class 1, her method 3. -/
namespace start1
open Jvm.ClassFile
def u (s : String) : CpInfo := .utf8 (stringToUtf16 s)
/-- a pool by its gaps: so many unusable entries, then the entry; so many at the end -/
def gap : Nat → List CpInfo → List CpInfo
  | 0, r => r
  | n + 1, r => .unusable :: gap n r
def poolList (es : List (Nat × CpInfo)) (last : Nat) : List CpInfo := es.foldr (fun e r => gap e.1 (e.2 :: r)) (gap last [])
def pool (es : List (Nat × CpInfo)) (last : Nat) : Array CpInfo := ⟨poolList es last⟩
def fileOf (pool : Array CpInfo) (this : Nat) (attrs : Array Attribute := #[]) (ms : Array MethodInfo := #[]) (fl : Nat := 33) (sup : Nat := 0) (ifs : Array Nat := #[]) (fds : Array FieldInfo := #[]) : ClassFile where
  minorVersion := 0
  majorVersion := 65
  constantPool := pool
  accessFlags := fl
  thisClass := this
  superClass := sup
  interfaces := ifs
  fields := fds
  methods := ms
  attributes := attrs
def plain (name : String) (sup : Option ClassId) : Class where
  name := name
  kind := .ordinary
  loader := none
  accessFlags := 33
  super := sup
  interfaces := #[]
  cf := none
  fields := #[]
  methods := #[]
  instanceTypes := #[]
  staticTypes := #[]
  resolved := #[]
  callSites := []
  init := .initialized
  statics := none
  mirror := none

def pool0 : Array CpInfo := pool [(5, u "<init>"), (0, u "()V"), (1, .class_ 10), (1, u "java/lang/Object")] 113

def k0c0 : Code := { maxStack := 0, maxLocals := 1, code := object_method_1_code, exceptionTable := #[], attributes := #[] }
def k0m0 : Method := { name := "<init>", desc := "()V", sig := { parameters := [], returnType := none }, accessFlags := 1, code := some k0c0 }
/-- java/lang/Object -/
def k0 : Class := { plain "java/lang/Object" none with
  accessFlags := 33
  interfaces := #[]
  cf := some (fileOf pool0 8 #[] #[{ accessFlags := 1, nameIndex := 5, descriptorIndex := 6, attributes := #[] }] 33 0 #[] #[])
  fields := #[]
  methods := #[k0m0]
  instanceTypes := #[]
  staticTypes := #[]
  resolved := Array.replicate 124 none
  statics := none }

def pool1 : Array CpInfo := pool [(2, .class_ 4), (1, u "java/lang/Object"), (0, u "<init>"), (0, u "()V"), (0, .long 2), (1, .class_ 10), (0, u "com/example/netloom/netloom/embed/DrawsNextPinLaw"), (0, .long 10723151780598845931), (1, .methodref 9 14), (0, .nameAndType 15 16), (0, u "inv"), (0, u "(J)J"), (0, .long 13787848793156543929), (1, .class_ 20), (0, u "com/example/netloom/netloom/embed/Draws"), (0, .methodref 19 22), (0, .nameAndType 5 23), (0, u "(J)V"), (0, .methodref 19 25), (0, .nameAndType 26 27), (0, u "next"), (0, u "()J"), (0, .methodref 9 29), (0, .nameAndType 30 16), (0, u "unmix"), (0, .long 11400714819323198485), (1, .long 4354685564936845354), (1, .long 15755400384260043839), (1, u "STEP"), (0, u "J"), (1, u "M1"), (0, u "M2"), (2, u "law"), (0, u "(J)Z")] 3

def k1m0 : Method := { name := "<init>", desc := "()V", sig := { parameters := [], returnType := none }, accessFlags := 1, code := none }
def k1c1 : Code := { maxStack := 8, maxLocals := 4, code := method_2_code, exceptionTable := #[], attributes := #[] }
def k1m1 : Method := { name := "inv", desc := "(J)J", sig := { parameters := [.long], returnType := some .long }, accessFlags := 10, code := some k1c1 }
def k1c2 : Code := { maxStack := 5, maxLocals := 2, code := method_3_code, exceptionTable := #[], attributes := #[] }
def k1m2 : Method := { name := "unmix", desc := "(J)J", sig := { parameters := [.long], returnType := some .long }, accessFlags := 10, code := some k1c2 }
def k1c3 : Code := { maxStack := 6, maxLocals := 9, code := code, exceptionTable := #[], attributes := #[] }
def k1m3 : Method := { name := "law", desc := "(J)Z", sig := { parameters := [.long], returnType := some .boolean }, accessFlags := 9, code := some k1c3 }
/-- com/example/netloom/netloom/embed/DrawsNextPinLaw -/
def k1 : Class := { plain "com/example/netloom/netloom/embed/DrawsNextPinLaw" (some 0) with
  accessFlags := 49
  interfaces := #[]
  cf := some (fileOf pool1 9 #[] #[{ accessFlags := 1, nameIndex := 5, descriptorIndex := 6, attributes := #[] }, { accessFlags := 10, nameIndex := 15, descriptorIndex := 16, attributes := #[] }, { accessFlags := 10, nameIndex := 30, descriptorIndex := 16, attributes := #[] }, { accessFlags := 9, nameIndex := 44, descriptorIndex := 45, attributes := #[] }] 49 2 #[] #[{ accessFlags := 26, nameIndex := 37, descriptorIndex := 38, attributes := #[] }, { accessFlags := 26, nameIndex := 40, descriptorIndex := 38, attributes := #[] }, { accessFlags := 26, nameIndex := 41, descriptorIndex := 38, attributes := #[] }])
  fields := #[{ name := "STEP", type := .long, accessFlags := 26, slot := 0, constantValue := 0 }, { name := "M1", type := .long, accessFlags := 26, slot := 1, constantValue := 0 }, { name := "M2", type := .long, accessFlags := 26, slot := 2, constantValue := 0 }]
  methods := #[k1m0, k1m1, k1m2, k1m3]
  instanceTypes := #[]
  staticTypes := #[.long, .long, .long]
  resolved := Array.replicate 49 none
  statics := none }

def pool2 : Array CpInfo := pool [(1, .methodref 2 3), (0, .class_ 4), (0, .nameAndType 5 6), (0, u "java/lang/Object"), (0, u "<init>"), (0, u "()V"), (0, .fieldref 8 9), (0, .class_ 10), (0, .nameAndType 11 12), (0, u "com/example/netloom/netloom/embed/Draws"), (0, u "state"), (0, u "J"), (0, .long 11400714819323198485), (1, .long 13787848793156543929), (1, .long 10723151780598845931), (12, u "next"), (0, u "()J"), (4, u "STEP"), (1, u "(J)V")] 22

def k2c0 : Code := { maxStack := 3, maxLocals := 3, code := prog_28_method_1_code, exceptionTable := #[], attributes := #[] }
def k2m0 : Method := { name := "<init>", desc := "(J)V", sig := { parameters := [.long], returnType := none }, accessFlags := 0, code := some k2c0 }
def k2c1 : Code := { maxStack := 5, maxLocals := 3, code := prog_28_method_2_code, exceptionTable := #[], attributes := #[] }
def k2m1 : Method := { name := "next", desc := "()J", sig := { parameters := [], returnType := some .long }, accessFlags := 0, code := some k2c1 }
/-- com/example/netloom/netloom/embed/Draws -/
def k2 : Class := { plain "com/example/netloom/netloom/embed/Draws" (some 0) with
  accessFlags := 48
  interfaces := #[]
  cf := some (fileOf pool2 8 #[] #[{ accessFlags := 0, nameIndex := 5, descriptorIndex := 38, attributes := #[] }, { accessFlags := 0, nameIndex := 30, descriptorIndex := 31, attributes := #[] }] 48 2 #[] #[{ accessFlags := 26, nameIndex := 36, descriptorIndex := 12, attributes := #[] }, { accessFlags := 2, nameIndex := 11, descriptorIndex := 12, attributes := #[] }])
  fields := #[{ name := "STEP", type := .long, accessFlags := 26, slot := 0, constantValue := 0 }, { name := "state", type := .long, accessFlags := 2, slot := 0, constantValue := 0 }]
  methods := #[k2m0, k2m1]
  instanceTypes := #[.long]
  staticTypes := #[.long]
  resolved := Array.replicate 61 none
  statics := none }

def pool3 : Array CpInfo := pool [(1, u "java/lang/Cloneable"), (0, .class_ 1), (0, u "java/lang/Object"), (0, .class_ 3)] 3

/-- java/lang/Cloneable -/
def k3 : Class := { plain "java/lang/Cloneable" (some 0) with
  accessFlags := 1537
  interfaces := #[]
  cf := some (fileOf pool3 2 #[] #[] 1537 4 #[] #[])
  fields := #[]
  methods := #[]
  instanceTypes := #[]
  staticTypes := #[]
  resolved := Array.replicate 8 none
  statics := none }

def pool4 : Array CpInfo := pool [(1, u "java/io/Serializable"), (0, .class_ 1), (0, u "java/lang/Object"), (0, .class_ 3)] 3

/-- java/io/Serializable -/
def k4 : Class := { plain "java/io/Serializable" (some 0) with
  accessFlags := 1537
  interfaces := #[]
  cf := some (fileOf pool4 2 #[] #[] 1537 4 #[] #[])
  fields := #[]
  methods := #[]
  instanceTypes := #[]
  staticTypes := #[]
  resolved := Array.replicate 8 none
  statics := none }

/-- the primitive byte -/
def k5 : Class := { plain "byte" none with kind := .primitive 'B', accessFlags := 0x411 }
/-- [B -/
def k6 : Class := { plain "[B" (some 0) with kind := .array 5 .byte, interfaces := #[3, 4], accessFlags := 1041 }

/-- the primitive int -/
def k7 : Class := { plain "int" none with kind := .primitive 'I', accessFlags := 0x411 }
/-- [I -/
def k8 : Class := { plain "[I" (some 0) with kind := .array 7 .int, interfaces := #[3, 4], accessFlags := 1041 }

def heap : Heap := #[]
def classes : Array Class := #[k0, k1, k2, k3, k4, k5, k6, k7, k8]
def interned : List (Array UInt16 × Addr) := []
def slotsUsed : Nat := 0
def theMethod : MethodId := ⟨1, 3⟩
def args0 : Array Value := #[.long 5]
def aboutOver (below : List Frame) : State where
  vm := { classes := classes, interned := interned.toArray }
  heap := heap
  slotsUsed := slotsUsed
  threads := #[{ frames := .invoking theMethod args0 :: below }]
def below0 : List Frame := [.native { method := ⟨0, 0⟩, args := #[] }]
def about1 : State := aboutOver below0
def p0 : Program := .bare "" "" ""
def e0 : Env := launch0.env 0 0 0
theorem w_frames : about1.frames = Frame.invoking theMethod args0 :: below0 := rfl
set_option maxRecDepth 65536 in
theorem w_args : argsFit about1.vm theMethod args0 = true := by decide +kernel
set_option maxRecDepth 65536 in
theorem w_heap : heapFits about1 = true := by decide +kernel
set_option maxRecDepth 65536 in
theorem w_runnable : about1.curStatus? = some .runnable := by decide +kernel
set_option maxRecDepth 65536 in
theorem w_alone : about1.alone = true := by decide +kernel
set_option maxRecDepth 65536 in
theorem w_named : about1.methodNamed? x = some theMethod := by decide +kernel
set_option maxRecDepth 65536 in
theorem w_hears : about1.hears theMethod below0 = true := by decide +kernel
set_option maxRecDepth 65536 in
theorem w_ripe : about1.ripe theMethod args0 below0 = true := by decide +kernel
theorem w_running : about1.status = .running := rfl
set_option maxRecDepth 65536 in
theorem w_room : about1.hasRoom e0.platform room_1 = true :=
  launch0.hasRoom_least _ room_1 (by decide +kernel) (by decide +kernel) (by decide +kernel) (by decide +kernel) (by decide +kernel) (by decide +kernel)
theorem allAtoms_all (ts : List Jvm.Cond) (a : Array Jvm.Value) (st : Jvm.State) : (allAtoms ts).before a st = ts.all (fun c => c.before a st) := by
  induction ts with
  | nil => rfl
  | cons c t ih =>
    show (Jvm.Cond.and c (allAtoms t)).before a st = _
    rw [Jvm.Cond.before_and, ih, List.all_cons]
def words1 : List Jvm.Cond := Jvm.Cond.code x code maxLocals ret :: tables_1
/-- a 'code' word, met by the world's own term for the bytes: nothing is compared byte by byte -/
theorem code_word {y : MethodName} {bytes : ByteArray} {mx : Nat} {rt : Option FieldType} {a : Array Value} {s : State} {m : MethodId} {meth : Method} {c : Code} (h1 : s.methodNamed? y = some m) (h2 : s.vm.method? m = some meth) (h3 : meth.code = some c) (h4 : c.code = bytes)
    (h5 : (c.maxLocals == mx && c.exceptionTable.isEmpty && decide (c.maxStack ≤ mostOperands) && decide (meth.sig.returnType = rt) && !meth.locks && decide (parseMethodDescriptor y.desc = some meth.sig)) = true) : (Jvm.Cond.code y bytes mx rt).before a s = true := by
  simp only [Bool.and_eq_true, beq_iff_eq, Bool.not_eq_true', decide_eq_true_eq] at h5
  obtain ⟨⟨⟨⟨⟨g1, g2⟩, g3⟩, g4⟩, g5⟩, g6⟩ := h5
  simp [Cond.before, Cond.holds, Cond.value, h1, h2, h3, h4, g1, g2, g3, g4, g5, g6]
def isCode : Jvm.Cond → Bool
  | .code _ _ _ _ => true
  | _ => false
theorem all_split {L : List Jvm.Cond} {P : Jvm.Cond → Bool} (h1 : L.all (fun c => isCode c || P c) = true) (h2 : ∀ c ∈ L.filter isCode, P c = true) : L.all P = true := by
  refine List.all_eq_true.mpr fun c hc => ?_
  have h := List.all_eq_true.mp h1 c hc
  rcases Bool.eq_false_or_eq_true (isCode c) with hi | hi
  · exact h2 c (List.mem_filter.mpr ⟨hc, hi⟩)
  · simpa [hi] using h
set_option maxRecDepth 65536 in
theorem w_c0 : (Jvm.Cond.code x code maxLocals ret).before args0 about1 = true := code_word (m := ⟨1, 3⟩) (meth := k1m3) (c := k1c3) (by decide +kernel) rfl rfl rfl (by decide +kernel)
set_option maxRecDepth 65536 in
theorem w_c1 : (Jvm.Cond.code ({ cls := "com/example/netloom/netloom/embed/Draws", name := "<init>", desc := "(J)V" } : Jvm.MethodName) prog_28_method_1_code (3 : Nat) (Option.none : Option Jvm.ClassFile.FieldType)).before args0 about1 = true := code_word (m := ⟨2, 0⟩) (meth := k2m0) (c := k2c0) (by decide +kernel) rfl rfl rfl (by decide +kernel)
set_option maxRecDepth 65536 in
theorem w_c2 : (Jvm.Cond.code ({ cls := "java/lang/Object", name := "<init>", desc := "()V" } : Jvm.MethodName) object_method_1_code (1 : Nat) (Option.none : Option Jvm.ClassFile.FieldType)).before args0 about1 = true := code_word (m := ⟨0, 0⟩) (meth := k0m0) (c := k0c0) (by decide +kernel) rfl rfl rfl (by decide +kernel)
set_option maxRecDepth 65536 in
theorem w_c3 : (Jvm.Cond.code ({ cls := "com/example/netloom/netloom/embed/Draws", name := "next", desc := "()J" } : Jvm.MethodName) prog_28_method_2_code (3 : Nat) (Option.some Jvm.ClassFile.FieldType.long)).before args0 about1 = true := code_word (m := ⟨2, 1⟩) (meth := k2m1) (c := k2c1) (by decide +kernel) rfl rfl rfl (by decide +kernel)
set_option maxRecDepth 65536 in
theorem w_c4 : (Jvm.Cond.code ({ cls := "com/example/netloom/netloom/embed/DrawsNextPinLaw", name := "unmix", desc := "(J)J" } : Jvm.MethodName) method_3_code (2 : Nat) (Option.some Jvm.ClassFile.FieldType.long)).before args0 about1 = true := code_word (m := ⟨1, 2⟩) (meth := k1m2) (c := k1c2) (by decide +kernel) rfl rfl rfl (by decide +kernel)
set_option maxRecDepth 65536 in
theorem w_c5 : (Jvm.Cond.code ({ cls := "com/example/netloom/netloom/embed/DrawsNextPinLaw", name := "inv", desc := "(J)J" } : Jvm.MethodName) method_2_code (4 : Nat) (Option.some Jvm.ClassFile.FieldType.long)).before args0 about1 = true := code_word (m := ⟨1, 1⟩) (meth := k1m1) (c := k1c1) (by decide +kernel) rfl rfl rfl (by decide +kernel)
def codes1 : List Jvm.Cond := [Jvm.Cond.code x code maxLocals ret, Jvm.Cond.code ({ cls := "com/example/netloom/netloom/embed/Draws", name := "<init>", desc := "(J)V" } : Jvm.MethodName) prog_28_method_1_code (3 : Nat) (Option.none : Option Jvm.ClassFile.FieldType), Jvm.Cond.code ({ cls := "java/lang/Object", name := "<init>", desc := "()V" } : Jvm.MethodName) object_method_1_code (1 : Nat) (Option.none : Option Jvm.ClassFile.FieldType), Jvm.Cond.code ({ cls := "com/example/netloom/netloom/embed/Draws", name := "next", desc := "()J" } : Jvm.MethodName) prog_28_method_2_code (3 : Nat) (Option.some Jvm.ClassFile.FieldType.long), Jvm.Cond.code ({ cls := "com/example/netloom/netloom/embed/DrawsNextPinLaw", name := "unmix", desc := "(J)J" } : Jvm.MethodName) method_3_code (2 : Nat) (Option.some Jvm.ClassFile.FieldType.long), Jvm.Cond.code ({ cls := "com/example/netloom/netloom/embed/DrawsNextPinLaw", name := "inv", desc := "(J)J" } : Jvm.MethodName) method_2_code (4 : Nat) (Option.some Jvm.ClassFile.FieldType.long)]
set_option maxRecDepth 65536 in
theorem codes_eq : words1.filter isCode = codes1 := rfl
theorem w_codes : ∀ c ∈ words1.filter isCode, c.before args0 about1 = true := by
  rw [codes_eq]
  intro c hc
  simp only [codes1, List.mem_cons, List.not_mem_nil, or_false] at hc
  rcases hc with rfl | rfl | rfl | rfl | rfl | rfl
  · exact w_c0
  · exact w_c1
  · exact w_c2
  · exact w_c3
  · exact w_c4
  · exact w_c5
set_option maxRecDepth 65536 in
theorem w_t1 : (words1.take 24).all (fun c => isCode c || c.before args0 about1) = true := by decide +kernel
set_option maxRecDepth 65536 in
theorem w_t2 : (words1.drop 24).all (fun c => isCode c || c.before args0 about1) = true := by decide +kernel
theorem w_tables : (allAtoms (Jvm.Cond.code x code maxLocals ret :: tables_1)).before args0 about1 = true := by
  rw [allAtoms_all]
  show words1.all (fun c => c.before args0 about1) = true
  refine all_split ?_ w_codes
  rw [← List.take_append_drop 24 words1, List.all_append, w_t1, w_t2]
  rfl
set_option maxRecDepth 65536 in
theorem w_case : (Jvm.Cond.and given_1 narrow_1).before args0 about1 = true := by decide +kernel
theorem w_applies : (headSpec (Jvm.Cond.code x code maxLocals ret :: tables_1) room_1).applies x e0.platform about1 = true :=
  (Spec.applies_iff w_frames).mpr ⟨w_running, w_runnable, w_alone, w_named, w_hears, w_ripe, w_room, w_tables⟩
theorem atStart : AtStart classFile x code maxLocals ret World_1 tables_1 room_1 Calls_1 rest_1 Pre_1 launch0 p0 e0 about1 theMethod args0 below0 :=
  ⟨lists_1, trivial, launch0.admits_env _ _ _, launch0.least_env, fairChoices_fair.cas, fairChoices_fair.clock, w_frames, w_args, w_heap, w_applies, trivial, trivial, w_case⟩
end start1
theorem witness_1 : WitnessClaimed_1 := ⟨start1.p0, start1.e0, start1.about1, start1.theMethod, start1.args0, start1.below0, start1.atStart⟩
end Jvm.Pilot.@@N@@
