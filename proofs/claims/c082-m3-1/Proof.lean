import JvmDerived
import JvmDerived.Pilot.@@N@@Statement
import JvmDerived.Pilot.@@N@@Code
set_option linter.unusedVariables false
set_option linter.unusedSimpArgs false
namespace Jvm.Pilot.@@N@@
open Jvm Jvm.ClassFile Sem Op Lib Jvm.Free Jvm.Stand Jvm.LawKit Jvm.RoadKit Bundle Jvm.Pilot.@@N@@.Jvm.D
section Own
variable {p : Program} {l : Launch} {e : Env} {R : Room} {s : State} {m : MethodId} {args : Array Value} {below : List Frame} {meth : Method} {c : Code} {T : State} {locs : List Loc} {cells slots : Nat} {Z : State} {h h' : Heap} {a b : Addr}
/-- from A the run comes to its return, and Q holds there -/
def own_Goes (p : Program) (e : Env) (below : List Frame) (s : State) (Q : Option Value → Heap → List Loc → Prop) (kc ks : Nat) (A : State) : Prop :=
  ∃ s₂ o, Steps p.tables e below A s₂ ∧ s₂.status = .running ∧ Ended s₂ below o ∧ ∃ v L, o = .returned v ∧ Q v s₂.heap L ∧ FrameEnd s o s₂ L kc ks
theorem own_go {Q : Option Value → Heap → List Loc → Prop} {kc ks : Nat} {A B : State} (st : ∀ t, Steps p.tables e below B t → Steps p.tables e below A t) (k : own_Goes p e below s Q kc ks B) : own_Goes p e below s Q kc ks A := by
  obtain ⟨s2, o, h1, h2⟩ := k
  exact ⟨s2, o, st _ h1, h2⟩
theorem own_w {a0 : Array Value} {Z : State} (hw : ∀ d ∈ tables_1, d.before a0 Z = true) (i : Nat) {d : Jvm.Cond} (h : tables_1[i]? = some d) : d.before a0 Z = true := hw d (List.mem_of_getElem? h)
theorem own_selP {y y' : MethodName} (hs : (Cond.selects y'.cls y' y').before args s = true) (he : y.cls = y'.cls) (hpriv : s.PrivateAt y) (hinst : (Cond.instanceMethod y).before args s = true) (hy : y.cls ≠ "java/lang/invoke/MethodHandle" ∧ y.cls ≠ "java/lang/invoke/VarHandle") : (Cond.selects y.cls y y).before args s = true := by
  obtain ⟨c2, r2, m2, q1, q2, q3, q4, kP, hkP, hkPi⟩ := Cond.selects_spec hs
  exact selects_self_of_private (by rw [he]; exact findClass_of_methodNamed q3) hkP hkPi hpriv hinst hy
theorem own_st {tb : Tables} {A B t : State} (h1 : Steps tb e below A B) (k : Steps tb e below B t) : Steps tb e below A t := h1.trans k
theorem own_out {Q : Option Value → Heap → List Loc → Prop} {kc ks : Nat} {A : State} (X : Stand p l e R s m args below meth c T locs cells slots) {v : Option Value} (hv : meth.sig.returnType = none → v = none) (hlk : meth.locks = false)
    (st : ∀ fs, (∀ (f : JFrame) (acts : List Action), f.method = m → f.locked = none → f.entered = [] → (doReturn e (T.setTop f) acts v).1 = T.setFrames fs) → Steps p.tables e below A (T.setFrames fs))
    (hq : Q v T.heap locs) (hc : cells ≤ kc) (hs : slots ≤ ks) : own_Goes p e below s Q kc ks A := by
  obtain ⟨fs, hr, hrun, hended, hW, hsame⟩ := X.leave hv hlk
  exact ⟨_, _, st fs hr, hrun, hended, _, _, rfl, hq, ⟨_, rfl⟩, hW, hsame.mono hc hs⟩
theorem own_irem {tb : Tables} [Ours tb] {T target : State} {g : JFrame} (h : At T m c below) (hx : tb.exec = Jvm.exec) (hg : g.method = m) {x y : Int32} {rest : List Value} (hd : decode c.code g.pc = .ok (.irem, 1)) (hs : g.stack = .int y :: .int x :: rest) (hy : y ≠ 0)
    (hr : Steps tb e below (T.setTop { g with pc := g.pc + 1, stack := .int (x % y) :: rest }) target) : Steps tb e below (T.setTop g) target := XS.irem h hx hg hd hs hy (by rw [irem_eq_mod]; exact hr)
theorem own_lrem {tb : Tables} [Ours tb] {T target : State} {g : JFrame} (h : At T m c below) (hx : tb.exec = Jvm.exec) (hg : g.method = m) {x y : Int64} {rest : List Value} (hd : decode c.code g.pc = .ok (.lrem, 1)) (hs : g.stack = .long y :: .long x :: rest) (hy : y ≠ 0)
    (hr : Steps tb e below (T.setTop { g with pc := g.pc + 1, stack := .long (x % y) :: rest }) target) : Steps tb e below (T.setTop g) target := XS.lrem h hx hg hd hs hy (by rw [lrem_mod]; exact hr)
/-- an array of ints (bytes, booleans): its length, and what each place holds -/
def own_IA (Z : State) (h : Heap) (a : Addr) (ty : FieldType) (n : Nat) (f : Nat → Int32) : Prop := ∃ c : Cell, Arr Z h a c ty ∧ c.slots.size = n ∧ ∀ i, i < n → c.slots[i]? = some (.int (f i))
/-- an array of longs -/
def own_LA (Z : State) (h : Heap) (a : Addr) (n : Nat) (f : Nat → Int64) : Prop := ∃ c : Cell, Arr Z h a c .long ∧ c.slots.size = n ∧ ∀ i, i < n → c.slots[i]? = some (.long (f i))
def own_upd {α : Type} (f : Nat → α) (j : Nat) (x : α) (i : Nat) : α := if i = j then x else f i
theorem own_upd_hit {α : Type} (f : Nat → α) (j : Nat) (x : α) : own_upd f j x j = x := if_pos rfl
theorem own_upd_miss {α : Type} (f : Nat → α) {i j : Nat} (x : α) (q : i ≠ j) : own_upd f j x i = f i := if_neg q
section Arrays
variable {ty : FieldType} {n : Nat} {f : Nat → Int32} {fl : Nat → Int64} {sl : Nat} {v : Value} {ws : List Addr}
theorem own_IA.lt (F : own_IA Z h a ty n f) : a < h.size := by obtain ⟨c, A, -⟩ := F; exact A.lt
theorem own_LA.lt (F : own_LA Z h a n fl) : a < h.size := by obtain ⟨c, A, -⟩ := F; exact A.lt
theorem own_IA.ext (F : own_IA Z h a ty n f) (E : Ext h h') : own_IA Z h' a ty n f := by obtain ⟨c, A, r⟩ := F; exact ⟨c, A.ext E, r⟩
theorem own_LA.ext (F : own_LA Z h a n fl) (E : Ext h h') : own_LA Z h' a n fl := by obtain ⟨c, A, r⟩ := F; exact ⟨c, A.ext E, r⟩
theorem own_IA.other (F : own_IA Z h b ty n f) (W : Wr h h' a sl v) (q : b ≠ a) : own_IA Z h' b ty n f := by obtain ⟨c, A, r⟩ := F; exact ⟨c, A.other W q, r⟩
theorem own_LA.other (F : own_LA Z h b n fl) (W : Wr h h' a sl v) (q : b ≠ a) : own_LA Z h' b n fl := by obtain ⟨c, A, r⟩ := F; exact ⟨c, A.other W q, r⟩
theorem own_IA.keep (F : own_IA Z h a ty n f) (K : Keep h h' ws) (q : a ∉ ws) : own_IA Z h' a ty n f := by obtain ⟨c, A, r⟩ := F; exact ⟨c, ⟨K.2.1 a c A.1 q, A.2⟩, r⟩
theorem own_LA.keep (F : own_LA Z h a n fl) (K : Keep h h' ws) (q : a ∉ ws) : own_LA Z h' a n fl := by obtain ⟨c, A, r⟩ := F; exact ⟨c, ⟨K.2.1 a c A.1 q, A.2⟩, r⟩
theorem own_IA.cong {g : Nat → Int32} (F : own_IA Z h a ty n f) (q : ∀ i, i < n → f i = g i) : own_IA Z h a ty n g := by obtain ⟨c, A, r, u⟩ := F; exact ⟨c, A, r, fun i hi => by rw [u i hi, q i hi]⟩
theorem own_LA.cong {g : Nat → Int64} (F : own_LA Z h a n fl) (q : ∀ i, i < n → fl i = g i) : own_LA Z h a n g := by obtain ⟨c, A, r, u⟩ := F; exact ⟨c, A, r, fun i hi => by rw [u i hi, q i hi]⟩
theorem own_in {cl : Cell} {j : Int32} {k : Nat} (S : cl.slots.size = n) (h1 : ¬ j < 0) (hk : j.toNatClampNeg = k) (h2 : k < n) : ¬ (j < 0 ∨ cl.slots.size ≤ j.toNatClampNeg) := by
  rintro (q | q)
  · exact h1 q
  · rw [S, hk] at q; exact absurd h2 (Nat.not_lt.mpr q)
theorem own_set {cl : Cell} {k : Nat} (S : cl.slots.size = n) (h2 : k < n) (v : Value) (i : Nat) : (cl.setSlot k v).slots[i]? = if i = k then some v else cl.slots[i]? := by
  by_cases q : i = k
  · subst q; rw [if_pos rfl]; exact Array.getElem?_setIfInBounds_self_of_lt (by rw [S]; exact h2)
  · rw [if_neg q]; exact Array.getElem?_setIfInBounds_ne (fun z => q z.symm)
theorem own_Inew {k : ClassId} {z : Int32} (A : Arr Z h a (newA k ty z) ty) (hz : z.toNatClampNeg = n) (hd : defaultValue ty = .int 0) : own_IA Z h a ty n (fun _ => 0) := by
  refine ⟨_, A, by rw [sz_new, hz], fun i hi => ?_⟩
  show (Array.replicate z.toNatClampNeg (defaultValue ty))[i]? = _
  rw [hz, hd, Array.getElem?_replicate, if_pos hi]
theorem own_Lnew {k : ClassId} {z : Int32} (A : Arr Z h a (newA k .long z) .long) (hz : z.toNatClampNeg = n) : own_LA Z h a n (fun _ => 0) := by
  refine ⟨_, A, by rw [sz_new, hz], fun i hi => ?_⟩
  show (Array.replicate z.toNatClampNeg (defaultValue .long))[i]? = _
  rw [hz, Array.getElem?_replicate, if_pos hi]; rfl
theorem own_iaload (X : Stand p l e R s m args below meth c T locs cells slots) (hx : p.tables.exec = Jvm.exec) (hZ : Z.Warmed39 s.vm) (eT : T.heap = h) (V : own_IA Z h a .int n f) {j : Int32} {k : Nat} (h1 : ¬ j < 0) (hk : j.toNatClampNeg = k) (h2 : k < n) {pc : Nat} {Ls : Array Slot} {rest : List Value} (hd : decode c.code pc = .ok (.iaload, 1)) (t : State)
    (kk : Steps p.tables e below (T.setTop (mkF m (pc + 1) Ls (.int (f k) :: rest))) t) : Steps p.tables e below (T.setTop (mkF m pc Ls (.int j :: .ref a :: rest))) t := by
  obtain ⟨cl, A, S, H⟩ := V
  exact X.iaload hx (j := j) (v := .int (f k)) (by rw [eT]; exact A.1) (State.isArrayOf_alike hZ.alike A.2.1) A.2.2 (own_in S h1 hk h2) (by rw [hk]; exact H _ h2) (g := mkF m pc Ls (.int j :: .ref a :: rest)) rfl rfl hd t kk
theorem own_baload (X : Stand p l e R s m args below meth c T locs cells slots) (hx : p.tables.exec = Jvm.exec) (hZ : Z.Warmed39 s.vm) (eT : T.heap = h) (V : own_IA Z h a .byte n f) {j : Int32} {k : Nat} (h1 : ¬ j < 0) (hk : j.toNatClampNeg = k) (h2 : k < n) {pc : Nat} {Ls : Array Slot} {rest : List Value} (hd : decode c.code pc = .ok (.baload, 1)) (t : State)
    (kk : Steps p.tables e below (T.setTop (mkF m (pc + 1) Ls (.int (f k) :: rest))) t) : Steps p.tables e below (T.setTop (mkF m pc Ls (.int j :: .ref a :: rest))) t := by
  obtain ⟨cl, A, S, H⟩ := V
  exact X.baloadBytes hx (j := j) (v := .int (f k)) (by rw [eT]; exact A.1) (State.isArrayOf_alike hZ.alike A.2.1) A.2.2 (own_in S h1 hk h2) (by rw [hk]; exact H _ h2) (g := mkF m pc Ls (.int j :: .ref a :: rest)) rfl rfl hd t kk
theorem own_laload (X : Stand p l e R s m args below meth c T locs cells slots) (hx : p.tables.exec = Jvm.exec) (hZ : Z.Warmed39 s.vm) (eT : T.heap = h) (V : own_LA Z h a n fl) {j : Int32} {k : Nat} (h1 : ¬ j < 0) (hk : j.toNatClampNeg = k) (h2 : k < n) {pc : Nat} {Ls : Array Slot} {rest : List Value} (hd : decode c.code pc = .ok (.laload, 1)) (t : State)
    (kk : Steps p.tables e below (T.setTop (mkF m (pc + 1) Ls (.long (fl k) :: rest))) t) : Steps p.tables e below (T.setTop (mkF m pc Ls (.int j :: .ref a :: rest))) t := by
  obtain ⟨cl, A, S, H⟩ := V
  exact X.laload hx (j := j) (v := .long (fl k)) (by rw [eT]; exact A.1) (State.isArrayOf_alike hZ.alike A.2.1) A.2.2 (own_in S h1 hk h2) (by rw [hk]; exact H _ h2) (g := mkF m pc Ls (.int j :: .ref a :: rest)) rfl rfl hd t kk
theorem own_alen (X : Stand p l e R s m args below meth c T locs cells slots) (hx : p.tables.exec = Jvm.exec) (hZ : Z.Warmed39 s.vm) (eT : T.heap = h) (V : own_IA Z h a ty n f) {z : Int32} (hl : n.toInt32 = z) {pc : Nat} {Ls : Array Slot} {rest : List Value} (hd : decode c.code pc = .ok (.arraylength, 1)) (t : State)
    (kk : Steps p.tables e below (T.setTop (mkF m (pc + 1) Ls (.int z :: rest))) t) : Steps p.tables e below (T.setTop (mkF m pc Ls (.ref a :: rest))) t := by
  obtain ⟨cl, A, S, H⟩ := V
  exact X.arraylength hx (by rw [eT]; exact A.1) (State.isArrayOf_alike hZ.alike A.2.1) (g := mkF m pc Ls (.ref a :: rest)) rfl rfl hd t (by rw [S, hl]; exact kk)
theorem own_alenL (X : Stand p l e R s m args below meth c T locs cells slots) (hx : p.tables.exec = Jvm.exec) (hZ : Z.Warmed39 s.vm) (eT : T.heap = h) (V : own_LA Z h a n fl) {z : Int32} (hl : n.toInt32 = z) {pc : Nat} {Ls : Array Slot} {rest : List Value} (hd : decode c.code pc = .ok (.arraylength, 1)) (t : State)
    (kk : Steps p.tables e below (T.setTop (mkF m (pc + 1) Ls (.int z :: rest))) t) : Steps p.tables e below (T.setTop (mkF m pc Ls (.ref a :: rest))) t := by
  obtain ⟨cl, A, S, H⟩ := V
  exact X.arraylength hx (by rw [eT]; exact A.1) (State.isArrayOf_alike hZ.alike A.2.1) (g := mkF m pc Ls (.ref a :: rest)) rfl rfl hd t (by rw [S, hl]; exact kk)
theorem own_iastore (X : Stand p l e R s m args below meth c T locs cells slots) (hx : p.tables.exec = Jvm.exec) (hZ : Z.Warmed39 s.vm) (eT : T.heap = h) (V : own_IA Z h a .int n f) {j x : Int32} {k : Nat} (h1 : ¬ j < 0) (hk : j.toNatClampNeg = k) (h2 : k < n) {g : JFrame} (hg : g.method = m) {rest : List Value} (hs : g.stack = .int x :: .int j :: .ref a :: rest) (hd : decode c.code g.pc = .ok (.iastore, 1)) :
    ∃ T' h', Stand p l e R s m args below meth c T' (locs ++ [⟨a, k⟩]) cells slots ∧ T'.heap = h' ∧ Wr h h' a k (.int x) ∧ own_IA Z h' a .int n (own_upd f k x) ∧ ∀ target, Steps p.tables e below (T'.setTop { g with pc := g.pc + 1, stack := rest }) target → Steps p.tables e below (T.setTop g) target := by
  obtain ⟨cl, A, S, H⟩ := V
  obtain ⟨T', h', X', e', W, st⟩ := stI X hx hZ eT A (own_in S h1 hk h2) hg hs hd
  rw [hk] at X' W
  refine ⟨T', h', X', e', W, ⟨_, A.same W, by rw [sz_set, S], fun i hi => ?_⟩, st⟩
  rw [own_set S h2]; unfold own_upd
  by_cases q : i = k
  · rw [if_pos q, if_pos q]
  · rw [if_neg q, if_neg q]; exact H i hi
theorem own_bastore (X : Stand p l e R s m args below meth c T locs cells slots) (hx : p.tables.exec = Jvm.exec) (hZ : Z.Warmed39 s.vm) (eT : T.heap = h) (V : own_IA Z h a .byte n f) {j x : Int32} {k : Nat} (h1 : ¬ j < 0) (hk : j.toNatClampNeg = k) (h2 : k < n) {g : JFrame} (hg : g.method = m) {rest : List Value} (hs : g.stack = .int x :: .int j :: .ref a :: rest) (hd : decode c.code g.pc = .ok (.bastore, 1)) :
    ∃ T' h', Stand p l e R s m args below meth c T' (locs ++ [⟨a, k⟩]) cells slots ∧ T'.heap = h' ∧ Wr h h' a k (.int x.toInt8.toInt32) ∧ own_IA Z h' a .byte n (own_upd f k x.toInt8.toInt32) ∧ ∀ target, Steps p.tables e below (T'.setTop { g with pc := g.pc + 1, stack := rest }) target → Steps p.tables e below (T.setTop g) target := by
  obtain ⟨cl, A, S, H⟩ := V
  obtain ⟨T', h', X', e', W, st⟩ := stB X hx hZ eT A (own_in S h1 hk h2) hg hs hd
  rw [hk] at X' W
  refine ⟨T', h', X', e', W, ⟨_, A.same W, by rw [sz_set, S], fun i hi => ?_⟩, st⟩
  rw [own_set S h2]; unfold own_upd
  by_cases q : i = k
  · rw [if_pos q, if_pos q]; rfl
  · rw [if_neg q, if_neg q]; exact H i hi
theorem own_lastore (X : Stand p l e R s m args below meth c T locs cells slots) (hx : p.tables.exec = Jvm.exec) (hZ : Z.Warmed39 s.vm) (eT : T.heap = h) (V : own_LA Z h a n fl) {j : Int32} {x : Int64} {k : Nat} (h1 : ¬ j < 0) (hk : j.toNatClampNeg = k) (h2 : k < n) {g : JFrame} (hg : g.method = m) {rest : List Value} (hs : g.stack = .long x :: .int j :: .ref a :: rest) (hd : decode c.code g.pc = .ok (.lastore, 1)) :
    ∃ T' h', Stand p l e R s m args below meth c T' (locs ++ [⟨a, k⟩]) cells slots ∧ T'.heap = h' ∧ Wr h h' a k (.long x) ∧ own_LA Z h' a n (own_upd fl k x) ∧ ∀ target, Steps p.tables e below (T'.setTop { g with pc := g.pc + 1, stack := rest }) target → Steps p.tables e below (T.setTop g) target := by
  obtain ⟨cl, A, S, H⟩ := V
  obtain ⟨T', h', X', e', W, st⟩ := stJ X hx hZ eT A (own_in S h1 hk h2) hg hs hd
  rw [hk] at X' W
  refine ⟨T', h', X', e', W, ⟨_, A.same W, by rw [sz_set, S], fun i hi => ?_⟩, st⟩
  rw [own_set S h2]; unfold own_upd
  by_cases q : i = k
  · rw [if_pos q, if_pos q]
  · rw [if_neg q, if_neg q]; exact H i hi
theorem own_clone (X : Stand p l e R s m args below meth c T locs cells slots) (hx : p.tables.exec = Jvm.exec) (hZ : Z.Warmed39 s.vm) {a0 : Array Value} {own ad : String} {index : Nat} (hown : s.vm.findClass own = some m.cls)
    (w1 : (Cond.methodLink own index ⟨ad, "clone", "()Ljava/lang/Object;"⟩).before a0 Z = true) (w2 : (Cond.sameMethod ad "java/lang/Object" "clone" "()Ljava/lang/Object;").before a0 Z = true) (w3 : (Cond.native ⟨"java/lang/Object", "clone", "()Ljava/lang/Object;"⟩).before a0 Z = true)
    (w4 : (Cond.instanceMethod ⟨"java/lang/Object", "clone", "()Ljava/lang/Object;"⟩).before a0 Z = true) (w5 : (Cond.selects ad ⟨ad, "clone", "()Ljava/lang/Object;"⟩ ⟨"java/lang/Object", "clone", "()Ljava/lang/Object;"⟩).before a0 Z = true) (w6 : (Cond.castable ad "java/lang/Cloneable").before a0 Z = true)
    (eT : T.heap = h) (V : own_IA Z h a .int n f) (E : Exa Z h a ad) {g : JFrame} (hg : g.method = m) (hsize : g.locals.size = c.maxLocals) {rest : List Value} (hst : g.stack = .ref a :: rest) (hd : decode c.code g.pc = .ok (.invokevirtual index, 3))
    (hf : 1 ≤ R.frames) {W cap : Nat} (hW : 2 * g.monitorRoom + (rest.map fun v => v.category).sum ≤ W) (hl : W + 14 ≤ R.locals) (hcap : n ≤ cap) (hc : cells + 1 ≤ R.cells) (hsl : slots + cap ≤ R.slots) :
    ∃ T' h', Stand p l e R s m args below meth c T' locs (cells + 1) (slots + cap) ∧ T'.heap = h' ∧ Ext h h' ∧ own_IA Z h' h.size .int n f ∧ Exa Z h' h.size ad ∧
      ∀ target, Steps p.tables e below (T'.setTop { g with pc := g.pc + 3, stack := .ref h.size :: rest }) target → Steps p.tables e below (T.setTop g) target := by
  obtain ⟨cl, A, S, H⟩ := V
  have FC : FitC Z cl := fitC_of A fun i hi v hv => by rw [H i (by rw [← S]; exact hi)] at hv; cases hv; rfl
  obtain ⟨T', h', X', e', ex, A', E', st⟩ := cloneA X hx hZ hown w1 w2 w3 w4 w5 w6 eT A E FC hg hsize hst hd hf hW hl (by rw [S]; exact hcap) hc hsl
  exact ⟨T', h', X', e', ex, ⟨cloneOf cl, A', S, H⟩, E', st⟩
end Arrays
end Own
def own_sh (x : Int64) (k : Int32) : Int64 := ((x.toUInt64 >>> (k &&& 0x3f).toInt64.toUInt64).toInt64)
def own_xm (x : Int64) (k : Int32) (m : Int64) : Int64 := (x ^^^ own_sh x k) * m
def own_mix (x : Int64) : Int64 := own_xm (own_xm x (30 : Int32) (-4658895280553007687 : Int64)) (27 : Int32) (-7723592293110705685 : Int64) ^^^ own_sh (own_xm (own_xm x (30 : Int32) (-4658895280553007687 : Int64)) (27 : Int32) (-7723592293110705685 : Int64)) (31 : Int32)
def own_nw (c x : Int64) : Int64 := x * ((2 : Int64) - c * x)
def own_inv (c : Int64) : Int64 := own_nw c (own_nw c (own_nw c (own_nw c (own_nw c c))))
def own_ux (y : Int64) (k k2 : Int32) : Int64 := (y ^^^ own_sh y k) ^^^ own_sh y k2
def own_unmix (y : Int64) : Int64 := own_ux (own_ux (own_ux y (31 : Int32) (62 : Int32) * own_inv (-7723592293110705685 : Int64)) (27 : Int32) (54 : Int32) * own_inv (-4658895280553007687 : Int64)) (30 : Int32) (60 : Int32)
theorem own_sh_bv (x : Int64) (k : Int32) (n : Nat) (hk : (k &&& 0x3f).toInt64.toUInt64.toBitVec % 64 = BitVec.ofNat 64 n) (hn : n < 64) : (own_sh x k).toBitVec = x.toBitVec >>> n := by
  unfold own_sh
  show (x.toUInt64 >>> (k &&& 0x3f).toInt64.toUInt64).toBitVec = _
  rw [UInt64.toBitVec_shiftRight, hk, BitVec.ushiftRight_eq', BitVec.toNat_ofNat, Nat.mod_eq_of_lt (by omega)]
  rfl
theorem own_xs (z : BitVec 64) (k : Nat) (h : 64 ≤ 3 * k) : ((z ^^^ z >>> k) ^^^ (z ^^^ z >>> k) >>> k) ^^^ (z ^^^ z >>> k) >>> (2 * k) = z := by
  apply BitVec.eq_of_getLsbD_eq
  intro i hi
  simp only [BitVec.getLsbD_xor, BitVec.getLsbD_ushiftRight]
  rw [show k + (k + i) = 2 * k + i by omega, BitVec.getLsbD_of_ge z (k + (2 * k + i)) (by omega)]
  cases z.getLsbD i <;> cases z.getLsbD (k + i) <;> cases z.getLsbD (2 * k + i) <;> rfl
theorem own_undo (x : Int64) (k k2 : Int32) (n : Nat) (hk : (k &&& 0x3f).toInt64.toUInt64.toBitVec % 64 = BitVec.ofNat 64 n) (hk2 : (k2 &&& 0x3f).toInt64.toUInt64.toBitVec % 64 = BitVec.ofNat 64 (2 * n)) (hn : 2 * n < 64) (h3 : 64 ≤ 3 * n) : own_ux (x ^^^ own_sh x k) k k2 = x := by
  apply Int64.toBitVec_inj.mp
  unfold own_ux
  rw [Int64.toBitVec_xor, Int64.toBitVec_xor, own_sh_bv _ k n hk (by omega), own_sh_bv _ k2 (2 * n) hk2 hn, Int64.toBitVec_xor, own_sh_bv _ k n hk (by omega)]
  exact own_xs _ n h3
theorem own_inv1 : (-4658895280553007687 : Int64) * own_inv (-4658895280553007687 : Int64) = 1 := by decide +kernel
theorem own_inv2 : (-7723592293110705685 : Int64) * own_inv (-7723592293110705685 : Int64) = 1 := by decide +kernel
theorem own_plain (x : Int64) : own_unmix (own_mix x) = x := by
  unfold own_unmix own_mix
  rw [own_undo _ 31 62 31 (by decide) (by decide) (by decide) (by decide)]
  generalize e1 : own_xm x (30 : Int32) (-4658895280553007687 : Int64) = y
  unfold own_xm
  rw [Int64.mul_assoc, own_inv2, Int64.mul_one, own_undo _ 27 54 27 (by decide) (by decide) (by decide) (by decide), ← e1]
  unfold own_xm
  rw [Int64.mul_assoc, own_inv1, Int64.mul_one, own_undo _ 30 60 30 (by decide) (by decide) (by decide) (by decide)]
theorem pn_tessera_SplitMix64 : plainName "tessera/SplitMix64" = true := by first | (simp [plainName, overriddenIn]; done) | decide +kernel
theorem d1_0 : decode prog_58_method_6_code 0 = .ok (.lload_n 0, 1) := by decide +kernel
theorem d1_1 : decode prog_58_method_6_code 1 = .ok (.lload_n 0, 1) := by decide +kernel
theorem d1_2 : decode prog_58_method_6_code 2 = .ok (.bipush 30, 2) := by decide +kernel
theorem d1_4 : decode prog_58_method_6_code 4 = .ok (.lushr, 1) := by decide +kernel
theorem d1_5 : decode prog_58_method_6_code 5 = .ok (.lxor, 1) := by decide +kernel
theorem d1_6 : decode prog_58_method_6_code 6 = .ok (.ldc2_w 33, 3) := by decide +kernel
theorem d1_9 : decode prog_58_method_6_code 9 = .ok (.lmul, 1) := by decide +kernel
theorem d1_10 : decode prog_58_method_6_code 10 = .ok (.lstore_n 2, 1) := by decide +kernel
theorem d1_11 : decode prog_58_method_6_code 11 = .ok (.lload_n 2, 1) := by decide +kernel
theorem d1_12 : decode prog_58_method_6_code 12 = .ok (.lload_n 2, 1) := by decide +kernel
theorem d1_13 : decode prog_58_method_6_code 13 = .ok (.bipush 27, 2) := by decide +kernel
theorem d1_15 : decode prog_58_method_6_code 15 = .ok (.lushr, 1) := by decide +kernel
theorem d1_16 : decode prog_58_method_6_code 16 = .ok (.lxor, 1) := by decide +kernel
theorem d1_17 : decode prog_58_method_6_code 17 = .ok (.ldc2_w 35, 3) := by decide +kernel
theorem d1_20 : decode prog_58_method_6_code 20 = .ok (.lmul, 1) := by decide +kernel
theorem d1_21 : decode prog_58_method_6_code 21 = .ok (.lstore_n 2, 1) := by decide +kernel
theorem d1_22 : decode prog_58_method_6_code 22 = .ok (.lload_n 2, 1) := by decide +kernel
theorem d1_23 : decode prog_58_method_6_code 23 = .ok (.lload_n 2, 1) := by decide +kernel
theorem d1_24 : decode prog_58_method_6_code 24 = .ok (.bipush 31, 2) := by decide +kernel
theorem d1_26 : decode prog_58_method_6_code 26 = .ok (.lushr, 1) := by decide +kernel
theorem d1_27 : decode prog_58_method_6_code 27 = .ok (.lxor, 1) := by decide +kernel
theorem d1_28 : decode prog_58_method_6_code 28 = .ok (.lreturn, 1) := by decide +kernel
theorem ef_1 (m : MethodId) (x0 : Int64) : entryFrame m #[(.long x0)] 4 = mkF m 0 #[.val (.long x0), .second, .unset, .unset] [] := by first | (simp [entryFrame, mkF, argsToLocals, Value.category]; done) | rfl
def own_Q1 (Z : State) (q : Int64) (h0 : Heap) (n0 : Nat) (v : Option Value) (h : Heap) (L : List Loc) : Prop := v = some (.long (own_mix q)) ∧ Fr n0 L ∧ h = h0
set_option maxRecDepth 65536 in
set_option maxHeartbeats 40000000 in
theorem rm1 (l : Launch) (Z : State) (a0 : Array Value) (hw : ∀ d ∈ tables_1, d.before a0 Z = true) (ws : List Jvm.Cond) (q : Int64) (h0 : Heap) (n0 : Nat) (Z0 : n0 ≤ h0.size)  :
    MetFree l (⟨"tessera/SplitMix64", "mix", "(J)J"⟩ : MethodName) (head1 (Jvm.Cond.code (⟨"tessera/SplitMix64", "mix", "(J)J"⟩ : MethodName) prog_58_method_6_code 4 (some .long) :: ws) ({ frames := 0, cells := 0, slots := 0, locals := 0 } : Room)) (fun a U => a = #[(.long q)] ∧ Z.Warmed39 U.vm ∧ U.heap = h0) (fun _ _ _ _ _ => True) (fun _ U o U' => ∃ v L, o = .returned v ∧ own_Q1 Z q h0 n0 v U'.heap L ∧ FrameEnd U o U' L ({ frames := 0, cells := 0, slots := 0, locals := 0 } : Room).cells ({ frames := 0, cells := 0, slots := 0, locals := 0 } : Room).slots) := by
  refine MetFree.of_bodySF (plainFor_of_name pn_tessera_SplitMix64) hisR ?_
  intro p e s m args below meth c s₁ Bd hml0 hP hK
  obtain ⟨rfl, hZ, hh⟩ := hP
  have hx := Bd.exec
  have hby := Bd.bytes
  have hml : c.maxLocals = 4 := hml0
  have hown : s.vm.findClass "tessera/SplitMix64" = some m.cls := findClass_of_methodNamed Bd.named
  have hnm := (name_of_methodNamed Bd.named Bd.method).1
  have X0 : Stand p l e ({ frames := 0, cells := 0, slots := 0, locals := 0 } : Room) s m #[(.long q)] below meth c s₁ [] 0 0 := Stand.of_body Bd
  have e0 : s₁.heap = h0 := by rw [← hh, Bd.state]; rfl
  have N0 := Fr.nil n0
  have Zs := Z0
  show own_Goes p e below s (own_Q1 Z q h0 n0) ({ frames := 0, cells := 0, slots := 0, locals := 0 } : Room).cells ({ frames := 0, cells := 0, slots := 0, locals := 0 } : Room).slots _
  refine own_go (B := s₁.setTop (mkF m 0 #[.val (.long q), .second, .unset, .unset] [])) (fun t k => castTop (ef_1 m q) k) ?_
  refine own_go (B := s₁.setTop (mkF m 1 #[.val (.long q), .second, .unset, .unset] [(.long q)])) (fun t k => XS.lloadN X0.here hx rfl (Jvm.hb hby d1_0) rfl k) ?_
  refine own_go (B := s₁.setTop (mkF m 2 #[.val (.long q), .second, .unset, .unset] [(.long q), (.long q)])) (fun t k => XS.lloadN X0.here hx rfl (Jvm.hb hby d1_1) rfl k) ?_
  refine own_go (B := s₁.setTop (mkF m 4 #[.val (.long q), .second, .unset, .unset] [(.int (30 : Int32)), (.long q), (.long q)])) (fun t k => XS.bipush X0.here hx rfl (Jvm.hb hby d1_2) k) ?_
  refine own_go (B := s₁.setTop (mkF m 5 #[.val (.long q), .second, .unset, .unset] [(.long ((q.toUInt64 >>> ((30 : Int32) &&& 0x3f).toInt64.toUInt64).toInt64)), (.long q)])) (fun t k => XS.lushr X0.here hx rfl (Jvm.hb hby d1_4) rfl k) ?_
  refine own_go (B := s₁.setTop (mkF m 6 #[.val (.long q), .second, .unset, .unset] [(.long (q ^^^ ((q.toUInt64 >>> ((30 : Int32) &&& 0x3f).toInt64.toUInt64).toInt64)))])) (fun t k => XS.lxor X0.here hx rfl (Jvm.hb hby d1_5) rfl k) ?_
  refine own_go (B := s₁.setTop (mkF m 9 #[.val (.long q), .second, .unset, .unset] [(.long (-4658895280553007687 : Int64)), (.long (q ^^^ ((q.toUInt64 >>> ((30 : Int32) &&& 0x3f).toInt64.toUInt64).toInt64)))])) (fun t k => X0.ldc2Long hx hown (mvT hZ (own_w hw 4 rfl)) (g := (mkF m 6 #[.val (.long q), .second, .unset, .unset] [(.long (q ^^^ ((q.toUInt64 >>> ((30 : Int32) &&& 0x3f).toInt64.toUInt64).toInt64)))])) rfl (Jvm.hb hby d1_6) _ k) ?_
  refine own_go (B := s₁.setTop (mkF m 10 #[.val (.long q), .second, .unset, .unset] [(.long ((q ^^^ ((q.toUInt64 >>> ((30 : Int32) &&& 0x3f).toInt64.toUInt64).toInt64)) * (-4658895280553007687 : Int64)))])) (fun t k => XS.lmul X0.here hx rfl (Jvm.hb hby d1_9) rfl k) ?_
  obtain ⟨vz0, hvz0⟩ : ∃ z : Int64, z = ((q ^^^ ((q.toUInt64 >>> ((30 : Int32) &&& 0x3f).toInt64.toUInt64).toInt64)) * (-4658895280553007687 : Int64)) := ⟨_, rfl⟩
  rw [← hvz0]
  refine own_go (B := s₁.setTop (mkF m 11 #[.val (.long q), .second, .val (.long vz0), .second] [])) (fun t k => XS.lstoreN X0.here hx rfl (Jvm.hb hby d1_10) rfl (l' := #[.val (.long q), .second, .val (.long vz0), .second]) rfl k) ?_
  refine own_go (B := s₁.setTop (mkF m 12 #[.val (.long q), .second, .val (.long vz0), .second] [(.long vz0)])) (fun t k => XS.lloadN X0.here hx rfl (Jvm.hb hby d1_11) rfl k) ?_
  refine own_go (B := s₁.setTop (mkF m 13 #[.val (.long q), .second, .val (.long vz0), .second] [(.long vz0), (.long vz0)])) (fun t k => XS.lloadN X0.here hx rfl (Jvm.hb hby d1_12) rfl k) ?_
  refine own_go (B := s₁.setTop (mkF m 15 #[.val (.long q), .second, .val (.long vz0), .second] [(.int (27 : Int32)), (.long vz0), (.long vz0)])) (fun t k => XS.bipush X0.here hx rfl (Jvm.hb hby d1_13) k) ?_
  refine own_go (B := s₁.setTop (mkF m 16 #[.val (.long q), .second, .val (.long vz0), .second] [(.long ((vz0.toUInt64 >>> ((27 : Int32) &&& 0x3f).toInt64.toUInt64).toInt64)), (.long vz0)])) (fun t k => XS.lushr X0.here hx rfl (Jvm.hb hby d1_15) rfl k) ?_
  refine own_go (B := s₁.setTop (mkF m 17 #[.val (.long q), .second, .val (.long vz0), .second] [(.long (vz0 ^^^ ((vz0.toUInt64 >>> ((27 : Int32) &&& 0x3f).toInt64.toUInt64).toInt64)))])) (fun t k => XS.lxor X0.here hx rfl (Jvm.hb hby d1_16) rfl k) ?_
  refine own_go (B := s₁.setTop (mkF m 20 #[.val (.long q), .second, .val (.long vz0), .second] [(.long (-7723592293110705685 : Int64)), (.long (vz0 ^^^ ((vz0.toUInt64 >>> ((27 : Int32) &&& 0x3f).toInt64.toUInt64).toInt64)))])) (fun t k => X0.ldc2Long hx hown (mvT hZ (own_w hw 5 rfl)) (g := (mkF m 17 #[.val (.long q), .second, .val (.long vz0), .second] [(.long (vz0 ^^^ ((vz0.toUInt64 >>> ((27 : Int32) &&& 0x3f).toInt64.toUInt64).toInt64)))])) rfl (Jvm.hb hby d1_17) _ k) ?_
  refine own_go (B := s₁.setTop (mkF m 21 #[.val (.long q), .second, .val (.long vz0), .second] [(.long ((vz0 ^^^ ((vz0.toUInt64 >>> ((27 : Int32) &&& 0x3f).toInt64.toUInt64).toInt64)) * (-7723592293110705685 : Int64)))])) (fun t k => XS.lmul X0.here hx rfl (Jvm.hb hby d1_20) rfl k) ?_
  obtain ⟨vz1, hvz1⟩ : ∃ z : Int64, z = ((vz0 ^^^ ((vz0.toUInt64 >>> ((27 : Int32) &&& 0x3f).toInt64.toUInt64).toInt64)) * (-7723592293110705685 : Int64)) := ⟨_, rfl⟩
  rw [← hvz1]
  refine own_go (B := s₁.setTop (mkF m 22 #[.val (.long q), .second, .val (.long vz1), .second] [])) (fun t k => XS.lstoreN X0.here hx rfl (Jvm.hb hby d1_21) rfl (l' := #[.val (.long q), .second, .val (.long vz1), .second]) rfl k) ?_
  refine own_go (B := s₁.setTop (mkF m 23 #[.val (.long q), .second, .val (.long vz1), .second] [(.long vz1)])) (fun t k => XS.lloadN X0.here hx rfl (Jvm.hb hby d1_22) rfl k) ?_
  refine own_go (B := s₁.setTop (mkF m 24 #[.val (.long q), .second, .val (.long vz1), .second] [(.long vz1), (.long vz1)])) (fun t k => XS.lloadN X0.here hx rfl (Jvm.hb hby d1_23) rfl k) ?_
  refine own_go (B := s₁.setTop (mkF m 26 #[.val (.long q), .second, .val (.long vz1), .second] [(.int (31 : Int32)), (.long vz1), (.long vz1)])) (fun t k => XS.bipush X0.here hx rfl (Jvm.hb hby d1_24) k) ?_
  refine own_go (B := s₁.setTop (mkF m 27 #[.val (.long q), .second, .val (.long vz1), .second] [(.long ((vz1.toUInt64 >>> ((31 : Int32) &&& 0x3f).toInt64.toUInt64).toInt64)), (.long vz1)])) (fun t k => XS.lushr X0.here hx rfl (Jvm.hb hby d1_26) rfl k) ?_
  refine own_go (B := s₁.setTop (mkF m 28 #[.val (.long q), .second, .val (.long vz1), .second] [(.long (vz1 ^^^ ((vz1.toUInt64 >>> ((31 : Int32) &&& 0x3f).toInt64.toUInt64).toInt64)))])) (fun t k => XS.lxor X0.here hx rfl (Jvm.hb hby d1_27) rfl k) ?_
  refine own_out X0 (v := (some (.long (vz1 ^^^ ((vz1.toUInt64 >>> ((31 : Int32) &&& 0x3f).toInt64.toUInt64).toInt64))))) (fun h => by rw [Bd.returns] at h; cases h) Bd.notSynchronized (fun fs hr => retOut X0 hx (t := .long) Bd.returns rfl (Or.inr (Or.inl ⟨rfl, rfl, _, rfl⟩)) (Jvm.hb hby d1_28) hr) ?_ (by decide) (by decide)
  show own_Q1 Z q h0 n0 (some (.long (vz1 ^^^ ((vz1.toUInt64 >>> ((31 : Int32) &&& 0x3f).toInt64.toUInt64).toInt64)))) s₁.heap _
  rw [e0]
  exact ⟨congrArg (fun z => some (Value.long z)) (by subst hvz0; subst hvz1; rfl), N0, rfl⟩
theorem pn_tessera_SplitMix64MixPinLaw : plainName "tessera/SplitMix64MixPinLaw" = true := by first | (simp [plainName, overriddenIn]; done) | decide +kernel
theorem d3_0 : decode method_2_code 0 = .ok (.lload_n 0, 1) := by decide +kernel
theorem d3_1 : decode method_2_code 1 = .ok (.lstore_n 2, 1) := by decide +kernel
theorem d3_2 : decode method_2_code 2 = .ok (.lload_n 2, 1) := by decide +kernel
theorem d3_3 : decode method_2_code 3 = .ok (.ldc2_w 7, 3) := by decide +kernel
theorem d3_6 : decode method_2_code 6 = .ok (.lload_n 0, 1) := by decide +kernel
theorem d3_7 : decode method_2_code 7 = .ok (.lload_n 2, 1) := by decide +kernel
theorem d3_8 : decode method_2_code 8 = .ok (.lmul, 1) := by decide +kernel
theorem d3_9 : decode method_2_code 9 = .ok (.lsub, 1) := by decide +kernel
theorem d3_10 : decode method_2_code 10 = .ok (.lmul, 1) := by decide +kernel
theorem d3_11 : decode method_2_code 11 = .ok (.lstore_n 2, 1) := by decide +kernel
theorem d3_12 : decode method_2_code 12 = .ok (.lload_n 2, 1) := by decide +kernel
theorem d3_13 : decode method_2_code 13 = .ok (.ldc2_w 7, 3) := by decide +kernel
theorem d3_16 : decode method_2_code 16 = .ok (.lload_n 0, 1) := by decide +kernel
theorem d3_17 : decode method_2_code 17 = .ok (.lload_n 2, 1) := by decide +kernel
theorem d3_18 : decode method_2_code 18 = .ok (.lmul, 1) := by decide +kernel
theorem d3_19 : decode method_2_code 19 = .ok (.lsub, 1) := by decide +kernel
theorem d3_20 : decode method_2_code 20 = .ok (.lmul, 1) := by decide +kernel
theorem d3_21 : decode method_2_code 21 = .ok (.lstore_n 2, 1) := by decide +kernel
theorem d3_22 : decode method_2_code 22 = .ok (.lload_n 2, 1) := by decide +kernel
theorem d3_23 : decode method_2_code 23 = .ok (.ldc2_w 7, 3) := by decide +kernel
theorem d3_26 : decode method_2_code 26 = .ok (.lload_n 0, 1) := by decide +kernel
theorem d3_27 : decode method_2_code 27 = .ok (.lload_n 2, 1) := by decide +kernel
theorem d3_28 : decode method_2_code 28 = .ok (.lmul, 1) := by decide +kernel
theorem d3_29 : decode method_2_code 29 = .ok (.lsub, 1) := by decide +kernel
theorem d3_30 : decode method_2_code 30 = .ok (.lmul, 1) := by decide +kernel
theorem d3_31 : decode method_2_code 31 = .ok (.lstore_n 2, 1) := by decide +kernel
theorem d3_32 : decode method_2_code 32 = .ok (.lload_n 2, 1) := by decide +kernel
theorem d3_33 : decode method_2_code 33 = .ok (.ldc2_w 7, 3) := by decide +kernel
theorem d3_36 : decode method_2_code 36 = .ok (.lload_n 0, 1) := by decide +kernel
theorem d3_37 : decode method_2_code 37 = .ok (.lload_n 2, 1) := by decide +kernel
theorem d3_38 : decode method_2_code 38 = .ok (.lmul, 1) := by decide +kernel
theorem d3_39 : decode method_2_code 39 = .ok (.lsub, 1) := by decide +kernel
theorem d3_40 : decode method_2_code 40 = .ok (.lmul, 1) := by decide +kernel
theorem d3_41 : decode method_2_code 41 = .ok (.lstore_n 2, 1) := by decide +kernel
theorem d3_42 : decode method_2_code 42 = .ok (.lload_n 2, 1) := by decide +kernel
theorem d3_43 : decode method_2_code 43 = .ok (.ldc2_w 7, 3) := by decide +kernel
theorem d3_46 : decode method_2_code 46 = .ok (.lload_n 0, 1) := by decide +kernel
theorem d3_47 : decode method_2_code 47 = .ok (.lload_n 2, 1) := by decide +kernel
theorem d3_48 : decode method_2_code 48 = .ok (.lmul, 1) := by decide +kernel
theorem d3_49 : decode method_2_code 49 = .ok (.lsub, 1) := by decide +kernel
theorem d3_50 : decode method_2_code 50 = .ok (.lmul, 1) := by decide +kernel
theorem d3_51 : decode method_2_code 51 = .ok (.lstore_n 2, 1) := by decide +kernel
theorem d3_52 : decode method_2_code 52 = .ok (.lload_n 2, 1) := by decide +kernel
theorem d3_53 : decode method_2_code 53 = .ok (.lreturn, 1) := by decide +kernel
theorem ef_3 (m : MethodId) (x0 : Int64) : entryFrame m #[(.long x0)] 4 = mkF m 0 #[.val (.long x0), .second, .unset, .unset] [] := by first | (simp [entryFrame, mkF, argsToLocals, Value.category]; done) | rfl
def own_Q3 (Z : State) (q : Int64) (h0 : Heap) (n0 : Nat) (v : Option Value) (h : Heap) (L : List Loc) : Prop := v = some (.long (own_inv q)) ∧ Fr n0 L ∧ h = h0
set_option maxRecDepth 65536 in
set_option maxHeartbeats 40000000 in
theorem rm3 (l : Launch) (Z : State) (a0 : Array Value) (hw : ∀ d ∈ tables_1, d.before a0 Z = true) (ws : List Jvm.Cond) (q : Int64) (h0 : Heap) (n0 : Nat) (Z0 : n0 ≤ h0.size)  :
    MetFree l (⟨"tessera/SplitMix64MixPinLaw", "inverse", "(J)J"⟩ : MethodName) (head1 (Jvm.Cond.code (⟨"tessera/SplitMix64MixPinLaw", "inverse", "(J)J"⟩ : MethodName) method_2_code 4 (some .long) :: ws) ({ frames := 0, cells := 0, slots := 0, locals := 0 } : Room)) (fun a U => a = #[(.long q)] ∧ Z.Warmed39 U.vm ∧ U.heap = h0) (fun _ _ _ _ _ => True) (fun _ U o U' => ∃ v L, o = .returned v ∧ own_Q3 Z q h0 n0 v U'.heap L ∧ FrameEnd U o U' L ({ frames := 0, cells := 0, slots := 0, locals := 0 } : Room).cells ({ frames := 0, cells := 0, slots := 0, locals := 0 } : Room).slots) := by
  refine MetFree.of_bodySF (plainFor_of_name pn_tessera_SplitMix64MixPinLaw) hisR ?_
  intro p e s m args below meth c s₁ Bd hml0 hP hK
  obtain ⟨rfl, hZ, hh⟩ := hP
  have hx := Bd.exec
  have hby := Bd.bytes
  have hml : c.maxLocals = 4 := hml0
  have hown : s.vm.findClass "tessera/SplitMix64MixPinLaw" = some m.cls := findClass_of_methodNamed Bd.named
  have hnm := (name_of_methodNamed Bd.named Bd.method).1
  have X0 : Stand p l e ({ frames := 0, cells := 0, slots := 0, locals := 0 } : Room) s m #[(.long q)] below meth c s₁ [] 0 0 := Stand.of_body Bd
  have e0 : s₁.heap = h0 := by rw [← hh, Bd.state]; rfl
  have N0 := Fr.nil n0
  have Zs := Z0
  show own_Goes p e below s (own_Q3 Z q h0 n0) ({ frames := 0, cells := 0, slots := 0, locals := 0 } : Room).cells ({ frames := 0, cells := 0, slots := 0, locals := 0 } : Room).slots _
  refine own_go (B := s₁.setTop (mkF m 0 #[.val (.long q), .second, .unset, .unset] [])) (fun t k => castTop (ef_3 m q) k) ?_
  refine own_go (B := s₁.setTop (mkF m 1 #[.val (.long q), .second, .unset, .unset] [(.long q)])) (fun t k => XS.lloadN X0.here hx rfl (Jvm.hb hby d3_0) rfl k) ?_
  refine own_go (B := s₁.setTop (mkF m 2 #[.val (.long q), .second, .val (.long q), .second] [])) (fun t k => XS.lstoreN X0.here hx rfl (Jvm.hb hby d3_1) rfl (l' := #[.val (.long q), .second, .val (.long q), .second]) rfl k) ?_
  refine own_go (B := s₁.setTop (mkF m 3 #[.val (.long q), .second, .val (.long q), .second] [(.long q)])) (fun t k => XS.lloadN X0.here hx rfl (Jvm.hb hby d3_2) rfl k) ?_
  refine own_go (B := s₁.setTop (mkF m 6 #[.val (.long q), .second, .val (.long q), .second] [(.long (2 : Int64)), (.long q)])) (fun t k => X0.ldc2Long hx hown (mvT hZ (own_w hw 14 rfl)) (g := (mkF m 3 #[.val (.long q), .second, .val (.long q), .second] [(.long q)])) rfl (Jvm.hb hby d3_3) _ k) ?_
  refine own_go (B := s₁.setTop (mkF m 7 #[.val (.long q), .second, .val (.long q), .second] [(.long q), (.long (2 : Int64)), (.long q)])) (fun t k => XS.lloadN X0.here hx rfl (Jvm.hb hby d3_6) rfl k) ?_
  refine own_go (B := s₁.setTop (mkF m 8 #[.val (.long q), .second, .val (.long q), .second] [(.long q), (.long q), (.long (2 : Int64)), (.long q)])) (fun t k => XS.lloadN X0.here hx rfl (Jvm.hb hby d3_7) rfl k) ?_
  refine own_go (B := s₁.setTop (mkF m 9 #[.val (.long q), .second, .val (.long q), .second] [(.long (q * q)), (.long (2 : Int64)), (.long q)])) (fun t k => XS.lmul X0.here hx rfl (Jvm.hb hby d3_8) rfl k) ?_
  refine own_go (B := s₁.setTop (mkF m 10 #[.val (.long q), .second, .val (.long q), .second] [(.long ((2 : Int64) - (q * q))), (.long q)])) (fun t k => XS.lsub X0.here hx rfl (Jvm.hb hby d3_9) rfl k) ?_
  refine own_go (B := s₁.setTop (mkF m 11 #[.val (.long q), .second, .val (.long q), .second] [(.long (q * ((2 : Int64) - (q * q))))])) (fun t k => XS.lmul X0.here hx rfl (Jvm.hb hby d3_10) rfl k) ?_
  obtain ⟨vz0, hvz0⟩ : ∃ z : Int64, z = (q * ((2 : Int64) - (q * q))) := ⟨_, rfl⟩
  rw [← hvz0]
  refine own_go (B := s₁.setTop (mkF m 12 #[.val (.long q), .second, .val (.long vz0), .second] [])) (fun t k => XS.lstoreN X0.here hx rfl (Jvm.hb hby d3_11) rfl (l' := #[.val (.long q), .second, .val (.long vz0), .second]) rfl k) ?_
  refine own_go (B := s₁.setTop (mkF m 13 #[.val (.long q), .second, .val (.long vz0), .second] [(.long vz0)])) (fun t k => XS.lloadN X0.here hx rfl (Jvm.hb hby d3_12) rfl k) ?_
  refine own_go (B := s₁.setTop (mkF m 16 #[.val (.long q), .second, .val (.long vz0), .second] [(.long (2 : Int64)), (.long vz0)])) (fun t k => X0.ldc2Long hx hown (mvT hZ (own_w hw 14 rfl)) (g := (mkF m 13 #[.val (.long q), .second, .val (.long vz0), .second] [(.long vz0)])) rfl (Jvm.hb hby d3_13) _ k) ?_
  refine own_go (B := s₁.setTop (mkF m 17 #[.val (.long q), .second, .val (.long vz0), .second] [(.long q), (.long (2 : Int64)), (.long vz0)])) (fun t k => XS.lloadN X0.here hx rfl (Jvm.hb hby d3_16) rfl k) ?_
  refine own_go (B := s₁.setTop (mkF m 18 #[.val (.long q), .second, .val (.long vz0), .second] [(.long vz0), (.long q), (.long (2 : Int64)), (.long vz0)])) (fun t k => XS.lloadN X0.here hx rfl (Jvm.hb hby d3_17) rfl k) ?_
  refine own_go (B := s₁.setTop (mkF m 19 #[.val (.long q), .second, .val (.long vz0), .second] [(.long (q * vz0)), (.long (2 : Int64)), (.long vz0)])) (fun t k => XS.lmul X0.here hx rfl (Jvm.hb hby d3_18) rfl k) ?_
  refine own_go (B := s₁.setTop (mkF m 20 #[.val (.long q), .second, .val (.long vz0), .second] [(.long ((2 : Int64) - (q * vz0))), (.long vz0)])) (fun t k => XS.lsub X0.here hx rfl (Jvm.hb hby d3_19) rfl k) ?_
  refine own_go (B := s₁.setTop (mkF m 21 #[.val (.long q), .second, .val (.long vz0), .second] [(.long (vz0 * ((2 : Int64) - (q * vz0))))])) (fun t k => XS.lmul X0.here hx rfl (Jvm.hb hby d3_20) rfl k) ?_
  obtain ⟨vz1, hvz1⟩ : ∃ z : Int64, z = (vz0 * ((2 : Int64) - (q * vz0))) := ⟨_, rfl⟩
  rw [← hvz1]
  refine own_go (B := s₁.setTop (mkF m 22 #[.val (.long q), .second, .val (.long vz1), .second] [])) (fun t k => XS.lstoreN X0.here hx rfl (Jvm.hb hby d3_21) rfl (l' := #[.val (.long q), .second, .val (.long vz1), .second]) rfl k) ?_
  refine own_go (B := s₁.setTop (mkF m 23 #[.val (.long q), .second, .val (.long vz1), .second] [(.long vz1)])) (fun t k => XS.lloadN X0.here hx rfl (Jvm.hb hby d3_22) rfl k) ?_
  refine own_go (B := s₁.setTop (mkF m 26 #[.val (.long q), .second, .val (.long vz1), .second] [(.long (2 : Int64)), (.long vz1)])) (fun t k => X0.ldc2Long hx hown (mvT hZ (own_w hw 14 rfl)) (g := (mkF m 23 #[.val (.long q), .second, .val (.long vz1), .second] [(.long vz1)])) rfl (Jvm.hb hby d3_23) _ k) ?_
  refine own_go (B := s₁.setTop (mkF m 27 #[.val (.long q), .second, .val (.long vz1), .second] [(.long q), (.long (2 : Int64)), (.long vz1)])) (fun t k => XS.lloadN X0.here hx rfl (Jvm.hb hby d3_26) rfl k) ?_
  refine own_go (B := s₁.setTop (mkF m 28 #[.val (.long q), .second, .val (.long vz1), .second] [(.long vz1), (.long q), (.long (2 : Int64)), (.long vz1)])) (fun t k => XS.lloadN X0.here hx rfl (Jvm.hb hby d3_27) rfl k) ?_
  refine own_go (B := s₁.setTop (mkF m 29 #[.val (.long q), .second, .val (.long vz1), .second] [(.long (q * vz1)), (.long (2 : Int64)), (.long vz1)])) (fun t k => XS.lmul X0.here hx rfl (Jvm.hb hby d3_28) rfl k) ?_
  refine own_go (B := s₁.setTop (mkF m 30 #[.val (.long q), .second, .val (.long vz1), .second] [(.long ((2 : Int64) - (q * vz1))), (.long vz1)])) (fun t k => XS.lsub X0.here hx rfl (Jvm.hb hby d3_29) rfl k) ?_
  refine own_go (B := s₁.setTop (mkF m 31 #[.val (.long q), .second, .val (.long vz1), .second] [(.long (vz1 * ((2 : Int64) - (q * vz1))))])) (fun t k => XS.lmul X0.here hx rfl (Jvm.hb hby d3_30) rfl k) ?_
  obtain ⟨vz2, hvz2⟩ : ∃ z : Int64, z = (vz1 * ((2 : Int64) - (q * vz1))) := ⟨_, rfl⟩
  rw [← hvz2]
  refine own_go (B := s₁.setTop (mkF m 32 #[.val (.long q), .second, .val (.long vz2), .second] [])) (fun t k => XS.lstoreN X0.here hx rfl (Jvm.hb hby d3_31) rfl (l' := #[.val (.long q), .second, .val (.long vz2), .second]) rfl k) ?_
  refine own_go (B := s₁.setTop (mkF m 33 #[.val (.long q), .second, .val (.long vz2), .second] [(.long vz2)])) (fun t k => XS.lloadN X0.here hx rfl (Jvm.hb hby d3_32) rfl k) ?_
  refine own_go (B := s₁.setTop (mkF m 36 #[.val (.long q), .second, .val (.long vz2), .second] [(.long (2 : Int64)), (.long vz2)])) (fun t k => X0.ldc2Long hx hown (mvT hZ (own_w hw 14 rfl)) (g := (mkF m 33 #[.val (.long q), .second, .val (.long vz2), .second] [(.long vz2)])) rfl (Jvm.hb hby d3_33) _ k) ?_
  refine own_go (B := s₁.setTop (mkF m 37 #[.val (.long q), .second, .val (.long vz2), .second] [(.long q), (.long (2 : Int64)), (.long vz2)])) (fun t k => XS.lloadN X0.here hx rfl (Jvm.hb hby d3_36) rfl k) ?_
  refine own_go (B := s₁.setTop (mkF m 38 #[.val (.long q), .second, .val (.long vz2), .second] [(.long vz2), (.long q), (.long (2 : Int64)), (.long vz2)])) (fun t k => XS.lloadN X0.here hx rfl (Jvm.hb hby d3_37) rfl k) ?_
  refine own_go (B := s₁.setTop (mkF m 39 #[.val (.long q), .second, .val (.long vz2), .second] [(.long (q * vz2)), (.long (2 : Int64)), (.long vz2)])) (fun t k => XS.lmul X0.here hx rfl (Jvm.hb hby d3_38) rfl k) ?_
  refine own_go (B := s₁.setTop (mkF m 40 #[.val (.long q), .second, .val (.long vz2), .second] [(.long ((2 : Int64) - (q * vz2))), (.long vz2)])) (fun t k => XS.lsub X0.here hx rfl (Jvm.hb hby d3_39) rfl k) ?_
  refine own_go (B := s₁.setTop (mkF m 41 #[.val (.long q), .second, .val (.long vz2), .second] [(.long (vz2 * ((2 : Int64) - (q * vz2))))])) (fun t k => XS.lmul X0.here hx rfl (Jvm.hb hby d3_40) rfl k) ?_
  obtain ⟨vz3, hvz3⟩ : ∃ z : Int64, z = (vz2 * ((2 : Int64) - (q * vz2))) := ⟨_, rfl⟩
  rw [← hvz3]
  refine own_go (B := s₁.setTop (mkF m 42 #[.val (.long q), .second, .val (.long vz3), .second] [])) (fun t k => XS.lstoreN X0.here hx rfl (Jvm.hb hby d3_41) rfl (l' := #[.val (.long q), .second, .val (.long vz3), .second]) rfl k) ?_
  refine own_go (B := s₁.setTop (mkF m 43 #[.val (.long q), .second, .val (.long vz3), .second] [(.long vz3)])) (fun t k => XS.lloadN X0.here hx rfl (Jvm.hb hby d3_42) rfl k) ?_
  refine own_go (B := s₁.setTop (mkF m 46 #[.val (.long q), .second, .val (.long vz3), .second] [(.long (2 : Int64)), (.long vz3)])) (fun t k => X0.ldc2Long hx hown (mvT hZ (own_w hw 14 rfl)) (g := (mkF m 43 #[.val (.long q), .second, .val (.long vz3), .second] [(.long vz3)])) rfl (Jvm.hb hby d3_43) _ k) ?_
  refine own_go (B := s₁.setTop (mkF m 47 #[.val (.long q), .second, .val (.long vz3), .second] [(.long q), (.long (2 : Int64)), (.long vz3)])) (fun t k => XS.lloadN X0.here hx rfl (Jvm.hb hby d3_46) rfl k) ?_
  refine own_go (B := s₁.setTop (mkF m 48 #[.val (.long q), .second, .val (.long vz3), .second] [(.long vz3), (.long q), (.long (2 : Int64)), (.long vz3)])) (fun t k => XS.lloadN X0.here hx rfl (Jvm.hb hby d3_47) rfl k) ?_
  refine own_go (B := s₁.setTop (mkF m 49 #[.val (.long q), .second, .val (.long vz3), .second] [(.long (q * vz3)), (.long (2 : Int64)), (.long vz3)])) (fun t k => XS.lmul X0.here hx rfl (Jvm.hb hby d3_48) rfl k) ?_
  refine own_go (B := s₁.setTop (mkF m 50 #[.val (.long q), .second, .val (.long vz3), .second] [(.long ((2 : Int64) - (q * vz3))), (.long vz3)])) (fun t k => XS.lsub X0.here hx rfl (Jvm.hb hby d3_49) rfl k) ?_
  refine own_go (B := s₁.setTop (mkF m 51 #[.val (.long q), .second, .val (.long vz3), .second] [(.long (vz3 * ((2 : Int64) - (q * vz3))))])) (fun t k => XS.lmul X0.here hx rfl (Jvm.hb hby d3_50) rfl k) ?_
  obtain ⟨vz4, hvz4⟩ : ∃ z : Int64, z = (vz3 * ((2 : Int64) - (q * vz3))) := ⟨_, rfl⟩
  rw [← hvz4]
  refine own_go (B := s₁.setTop (mkF m 52 #[.val (.long q), .second, .val (.long vz4), .second] [])) (fun t k => XS.lstoreN X0.here hx rfl (Jvm.hb hby d3_51) rfl (l' := #[.val (.long q), .second, .val (.long vz4), .second]) rfl k) ?_
  refine own_go (B := s₁.setTop (mkF m 53 #[.val (.long q), .second, .val (.long vz4), .second] [(.long vz4)])) (fun t k => XS.lloadN X0.here hx rfl (Jvm.hb hby d3_52) rfl k) ?_
  refine own_out X0 (v := (some (.long vz4))) (fun h => by rw [Bd.returns] at h; cases h) Bd.notSynchronized (fun fs hr => retOut X0 hx (t := .long) Bd.returns rfl (Or.inr (Or.inl ⟨rfl, rfl, _, rfl⟩)) (Jvm.hb hby d3_53) hr) ?_ (by decide) (by decide)
  show own_Q3 Z q h0 n0 (some (.long vz4)) s₁.heap _
  rw [e0]
  exact ⟨congrArg (fun z => some (Value.long z)) (by subst hvz0; subst hvz1; subst hvz2; subst hvz3; subst hvz4; rfl), N0, rfl⟩
theorem d2_0 : decode method_3_code 0 = .ok (.lload_n 0, 1) := by decide +kernel
theorem d2_1 : decode method_3_code 1 = .ok (.lload_n 0, 1) := by decide +kernel
theorem d2_2 : decode method_3_code 2 = .ok (.bipush 31, 2) := by decide +kernel
theorem d2_4 : decode method_3_code 4 = .ok (.lushr, 1) := by decide +kernel
theorem d2_5 : decode method_3_code 5 = .ok (.lxor, 1) := by decide +kernel
theorem d2_6 : decode method_3_code 6 = .ok (.lload_n 0, 1) := by decide +kernel
theorem d2_7 : decode method_3_code 7 = .ok (.bipush 62, 2) := by decide +kernel
theorem d2_9 : decode method_3_code 9 = .ok (.lushr, 1) := by decide +kernel
theorem d2_10 : decode method_3_code 10 = .ok (.lxor, 1) := by decide +kernel
theorem d2_11 : decode method_3_code 11 = .ok (.lstore_n 2, 1) := by decide +kernel
theorem d2_12 : decode method_3_code 12 = .ok (.lload_n 2, 1) := by decide +kernel
theorem d2_13 : decode method_3_code 13 = .ok (.ldc2_w 9, 3) := by decide +kernel
theorem d2_16 : decode method_3_code 16 = .ok (.invokestatic 11, 3) := by decide +kernel
theorem d2_19 : decode method_3_code 19 = .ok (.lmul, 1) := by decide +kernel
theorem d2_20 : decode method_3_code 20 = .ok (.lstore_n 2, 1) := by decide +kernel
theorem d2_21 : decode method_3_code 21 = .ok (.lload_n 2, 1) := by decide +kernel
theorem d2_22 : decode method_3_code 22 = .ok (.lload_n 2, 1) := by decide +kernel
theorem d2_23 : decode method_3_code 23 = .ok (.bipush 27, 2) := by decide +kernel
theorem d2_25 : decode method_3_code 25 = .ok (.lushr, 1) := by decide +kernel
theorem d2_26 : decode method_3_code 26 = .ok (.lxor, 1) := by decide +kernel
theorem d2_27 : decode method_3_code 27 = .ok (.lload_n 2, 1) := by decide +kernel
theorem d2_28 : decode method_3_code 28 = .ok (.bipush 54, 2) := by decide +kernel
theorem d2_30 : decode method_3_code 30 = .ok (.lushr, 1) := by decide +kernel
theorem d2_31 : decode method_3_code 31 = .ok (.lxor, 1) := by decide +kernel
theorem d2_32 : decode method_3_code 32 = .ok (.lstore_n 2, 1) := by decide +kernel
theorem d2_33 : decode method_3_code 33 = .ok (.lload_n 2, 1) := by decide +kernel
theorem d2_34 : decode method_3_code 34 = .ok (.ldc2_w 17, 3) := by decide +kernel
theorem d2_37 : decode method_3_code 37 = .ok (.invokestatic 11, 3) := by decide +kernel
theorem d2_40 : decode method_3_code 40 = .ok (.lmul, 1) := by decide +kernel
theorem d2_41 : decode method_3_code 41 = .ok (.lstore_n 2, 1) := by decide +kernel
theorem d2_42 : decode method_3_code 42 = .ok (.lload_n 2, 1) := by decide +kernel
theorem d2_43 : decode method_3_code 43 = .ok (.lload_n 2, 1) := by decide +kernel
theorem d2_44 : decode method_3_code 44 = .ok (.bipush 30, 2) := by decide +kernel
theorem d2_46 : decode method_3_code 46 = .ok (.lushr, 1) := by decide +kernel
theorem d2_47 : decode method_3_code 47 = .ok (.lxor, 1) := by decide +kernel
theorem d2_48 : decode method_3_code 48 = .ok (.lload_n 2, 1) := by decide +kernel
theorem d2_49 : decode method_3_code 49 = .ok (.bipush 60, 2) := by decide +kernel
theorem d2_51 : decode method_3_code 51 = .ok (.lushr, 1) := by decide +kernel
theorem d2_52 : decode method_3_code 52 = .ok (.lxor, 1) := by decide +kernel
theorem d2_53 : decode method_3_code 53 = .ok (.lstore_n 2, 1) := by decide +kernel
theorem d2_54 : decode method_3_code 54 = .ok (.lload_n 2, 1) := by decide +kernel
theorem d2_55 : decode method_3_code 55 = .ok (.lreturn, 1) := by decide +kernel
theorem pd_0 : parseMethodDescriptor "(J)J" = some ⟨[.long], some .long⟩ := by decide +kernel
theorem ef_2 (m : MethodId) (x0 : Int64) : entryFrame m #[(.long x0)] 4 = mkF m 0 #[.val (.long x0), .second, .unset, .unset] [] := by first | (simp [entryFrame, mkF, argsToLocals, Value.category]; done) | rfl
def own_Q2 (Z : State) (q : Int64) (h0 : Heap) (n0 : Nat) (v : Option Value) (h : Heap) (L : List Loc) : Prop := v = some (.long (own_unmix q)) ∧ Fr n0 L ∧ h = h0
set_option maxRecDepth 65536 in
set_option maxHeartbeats 40000000 in
theorem rm2 (l : Launch) (Z : State) (a0 : Array Value) (hw : ∀ d ∈ tables_1, d.before a0 Z = true) (ws : List Jvm.Cond) (q : Int64) (h0 : Heap) (n0 : Nat) (Z0 : n0 ≤ h0.size)  :
    MetFree l (⟨"tessera/SplitMix64MixPinLaw", "unmix", "(J)J"⟩ : MethodName) (head1 (Jvm.Cond.code (⟨"tessera/SplitMix64MixPinLaw", "unmix", "(J)J"⟩ : MethodName) method_3_code 4 (some .long) :: ws) ({ frames := 1, cells := 0, slots := 0, locals := 17 } : Room)) (fun a U => a = #[(.long q)] ∧ Z.Warmed39 U.vm ∧ U.heap = h0) (fun _ _ _ _ _ => True) (fun _ U o U' => ∃ v L, o = .returned v ∧ own_Q2 Z q h0 n0 v U'.heap L ∧ FrameEnd U o U' L ({ frames := 1, cells := 0, slots := 0, locals := 17 } : Room).cells ({ frames := 1, cells := 0, slots := 0, locals := 17 } : Room).slots) := by
  refine MetFree.of_bodySF (plainFor_of_name pn_tessera_SplitMix64MixPinLaw) hisR ?_
  intro p e s m args below meth c s₁ Bd hml0 hP hK
  obtain ⟨rfl, hZ, hh⟩ := hP
  have hx := Bd.exec
  have hby := Bd.bytes
  have hml : c.maxLocals = 4 := hml0
  have hown : s.vm.findClass "tessera/SplitMix64MixPinLaw" = some m.cls := findClass_of_methodNamed Bd.named
  have hnm := (name_of_methodNamed Bd.named Bd.method).1
  have X0 : Stand p l e ({ frames := 1, cells := 0, slots := 0, locals := 17 } : Room) s m #[(.long q)] below meth c s₁ [] 0 0 := Stand.of_body Bd
  have e0 : s₁.heap = h0 := by rw [← hh, Bd.state]; rfl
  have N0 := Fr.nil n0
  have Zs := Z0
  show own_Goes p e below s (own_Q2 Z q h0 n0) ({ frames := 1, cells := 0, slots := 0, locals := 17 } : Room).cells ({ frames := 1, cells := 0, slots := 0, locals := 17 } : Room).slots _
  refine own_go (B := s₁.setTop (mkF m 0 #[.val (.long q), .second, .unset, .unset] [])) (fun t k => castTop (ef_2 m q) k) ?_
  refine own_go (B := s₁.setTop (mkF m 1 #[.val (.long q), .second, .unset, .unset] [(.long q)])) (fun t k => XS.lloadN X0.here hx rfl (Jvm.hb hby d2_0) rfl k) ?_
  refine own_go (B := s₁.setTop (mkF m 2 #[.val (.long q), .second, .unset, .unset] [(.long q), (.long q)])) (fun t k => XS.lloadN X0.here hx rfl (Jvm.hb hby d2_1) rfl k) ?_
  refine own_go (B := s₁.setTop (mkF m 4 #[.val (.long q), .second, .unset, .unset] [(.int (31 : Int32)), (.long q), (.long q)])) (fun t k => XS.bipush X0.here hx rfl (Jvm.hb hby d2_2) k) ?_
  refine own_go (B := s₁.setTop (mkF m 5 #[.val (.long q), .second, .unset, .unset] [(.long ((q.toUInt64 >>> ((31 : Int32) &&& 0x3f).toInt64.toUInt64).toInt64)), (.long q)])) (fun t k => XS.lushr X0.here hx rfl (Jvm.hb hby d2_4) rfl k) ?_
  refine own_go (B := s₁.setTop (mkF m 6 #[.val (.long q), .second, .unset, .unset] [(.long (q ^^^ ((q.toUInt64 >>> ((31 : Int32) &&& 0x3f).toInt64.toUInt64).toInt64)))])) (fun t k => XS.lxor X0.here hx rfl (Jvm.hb hby d2_5) rfl k) ?_
  refine own_go (B := s₁.setTop (mkF m 7 #[.val (.long q), .second, .unset, .unset] [(.long q), (.long (q ^^^ ((q.toUInt64 >>> ((31 : Int32) &&& 0x3f).toInt64.toUInt64).toInt64)))])) (fun t k => XS.lloadN X0.here hx rfl (Jvm.hb hby d2_6) rfl k) ?_
  refine own_go (B := s₁.setTop (mkF m 9 #[.val (.long q), .second, .unset, .unset] [(.int (62 : Int32)), (.long q), (.long (q ^^^ ((q.toUInt64 >>> ((31 : Int32) &&& 0x3f).toInt64.toUInt64).toInt64)))])) (fun t k => XS.bipush X0.here hx rfl (Jvm.hb hby d2_7) k) ?_
  refine own_go (B := s₁.setTop (mkF m 10 #[.val (.long q), .second, .unset, .unset] [(.long ((q.toUInt64 >>> ((62 : Int32) &&& 0x3f).toInt64.toUInt64).toInt64)), (.long (q ^^^ ((q.toUInt64 >>> ((31 : Int32) &&& 0x3f).toInt64.toUInt64).toInt64)))])) (fun t k => XS.lushr X0.here hx rfl (Jvm.hb hby d2_9) rfl k) ?_
  refine own_go (B := s₁.setTop (mkF m 11 #[.val (.long q), .second, .unset, .unset] [(.long ((q ^^^ ((q.toUInt64 >>> ((31 : Int32) &&& 0x3f).toInt64.toUInt64).toInt64)) ^^^ ((q.toUInt64 >>> ((62 : Int32) &&& 0x3f).toInt64.toUInt64).toInt64)))])) (fun t k => XS.lxor X0.here hx rfl (Jvm.hb hby d2_10) rfl k) ?_
  obtain ⟨vz0, hvz0⟩ : ∃ z : Int64, z = ((q ^^^ ((q.toUInt64 >>> ((31 : Int32) &&& 0x3f).toInt64.toUInt64).toInt64)) ^^^ ((q.toUInt64 >>> ((62 : Int32) &&& 0x3f).toInt64.toUInt64).toInt64)) := ⟨_, rfl⟩
  rw [← hvz0]
  refine own_go (B := s₁.setTop (mkF m 12 #[.val (.long q), .second, .val (.long vz0), .second] [])) (fun t k => XS.lstoreN X0.here hx rfl (Jvm.hb hby d2_11) rfl (l' := #[.val (.long q), .second, .val (.long vz0), .second]) rfl k) ?_
  refine own_go (B := s₁.setTop (mkF m 13 #[.val (.long q), .second, .val (.long vz0), .second] [(.long vz0)])) (fun t k => XS.lloadN X0.here hx rfl (Jvm.hb hby d2_12) rfl k) ?_
  refine own_go (B := s₁.setTop (mkF m 16 #[.val (.long q), .second, .val (.long vz0), .second] [(.long (-7723592293110705685 : Int64)), (.long vz0)])) (fun t k => X0.ldc2Long hx hown (mvT hZ (own_w hw 10 rfl)) (g := (mkF m 13 #[.val (.long q), .second, .val (.long vz0), .second] [(.long vz0)])) rfl (Jvm.hb hby d2_13) _ k) ?_
  obtain ⟨_, _, ⟨T1, La1, ka1, na1⟩, -, X1, ⟨Lc1, hQ1, l1, y1, z1⟩, st1⟩ := Jvm.LawKit.callS X0 hx (y := (⟨"tessera/SplitMix64MixPinLaw", "inverse", "(J)J"⟩ : MethodName)) hown (mvT hZ (own_w hw 11 rfl)) (mvT hZ (own_w hw 12 rfl)) (mvT hZ (own_w hw 8 rfl)) (mvT hZ (own_w hw 13 rfl)) (by decide) (backOf (W := 2) (rm3 l Z a0 hw [] (-7723592293110705685 : Int64) h0 n0 Zs) hZ (own_w hw 13 rfl) (own_w hw 8 rfl) (by decide) (by decide)) (g := (mkF m 16 #[.val (.long q), .second, .val (.long vz0), .second] [(.long (-7723592293110705685 : Int64)), (.long vz0)])) rfl (by rw [hml]; rfl) (argsL := [(.long (-7723592293110705685 : Int64))]) (rest := [(.long vz0)]) (lenOf pd_0 rfl) rfl (by show 2 * 0 + _ ≤ _; exact Nat.le_of_eq rfl) (Jvm.hb hby d2_16) (fun _ _ => ⟨rfl, e0, (by decide : 0 + 0 ≤ _), (by decide : 0 + 0 ≤ _)⟩)
  dsimp only [Pt.U, Pt.locs, Pt.cells, Pt.slots] at X1 l1 y1 z1 st1 hQ1
  subst l1 y1 z1
  obtain ⟨rfl, N1q, e1⟩ := hQ1
  have N1 := Fr.app N0 N1q
  refine own_go (B := T1.setTop (mkF m 19 #[.val (.long q), .second, .val (.long vz0), .second] [(.long (own_inv (-7723592293110705685 : Int64))), (.long vz0)])) (fun t k => st1 _ k) ?_
  refine own_go (B := T1.setTop (mkF m 20 #[.val (.long q), .second, .val (.long vz0), .second] [(.long (vz0 * (own_inv (-7723592293110705685 : Int64))))])) (fun t k => XS.lmul X1.here hx rfl (Jvm.hb hby d2_19) rfl k) ?_
  obtain ⟨vz1, hvz1⟩ : ∃ z : Int64, z = (vz0 * (own_inv (-7723592293110705685 : Int64))) := ⟨_, rfl⟩
  rw [← hvz1]
  refine own_go (B := T1.setTop (mkF m 21 #[.val (.long q), .second, .val (.long vz1), .second] [])) (fun t k => XS.lstoreN X1.here hx rfl (Jvm.hb hby d2_20) rfl (l' := #[.val (.long q), .second, .val (.long vz1), .second]) rfl k) ?_
  refine own_go (B := T1.setTop (mkF m 22 #[.val (.long q), .second, .val (.long vz1), .second] [(.long vz1)])) (fun t k => XS.lloadN X1.here hx rfl (Jvm.hb hby d2_21) rfl k) ?_
  refine own_go (B := T1.setTop (mkF m 23 #[.val (.long q), .second, .val (.long vz1), .second] [(.long vz1), (.long vz1)])) (fun t k => XS.lloadN X1.here hx rfl (Jvm.hb hby d2_22) rfl k) ?_
  refine own_go (B := T1.setTop (mkF m 25 #[.val (.long q), .second, .val (.long vz1), .second] [(.int (27 : Int32)), (.long vz1), (.long vz1)])) (fun t k => XS.bipush X1.here hx rfl (Jvm.hb hby d2_23) k) ?_
  refine own_go (B := T1.setTop (mkF m 26 #[.val (.long q), .second, .val (.long vz1), .second] [(.long ((vz1.toUInt64 >>> ((27 : Int32) &&& 0x3f).toInt64.toUInt64).toInt64)), (.long vz1)])) (fun t k => XS.lushr X1.here hx rfl (Jvm.hb hby d2_25) rfl k) ?_
  refine own_go (B := T1.setTop (mkF m 27 #[.val (.long q), .second, .val (.long vz1), .second] [(.long (vz1 ^^^ ((vz1.toUInt64 >>> ((27 : Int32) &&& 0x3f).toInt64.toUInt64).toInt64)))])) (fun t k => XS.lxor X1.here hx rfl (Jvm.hb hby d2_26) rfl k) ?_
  refine own_go (B := T1.setTop (mkF m 28 #[.val (.long q), .second, .val (.long vz1), .second] [(.long vz1), (.long (vz1 ^^^ ((vz1.toUInt64 >>> ((27 : Int32) &&& 0x3f).toInt64.toUInt64).toInt64)))])) (fun t k => XS.lloadN X1.here hx rfl (Jvm.hb hby d2_27) rfl k) ?_
  refine own_go (B := T1.setTop (mkF m 30 #[.val (.long q), .second, .val (.long vz1), .second] [(.int (54 : Int32)), (.long vz1), (.long (vz1 ^^^ ((vz1.toUInt64 >>> ((27 : Int32) &&& 0x3f).toInt64.toUInt64).toInt64)))])) (fun t k => XS.bipush X1.here hx rfl (Jvm.hb hby d2_28) k) ?_
  refine own_go (B := T1.setTop (mkF m 31 #[.val (.long q), .second, .val (.long vz1), .second] [(.long ((vz1.toUInt64 >>> ((54 : Int32) &&& 0x3f).toInt64.toUInt64).toInt64)), (.long (vz1 ^^^ ((vz1.toUInt64 >>> ((27 : Int32) &&& 0x3f).toInt64.toUInt64).toInt64)))])) (fun t k => XS.lushr X1.here hx rfl (Jvm.hb hby d2_30) rfl k) ?_
  refine own_go (B := T1.setTop (mkF m 32 #[.val (.long q), .second, .val (.long vz1), .second] [(.long ((vz1 ^^^ ((vz1.toUInt64 >>> ((27 : Int32) &&& 0x3f).toInt64.toUInt64).toInt64)) ^^^ ((vz1.toUInt64 >>> ((54 : Int32) &&& 0x3f).toInt64.toUInt64).toInt64)))])) (fun t k => XS.lxor X1.here hx rfl (Jvm.hb hby d2_31) rfl k) ?_
  obtain ⟨vz2, hvz2⟩ : ∃ z : Int64, z = ((vz1 ^^^ ((vz1.toUInt64 >>> ((27 : Int32) &&& 0x3f).toInt64.toUInt64).toInt64)) ^^^ ((vz1.toUInt64 >>> ((54 : Int32) &&& 0x3f).toInt64.toUInt64).toInt64)) := ⟨_, rfl⟩
  rw [← hvz2]
  refine own_go (B := T1.setTop (mkF m 33 #[.val (.long q), .second, .val (.long vz2), .second] [])) (fun t k => XS.lstoreN X1.here hx rfl (Jvm.hb hby d2_32) rfl (l' := #[.val (.long q), .second, .val (.long vz2), .second]) rfl k) ?_
  refine own_go (B := T1.setTop (mkF m 34 #[.val (.long q), .second, .val (.long vz2), .second] [(.long vz2)])) (fun t k => XS.lloadN X1.here hx rfl (Jvm.hb hby d2_33) rfl k) ?_
  refine own_go (B := T1.setTop (mkF m 37 #[.val (.long q), .second, .val (.long vz2), .second] [(.long (-4658895280553007687 : Int64)), (.long vz2)])) (fun t k => X1.ldc2Long hx hown (mvT hZ (own_w hw 15 rfl)) (g := (mkF m 34 #[.val (.long q), .second, .val (.long vz2), .second] [(.long vz2)])) rfl (Jvm.hb hby d2_34) _ k) ?_
  obtain ⟨_, _, ⟨T2, La2, ka2, na2⟩, -, X2, ⟨Lc2, hQ2, l2, y2, z2⟩, st2⟩ := Jvm.LawKit.callS X1 hx (y := (⟨"tessera/SplitMix64MixPinLaw", "inverse", "(J)J"⟩ : MethodName)) hown (mvT hZ (own_w hw 11 rfl)) (mvT hZ (own_w hw 12 rfl)) (mvT hZ (own_w hw 8 rfl)) (mvT hZ (own_w hw 13 rfl)) (by decide) (backOf (W := 2) (rm3 l Z a0 hw [] (-4658895280553007687 : Int64) h0 n0 Zs) hZ (own_w hw 13 rfl) (own_w hw 8 rfl) (by decide) (by decide)) (g := (mkF m 37 #[.val (.long q), .second, .val (.long vz2), .second] [(.long (-4658895280553007687 : Int64)), (.long vz2)])) rfl (by rw [hml]; rfl) (argsL := [(.long (-4658895280553007687 : Int64))]) (rest := [(.long vz2)]) (lenOf pd_0 rfl) rfl (by show 2 * 0 + _ ≤ _; exact Nat.le_of_eq rfl) (Jvm.hb hby d2_37) (fun _ _ => ⟨rfl, e1, (by decide : 0 + 0 ≤ _), (by decide : 0 + 0 ≤ _)⟩)
  dsimp only [Pt.U, Pt.locs, Pt.cells, Pt.slots] at X2 l2 y2 z2 st2 hQ2
  subst l2 y2 z2
  obtain ⟨rfl, N2q, e2⟩ := hQ2
  have N2 := Fr.app N1 N2q
  refine own_go (B := T2.setTop (mkF m 40 #[.val (.long q), .second, .val (.long vz2), .second] [(.long (own_inv (-4658895280553007687 : Int64))), (.long vz2)])) (fun t k => st2 _ k) ?_
  refine own_go (B := T2.setTop (mkF m 41 #[.val (.long q), .second, .val (.long vz2), .second] [(.long (vz2 * (own_inv (-4658895280553007687 : Int64))))])) (fun t k => XS.lmul X2.here hx rfl (Jvm.hb hby d2_40) rfl k) ?_
  obtain ⟨vz3, hvz3⟩ : ∃ z : Int64, z = (vz2 * (own_inv (-4658895280553007687 : Int64))) := ⟨_, rfl⟩
  rw [← hvz3]
  refine own_go (B := T2.setTop (mkF m 42 #[.val (.long q), .second, .val (.long vz3), .second] [])) (fun t k => XS.lstoreN X2.here hx rfl (Jvm.hb hby d2_41) rfl (l' := #[.val (.long q), .second, .val (.long vz3), .second]) rfl k) ?_
  refine own_go (B := T2.setTop (mkF m 43 #[.val (.long q), .second, .val (.long vz3), .second] [(.long vz3)])) (fun t k => XS.lloadN X2.here hx rfl (Jvm.hb hby d2_42) rfl k) ?_
  refine own_go (B := T2.setTop (mkF m 44 #[.val (.long q), .second, .val (.long vz3), .second] [(.long vz3), (.long vz3)])) (fun t k => XS.lloadN X2.here hx rfl (Jvm.hb hby d2_43) rfl k) ?_
  refine own_go (B := T2.setTop (mkF m 46 #[.val (.long q), .second, .val (.long vz3), .second] [(.int (30 : Int32)), (.long vz3), (.long vz3)])) (fun t k => XS.bipush X2.here hx rfl (Jvm.hb hby d2_44) k) ?_
  refine own_go (B := T2.setTop (mkF m 47 #[.val (.long q), .second, .val (.long vz3), .second] [(.long ((vz3.toUInt64 >>> ((30 : Int32) &&& 0x3f).toInt64.toUInt64).toInt64)), (.long vz3)])) (fun t k => XS.lushr X2.here hx rfl (Jvm.hb hby d2_46) rfl k) ?_
  refine own_go (B := T2.setTop (mkF m 48 #[.val (.long q), .second, .val (.long vz3), .second] [(.long (vz3 ^^^ ((vz3.toUInt64 >>> ((30 : Int32) &&& 0x3f).toInt64.toUInt64).toInt64)))])) (fun t k => XS.lxor X2.here hx rfl (Jvm.hb hby d2_47) rfl k) ?_
  refine own_go (B := T2.setTop (mkF m 49 #[.val (.long q), .second, .val (.long vz3), .second] [(.long vz3), (.long (vz3 ^^^ ((vz3.toUInt64 >>> ((30 : Int32) &&& 0x3f).toInt64.toUInt64).toInt64)))])) (fun t k => XS.lloadN X2.here hx rfl (Jvm.hb hby d2_48) rfl k) ?_
  refine own_go (B := T2.setTop (mkF m 51 #[.val (.long q), .second, .val (.long vz3), .second] [(.int (60 : Int32)), (.long vz3), (.long (vz3 ^^^ ((vz3.toUInt64 >>> ((30 : Int32) &&& 0x3f).toInt64.toUInt64).toInt64)))])) (fun t k => XS.bipush X2.here hx rfl (Jvm.hb hby d2_49) k) ?_
  refine own_go (B := T2.setTop (mkF m 52 #[.val (.long q), .second, .val (.long vz3), .second] [(.long ((vz3.toUInt64 >>> ((60 : Int32) &&& 0x3f).toInt64.toUInt64).toInt64)), (.long (vz3 ^^^ ((vz3.toUInt64 >>> ((30 : Int32) &&& 0x3f).toInt64.toUInt64).toInt64)))])) (fun t k => XS.lushr X2.here hx rfl (Jvm.hb hby d2_51) rfl k) ?_
  refine own_go (B := T2.setTop (mkF m 53 #[.val (.long q), .second, .val (.long vz3), .second] [(.long ((vz3 ^^^ ((vz3.toUInt64 >>> ((30 : Int32) &&& 0x3f).toInt64.toUInt64).toInt64)) ^^^ ((vz3.toUInt64 >>> ((60 : Int32) &&& 0x3f).toInt64.toUInt64).toInt64)))])) (fun t k => XS.lxor X2.here hx rfl (Jvm.hb hby d2_52) rfl k) ?_
  obtain ⟨vz4, hvz4⟩ : ∃ z : Int64, z = ((vz3 ^^^ ((vz3.toUInt64 >>> ((30 : Int32) &&& 0x3f).toInt64.toUInt64).toInt64)) ^^^ ((vz3.toUInt64 >>> ((60 : Int32) &&& 0x3f).toInt64.toUInt64).toInt64)) := ⟨_, rfl⟩
  rw [← hvz4]
  refine own_go (B := T2.setTop (mkF m 54 #[.val (.long q), .second, .val (.long vz4), .second] [])) (fun t k => XS.lstoreN X2.here hx rfl (Jvm.hb hby d2_53) rfl (l' := #[.val (.long q), .second, .val (.long vz4), .second]) rfl k) ?_
  refine own_go (B := T2.setTop (mkF m 55 #[.val (.long q), .second, .val (.long vz4), .second] [(.long vz4)])) (fun t k => XS.lloadN X2.here hx rfl (Jvm.hb hby d2_54) rfl k) ?_
  refine own_out X2 (v := (some (.long vz4))) (fun h => by rw [Bd.returns] at h; cases h) Bd.notSynchronized (fun fs hr => retOut X2 hx (t := .long) Bd.returns rfl (Or.inr (Or.inl ⟨rfl, rfl, _, rfl⟩)) (Jvm.hb hby d2_55) hr) ?_ (by decide) (by decide)
  show own_Q2 Z q h0 n0 (some (.long vz4)) T2.heap _
  rw [e2]
  exact ⟨congrArg (fun z => some (Value.long z)) (by subst hvz0; subst hvz1; subst hvz2; subst hvz3; subst hvz4; rfl), N2, rfl⟩
theorem ef_0 (m : MethodId) (x0 : Int64) : entryFrame m #[(.long x0)] maxLocals = mkF m 0 #[.val (.long x0), .second] [] := by first | (simp [entryFrame, mkF, argsToLocals, Value.category, maxLocals]; done) | rfl
def own_Q0 (Z : State) (q1 : Int64) (h0 : Heap) (n0 : Nat) (v : Option Value) (h : Heap) (L : List Loc) : Prop := v = some (.int 1) ∧ Fr n0 L
set_option maxRecDepth 65536 in
set_option maxHeartbeats 40000000 in
theorem rm0 (l : Launch) (Z : State) (a0 : Array Value) (hw : ∀ d ∈ tables_1, d.before a0 Z = true) (ws : List Jvm.Cond) (q1 : Int64) (h0 : Heap) (n0 : Nat) (Z0 : n0 ≤ h0.size)  :
    MetFree l x (head1 (Jvm.Cond.code x code maxLocals ret :: ws) room_1) (fun a U => a = #[(.long q1)] ∧ Z.Warmed39 U.vm ∧ U.heap = h0) (fun _ _ _ _ _ => True) (fun _ U o U' => ∃ v L, o = .returned v ∧ own_Q0 Z q1 h0 n0 v U'.heap L ∧ FrameEnd U o U' L room_1.cells room_1.slots) := by
  refine MetFree.of_bodySF (plainFor_of_name pn_tessera_SplitMix64MixPinLaw) hisR ?_
  intro p e s m args below meth c s₁ Bd hml0 hP hK
  obtain ⟨rfl, hZ, hh⟩ := hP
  have hx := Bd.exec
  have hby := Bd.bytes
  have hml : c.maxLocals = 2 := hml0
  have hown : s.vm.findClass "tessera/SplitMix64MixPinLaw" = some m.cls := findClass_of_methodNamed Bd.named
  have hnm := (name_of_methodNamed Bd.named Bd.method).1
  have X0 : Stand p l e room_1 s m #[(.long q1)] below meth c s₁ [] 0 0 := Stand.of_body Bd
  have e0 : s₁.heap = h0 := by rw [← hh, Bd.state]; rfl
  have N0 := Fr.nil n0
  have Zs := Z0
  show own_Goes p e below s (own_Q0 Z q1 h0 n0) room_1.cells room_1.slots _
  refine own_go (B := s₁.setTop (mkF m 0 #[.val (.long q1), .second] [])) (fun t k => castTop (ef_0 m q1) k) ?_
  refine own_go (B := s₁.setTop (mkF m 1 #[.val (.long q1), .second] [(.long q1)])) (fun t k => XS.lloadN X0.here hx rfl (Jvm.hb hby at_0) rfl k) ?_
  obtain ⟨_, _, ⟨T3, La3, ka3, na3⟩, -, X3, ⟨Lc3, hQ3, l3, y3, z3⟩, st3⟩ := Jvm.LawKit.callS X0 hx (y := (⟨"tessera/SplitMix64", "mix", "(J)J"⟩ : MethodName)) hown (mvT hZ (own_w hw 0 rfl)) (mvT hZ (own_w hw 1 rfl)) (mvT hZ (own_w hw 2 rfl)) (mvT hZ (own_w hw 3 rfl)) (by decide) (backOf (W := 0) (rm1 l Z a0 hw [] q1 h0 n0 Zs) hZ (own_w hw 3 rfl) (own_w hw 2 rfl) (by decide) (by decide)) (g := (mkF m 1 #[.val (.long q1), .second] [(.long q1)])) rfl (by rw [hml]; rfl) (argsL := [(.long q1)]) (rest := []) (lenOf pd_0 rfl) rfl (by show 2 * 0 + _ ≤ _; exact Nat.le_of_eq rfl) (Jvm.hb hby at_1) (fun _ _ => ⟨rfl, e0, (by decide : 0 + 0 ≤ _), (by decide : 0 + 0 ≤ _)⟩)
  dsimp only [Pt.U, Pt.locs, Pt.cells, Pt.slots] at X3 l3 y3 z3 st3 hQ3
  subst l3 y3 z3
  obtain ⟨rfl, N3q, e3⟩ := hQ3
  have N3 := Fr.app N0 N3q
  refine own_go (B := T3.setTop (mkF m 4 #[.val (.long q1), .second] [(.long (own_mix q1))])) (fun t k => st3 _ k) ?_
  obtain ⟨_, _, ⟨T4, La4, ka4, na4⟩, -, X4, ⟨Lc4, hQ4, l4, y4, z4⟩, st4⟩ := Jvm.LawKit.callS X3 hx (y := (⟨"tessera/SplitMix64MixPinLaw", "unmix", "(J)J"⟩ : MethodName)) hown (mvT hZ (own_w hw 6 rfl)) (mvT hZ (own_w hw 7 rfl)) (mvT hZ (own_w hw 8 rfl)) (mvT hZ (own_w hw 9 rfl)) (by decide) (backOf (W := 0) (rm2 l Z a0 hw [] (own_mix q1) h0 n0 Zs) hZ (own_w hw 9 rfl) (own_w hw 8 rfl) (by decide) (by decide)) (g := (mkF m 4 #[.val (.long q1), .second] [(.long (own_mix q1))])) rfl (by rw [hml]; rfl) (argsL := [(.long (own_mix q1))]) (rest := []) (lenOf pd_0 rfl) rfl (by show 2 * 0 + _ ≤ _; exact Nat.le_of_eq rfl) (Jvm.hb hby at_4) (fun _ _ => ⟨rfl, e3, (by decide : 0 + 0 ≤ _), (by decide : 0 + 0 ≤ _)⟩)
  dsimp only [Pt.U, Pt.locs, Pt.cells, Pt.slots] at X4 l4 y4 z4 st4 hQ4
  subst l4 y4 z4
  obtain ⟨rfl, N4q, e4⟩ := hQ4
  have N4 := Fr.app N3 N4q
  refine own_go (B := T4.setTop (mkF m 7 #[.val (.long q1), .second] [(.long (own_unmix (own_mix q1)))])) (fun t k => st4 _ k) ?_
  refine own_go (B := T4.setTop (mkF m 8 #[.val (.long q1), .second] [(.long q1), (.long (own_unmix (own_mix q1)))])) (fun t k => XS.lloadN X4.here hx rfl (Jvm.hb hby at_7) rfl k) ?_
  refine own_go (B := T4.setTop (mkF m 9 #[.val (.long q1), .second] [(.int (lcmpW (own_unmix (own_mix q1)) q1))])) (fun t k => XS.lcmp X4.here hx rfl (Jvm.hb hby at_8) rfl k) ?_
  refine own_go (B := T4.setTop (mkF m 12 #[.val (.long q1), .second] [])) (fun t k => XS.ifNo X4.here hx rfl (Jvm.hb hby at_9) rfl ((if0 _ _).trans (teq ((lw_eq (own_unmix (own_mix q1)) q1).mpr (own_plain q1))).2) k) ?_
  refine own_go (B := T4.setTop (mkF m 13 #[.val (.long q1), .second] [(.int (1 : Int32))])) (fun t k => XS.iconst X4.here hx rfl (Jvm.hb hby at_12) k) ?_
  refine own_go (B := T4.setTop (mkF m 17 #[.val (.long q1), .second] [(.int (1 : Int32))])) (fun t k => XS.goto X4.here hx rfl (pc0 := 13) (pc' := 17) rfl (Jvm.hb hby at_13) (by decide) (by decide) k) ?_
  refine own_out X4 (v := (some (.int (1 : Int32)))) (fun h => by rw [Bd.returns] at h; cases h) Bd.notSynchronized (fun fs hr => retOut X4 hx (t := .boolean) Bd.returns rfl (by first | exact Or.inl ⟨rfl, by simp, _, rfl⟩) (Jvm.hb hby at_17) hr) ?_ (by decide) (by decide)
  show own_Q0 Z q1 h0 n0 (some (.int (1 : Int32))) T4.heap _
  rw [e4]
  exact ⟨rfl, N4⟩
set_option maxRecDepth 65536 in
set_option maxHeartbeats 40000000 in
theorem comes_1 {Post : Tables → Env → Array Value → State → Outcome → State → Prop} (hpost : ∀ tb e args s v u, (limb_1_1.after args s (.returned v) u = true ∧ limb_1_2.after args s (.returned v) u = true ∧ True) → FrameEnd s (.returned v) u (Jvm.fieldLocs frame_1_writes args s ++ Jvm.arrayLocs frame_1_arrays args s ++ Jvm.staticLocs frame_1_statics s) 0 0 → Post tb e args s (.returned v) u) :
    ArmFor flags0 classFile x code maxLocals ret World_1 tables_1 room_1 Calls_1 rest_1 Pre_1 Post := by
  intro l hfl _ _ p e ha hc hk s m args below hf hA hF happ hP
  obtain ⟨hcalls, hrest, hpre⟩ := hP
  obtain ⟨-, -, -, hnamed, -, -, -, hat⟩ := (Spec.applies_iff hf).mp happ
  obtain ⟨hg, hn⟩ := and_e (Cond.before_iff.mp (show (Jvm.Cond.and given_1 narrow_1).before args s = true from hpre))
  obtain ⟨g1a, g1b⟩ := and_e hg
  obtain ⟨w0, rfl⟩ : ∃ w0 : Value, args = #[w0] := by
    have hs : args.size = 1 := by simpa [Cond.value, given_1] using g1a
    obtain ⟨L⟩ := args
    match L, hs with
    | [w0], _ => exact ⟨w0, rfl⟩
  have hw := fun d (hd : d ∈ tables_1) => atoms_spec (ws := Jvm.Cond.code x code maxLocals ret :: tables_1) hat d (List.mem_cons_of_mem _ hd)
  obtain ⟨i0, ei0⟩ := isL_v g1b
  obtain rfl : w0 = (.long i0) := Option.some.inj ei0
  obtain ⟨n, o, h1, h2, h3, _, L, rfl, ⟨rfl, N⟩, hq⟩ := rm0 l s _ hw tables_1 i0 s.heap s.heap.size (Nat.le_refl _) p e ha hc hk s m _ below hf ((Spec.applies_iff_loose hf).mp happ).1 ⟨rfl, State.Warmed39.refl s, rfl⟩ trivial
  refine ⟨n, _, h1, h2, h3, hpost _ _ _ _ _ _ ⟨Cond.after_iff.mpr rfl, Cond.after_iff.mpr (eq_i res_at (Term.int_eval (1)) rfl), trivial⟩ ⟨hq.1, hq.2.1, (hq.2.2.sift fun y hy => Or.inr (N y hy)).mono (by decide) (by decide)⟩⟩
theorem main_1_1 : Claimed_1_1 := comes_1 fun _ _ _ _ _ _ h hF => ⟨h.1, hF⟩
theorem main_1_2 : Claimed_1_2 := comes_1 fun _ _ _ _ _ _ h hF => ⟨h.2.1, hF⟩
end Jvm.Pilot.@@N@@
namespace Jvm.Pilot.@@N@@
open Jvm Jvm.ClassFile Sem Op Lib Jvm.Free Jvm.Stand Jvm.Pilot.@@N@@.Jvm.D
/-! MADE BY PROGRAM (witnessworld.py) out of the Statement's table words and the real class files: 9 classes; the members and pool entries that the words name. The judged class is class 1, her method 3. -/
namespace start1
open Jvm.ClassFile
def u (s : String) : CpInfo := .utf8 (stringToUtf16 s)
/-- a pool by its gaps: so many unusable entries, then the entry; so many at the end -/
def gap : Nat → List CpInfo → List CpInfo
  | 0, r => r
  | n + 1, r => .unusable :: gap n r
def poolList (es : List (Nat × CpInfo)) (last : Nat) : List CpInfo := es.foldr (fun e r => gap e.1 (e.2 :: r)) (gap last [])
def pool (es : List (Nat × CpInfo)) (last : Nat) : Array CpInfo := ⟨poolList es last⟩
def fileOf (pool : Array CpInfo) (this : Nat) (attrs : Array Attribute := #[]) (ms : Array MethodInfo := #[]) (fl : Nat := 33) (sup : Nat := 0) (ifs : Array Nat := #[]) (fds : Array FieldInfo := #[]) : ClassFile where
  minorVersion := 0
  majorVersion := 65
  constantPool := pool
  accessFlags := fl
  thisClass := this
  superClass := sup
  interfaces := ifs
  fields := fds
  methods := ms
  attributes := attrs
def plain (name : String) (sup : Option ClassId) : Class where
  name := name
  kind := .ordinary
  loader := none
  accessFlags := 33
  super := sup
  interfaces := #[]
  cf := none
  fields := #[]
  methods := #[]
  instanceTypes := #[]
  staticTypes := #[]
  resolved := #[]
  callSites := []
  init := .initialized
  statics := none
  mirror := none

def pool0 : Array CpInfo := pool [(5, u "<init>"), (0, u "()V"), (1, .class_ 10), (1, u "java/lang/Object")] 113

def k0m0 : Method := { name := "<init>", desc := "()V", sig := { parameters := [], returnType := none }, accessFlags := 1, code := none }
/-- java/lang/Object -/
def k0 : Class := { plain "java/lang/Object" none with
  accessFlags := 33
  interfaces := #[]
  cf := some (fileOf pool0 8 #[] #[{ accessFlags := 1, nameIndex := 5, descriptorIndex := 6, attributes := #[] }] 33 0 #[] #[])
  fields := #[]
  methods := #[k0m0]
  instanceTypes := #[]
  staticTypes := #[]
  resolved := Array.replicate 124 none
  statics := none }

def pool1 : Array CpInfo := pool [(2, .class_ 4), (1, u "java/lang/Object"), (0, u "<init>"), (0, u "()V"), (0, .long 2), (1, .long 10723151780598845931), (1, .methodref 12 13), (0, .class_ 14), (0, .nameAndType 15 16), (0, u "tessera/SplitMix64MixPinLaw"), (0, u "inverse"), (0, u "(J)J"), (0, .long 13787848793156543929), (1, .methodref 20 21), (0, .class_ 22), (0, .nameAndType 23 16), (0, u "tessera/SplitMix64"), (0, u "mix"), (0, .methodref 12 25), (0, .nameAndType 26 16), (0, u "unmix"), (2, u "law"), (0, u "(J)Z")] 3

def k1m0 : Method := { name := "<init>", desc := "()V", sig := { parameters := [], returnType := none }, accessFlags := 2, code := none }
def k1c1 : Code := { maxStack := 8, maxLocals := 4, code := method_2_code, exceptionTable := #[], attributes := #[] }
def k1m1 : Method := { name := "inverse", desc := "(J)J", sig := { parameters := [.long], returnType := some .long }, accessFlags := 10, code := some k1c1 }
def k1c2 : Code := { maxStack := 5, maxLocals := 4, code := method_3_code, exceptionTable := #[], attributes := #[] }
def k1m2 : Method := { name := "unmix", desc := "(J)J", sig := { parameters := [.long], returnType := some .long }, accessFlags := 10, code := some k1c2 }
def k1c3 : Code := { maxStack := 4, maxLocals := 2, code := code, exceptionTable := #[], attributes := #[] }
def k1m3 : Method := { name := "law", desc := "(J)Z", sig := { parameters := [.long], returnType := some .boolean }, accessFlags := 9, code := some k1c3 }
/-- tessera/SplitMix64MixPinLaw -/
def k1 : Class := { plain "tessera/SplitMix64MixPinLaw" (some 0) with
  accessFlags := 49
  interfaces := #[]
  cf := some (fileOf pool1 12 #[] #[{ accessFlags := 2, nameIndex := 5, descriptorIndex := 6, attributes := #[] }, { accessFlags := 10, nameIndex := 15, descriptorIndex := 16, attributes := #[] }, { accessFlags := 10, nameIndex := 26, descriptorIndex := 16, attributes := #[] }, { accessFlags := 9, nameIndex := 29, descriptorIndex := 30, attributes := #[] }] 49 2 #[] #[])
  fields := #[]
  methods := #[k1m0, k1m1, k1m2, k1m3]
  instanceTypes := #[]
  staticTypes := #[]
  resolved := Array.replicate 34 none
  statics := none }

def pool2 : Array CpInfo := pool [(2, .class_ 4), (1, u "java/lang/Object"), (3, .class_ 10), (1, u "tessera/SplitMix64"), (0, u "mix"), (0, u "(J)J"), (2, u "state"), (0, u "J"), (16, .long 13787848793156543929), (1, .long 10723151780598845931), (1, u "GOLDEN_GAMMA"), (1, u "UNIT"), (0, u "D")] 9

def k2c0 : Code := { maxStack := 5, maxLocals := 4, code := prog_58_method_6_code, exceptionTable := #[], attributes := #[] }
def k2m0 : Method := { name := "mix", desc := "(J)J", sig := { parameters := [.long], returnType := some .long }, accessFlags := 8, code := some k2c0 }
/-- tessera/SplitMix64 -/
def k2 : Class := { plain "tessera/SplitMix64" (some 0) with
  accessFlags := 48
  interfaces := #[]
  cf := some (fileOf pool2 8 #[] #[{ accessFlags := 8, nameIndex := 11, descriptorIndex := 12, attributes := #[] }] 48 2 #[] #[{ accessFlags := 26, nameIndex := 37, descriptorIndex := 16, attributes := #[] }, { accessFlags := 26, nameIndex := 39, descriptorIndex := 40, attributes := #[] }, { accessFlags := 2, nameIndex := 15, descriptorIndex := 16, attributes := #[] }])
  fields := #[{ name := "GOLDEN_GAMMA", type := .long, accessFlags := 26, slot := 0, constantValue := 0 }, { name := "UNIT", type := .double, accessFlags := 26, slot := 1, constantValue := 0 }, { name := "state", type := .long, accessFlags := 2, slot := 0, constantValue := 0 }]
  methods := #[k2m0]
  instanceTypes := #[.long]
  staticTypes := #[.long, .double]
  resolved := Array.replicate 50 none
  statics := none }

def pool3 : Array CpInfo := pool [(1, u "java/lang/Cloneable"), (0, .class_ 1), (0, u "java/lang/Object"), (0, .class_ 3)] 3

/-- java/lang/Cloneable -/
def k3 : Class := { plain "java/lang/Cloneable" (some 0) with
  accessFlags := 1537
  interfaces := #[]
  cf := some (fileOf pool3 2 #[] #[] 1537 4 #[] #[])
  fields := #[]
  methods := #[]
  instanceTypes := #[]
  staticTypes := #[]
  resolved := Array.replicate 8 none
  statics := none }

def pool4 : Array CpInfo := pool [(1, u "java/io/Serializable"), (0, .class_ 1), (0, u "java/lang/Object"), (0, .class_ 3)] 3

/-- java/io/Serializable -/
def k4 : Class := { plain "java/io/Serializable" (some 0) with
  accessFlags := 1537
  interfaces := #[]
  cf := some (fileOf pool4 2 #[] #[] 1537 4 #[] #[])
  fields := #[]
  methods := #[]
  instanceTypes := #[]
  staticTypes := #[]
  resolved := Array.replicate 8 none
  statics := none }

/-- the primitive byte -/
def k5 : Class := { plain "byte" none with kind := .primitive 'B', accessFlags := 0x411 }
/-- [B -/
def k6 : Class := { plain "[B" (some 0) with kind := .array 5 .byte, interfaces := #[3, 4], accessFlags := 1041 }

/-- the primitive int -/
def k7 : Class := { plain "int" none with kind := .primitive 'I', accessFlags := 0x411 }
/-- [I -/
def k8 : Class := { plain "[I" (some 0) with kind := .array 7 .int, interfaces := #[3, 4], accessFlags := 1041 }

def heap : Heap := #[]
def classes : Array Class := #[k0, k1, k2, k3, k4, k5, k6, k7, k8]
def interned : List (Array UInt16 × Addr) := []
def slotsUsed : Nat := 0
def theMethod : MethodId := ⟨1, 3⟩
def args0 : Array Value := #[.long 5]
def aboutOver (below : List Frame) : State where
  vm := { classes := classes, interned := interned.toArray }
  heap := heap
  slotsUsed := slotsUsed
  threads := #[{ frames := .invoking theMethod args0 :: below }]
def below0 : List Frame := [.native { method := ⟨0, 0⟩, args := #[] }]
def about1 : State := aboutOver below0
def p0 : Program := .bare "" "" ""
def e0 : Env := launch0.env 0 0 0
theorem w_frames : about1.frames = Frame.invoking theMethod args0 :: below0 := rfl
set_option maxRecDepth 65536 in
theorem w_args : argsFit about1.vm theMethod args0 = true := by decide +kernel
set_option maxRecDepth 65536 in
theorem w_heap : heapFits about1 = true := by decide +kernel
set_option maxRecDepth 65536 in
theorem w_runnable : about1.curStatus? = some .runnable := by decide +kernel
set_option maxRecDepth 65536 in
theorem w_alone : about1.alone = true := by decide +kernel
set_option maxRecDepth 65536 in
theorem w_named : about1.methodNamed? x = some theMethod := by decide +kernel
set_option maxRecDepth 65536 in
theorem w_hears : about1.hears theMethod below0 = true := by decide +kernel
set_option maxRecDepth 65536 in
theorem w_ripe : about1.ripe theMethod args0 below0 = true := by decide +kernel
theorem w_running : about1.status = .running := rfl
set_option maxRecDepth 65536 in
theorem w_room : about1.hasRoom e0.platform room_1 = true :=
  launch0.hasRoom_least _ room_1 (by decide +kernel) (by decide +kernel) (by decide +kernel) (by decide +kernel) (by decide +kernel) (by decide +kernel)
theorem allAtoms_all (ts : List Jvm.Cond) (a : Array Jvm.Value) (st : Jvm.State) : (allAtoms ts).before a st = ts.all (fun c => c.before a st) := by
  induction ts with
  | nil => rfl
  | cons c t ih =>
    show (Jvm.Cond.and c (allAtoms t)).before a st = _
    rw [Jvm.Cond.before_and, ih, List.all_cons]
def words1 : List Jvm.Cond := Jvm.Cond.code x code maxLocals ret :: tables_1
/-- a 'code' word, met by the world's own term for the bytes: nothing is compared byte by byte -/
theorem code_word {y : MethodName} {bytes : ByteArray} {mx : Nat} {rt : Option FieldType} {a : Array Value} {s : State} {m : MethodId} {meth : Method} {c : Code} (h1 : s.methodNamed? y = some m) (h2 : s.vm.method? m = some meth) (h3 : meth.code = some c) (h4 : c.code = bytes)
    (h5 : (c.maxLocals == mx && c.exceptionTable.isEmpty && decide (c.maxStack ≤ mostOperands) && decide (meth.sig.returnType = rt) && !meth.locks && decide (parseMethodDescriptor y.desc = some meth.sig)) = true) : (Jvm.Cond.code y bytes mx rt).before a s = true := by
  simp only [Bool.and_eq_true, beq_iff_eq, Bool.not_eq_true', decide_eq_true_eq] at h5
  obtain ⟨⟨⟨⟨⟨g1, g2⟩, g3⟩, g4⟩, g5⟩, g6⟩ := h5
  simp [Cond.before, Cond.holds, Cond.value, h1, h2, h3, h4, g1, g2, g3, g4, g5, g6]
def isCode : Jvm.Cond → Bool
  | .code _ _ _ _ => true
  | _ => false
theorem all_split {L : List Jvm.Cond} {P : Jvm.Cond → Bool} (h1 : L.all (fun c => isCode c || P c) = true) (h2 : ∀ c ∈ L.filter isCode, P c = true) : L.all P = true := by
  refine List.all_eq_true.mpr fun c hc => ?_
  have h := List.all_eq_true.mp h1 c hc
  rcases Bool.eq_false_or_eq_true (isCode c) with hi | hi
  · exact h2 c (List.mem_filter.mpr ⟨hc, hi⟩)
  · simpa [hi] using h
set_option maxRecDepth 65536 in
theorem w_c0 : (Jvm.Cond.code x code maxLocals ret).before args0 about1 = true := code_word (m := ⟨1, 3⟩) (meth := k1m3) (c := k1c3) (by decide +kernel) rfl rfl rfl (by decide +kernel)
set_option maxRecDepth 65536 in
theorem w_c1 : (Jvm.Cond.code ({ cls := "tessera/SplitMix64", name := "mix", desc := "(J)J" } : Jvm.MethodName) prog_58_method_6_code (4 : Nat) (Option.some Jvm.ClassFile.FieldType.long)).before args0 about1 = true := code_word (m := ⟨2, 0⟩) (meth := k2m0) (c := k2c0) (by decide +kernel) rfl rfl rfl (by decide +kernel)
set_option maxRecDepth 65536 in
theorem w_c2 : (Jvm.Cond.code ({ cls := "tessera/SplitMix64MixPinLaw", name := "unmix", desc := "(J)J" } : Jvm.MethodName) method_3_code (4 : Nat) (Option.some Jvm.ClassFile.FieldType.long)).before args0 about1 = true := code_word (m := ⟨1, 2⟩) (meth := k1m2) (c := k1c2) (by decide +kernel) rfl rfl rfl (by decide +kernel)
set_option maxRecDepth 65536 in
theorem w_c3 : (Jvm.Cond.code ({ cls := "tessera/SplitMix64MixPinLaw", name := "inverse", desc := "(J)J" } : Jvm.MethodName) method_2_code (4 : Nat) (Option.some Jvm.ClassFile.FieldType.long)).before args0 about1 = true := code_word (m := ⟨1, 1⟩) (meth := k1m1) (c := k1c1) (by decide +kernel) rfl rfl rfl (by decide +kernel)
def codes1 : List Jvm.Cond := [Jvm.Cond.code x code maxLocals ret, Jvm.Cond.code ({ cls := "tessera/SplitMix64", name := "mix", desc := "(J)J" } : Jvm.MethodName) prog_58_method_6_code (4 : Nat) (Option.some Jvm.ClassFile.FieldType.long), Jvm.Cond.code ({ cls := "tessera/SplitMix64MixPinLaw", name := "unmix", desc := "(J)J" } : Jvm.MethodName) method_3_code (4 : Nat) (Option.some Jvm.ClassFile.FieldType.long), Jvm.Cond.code ({ cls := "tessera/SplitMix64MixPinLaw", name := "inverse", desc := "(J)J" } : Jvm.MethodName) method_2_code (4 : Nat) (Option.some Jvm.ClassFile.FieldType.long)]
set_option maxRecDepth 65536 in
theorem codes_eq : words1.filter isCode = codes1 := rfl
theorem w_codes : ∀ c ∈ words1.filter isCode, c.before args0 about1 = true := by
  rw [codes_eq]
  intro c hc
  simp only [codes1, List.mem_cons, List.not_mem_nil, or_false] at hc
  rcases hc with rfl | rfl | rfl | rfl
  · exact w_c0
  · exact w_c1
  · exact w_c2
  · exact w_c3
set_option maxRecDepth 65536 in
theorem w_t1 : words1.all (fun c => isCode c || c.before args0 about1) = true := by decide +kernel
theorem w_tables : (allAtoms (Jvm.Cond.code x code maxLocals ret :: tables_1)).before args0 about1 = true := by
  rw [allAtoms_all]
  show words1.all (fun c => c.before args0 about1) = true
  refine all_split ?_ w_codes
  rw [w_t1]
set_option maxRecDepth 65536 in
theorem w_case : (Jvm.Cond.and given_1 narrow_1).before args0 about1 = true := by decide +kernel
theorem w_applies : (headSpec (Jvm.Cond.code x code maxLocals ret :: tables_1) room_1).applies x e0.platform about1 = true :=
  (Spec.applies_iff w_frames).mpr ⟨w_running, w_runnable, w_alone, w_named, w_hears, w_ripe, w_room, w_tables⟩
theorem atStart : AtStart classFile x code maxLocals ret World_1 tables_1 room_1 Calls_1 rest_1 Pre_1 launch0 p0 e0 about1 theMethod args0 below0 :=
  ⟨lists_1, trivial, launch0.admits_env _ _ _, launch0.least_env, fairChoices_fair.cas, fairChoices_fair.clock, w_frames, w_args, w_heap, w_applies, trivial, trivial, w_case⟩
end start1
theorem witness_1 : WitnessClaimed_1 := ⟨start1.p0, start1.e0, start1.about1, start1.theMethod, start1.args0, start1.below0, start1.atStart⟩
end Jvm.Pilot.@@N@@
