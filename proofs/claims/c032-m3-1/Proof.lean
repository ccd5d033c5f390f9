import JvmDerived
import JvmDerived.Pilot.@@N@@Statement
import JvmDerived.Pilot.@@N@@Code
set_option linter.unusedVariables false
set_option linter.unusedSimpArgs false
namespace Jvm.Pilot.@@N@@
open Jvm Jvm.ClassFile Sem Op Lib Jvm.Free Jvm.Stand Jvm.LawKit Jvm.RoadKit Bundle Jvm.Pilot.@@N@@.Jvm.D
section Own
variable {p : Program} {l : Launch} {e : Env} {R : Room} {s : State} {m : MethodId} {args : Array Value} {below : List Frame} {meth : Method} {c : Code} {T : State} {locs : List Loc} {cells slots : Nat} {Z : State} {h h' : Heap} {a b : Addr}
/-- from A the run comes to its return, and Q holds there -/
def own_Goes (p : Program) (e : Env) (below : List Frame) (s : State) (Q : Option Value → Heap → List Loc → Prop) (kc ks : Nat) (A : State) : Prop :=
  ∃ s₂ o, Steps p.tables e below A s₂ ∧ s₂.status = .running ∧ Ended s₂ below o ∧ ∃ v L, o = .returned v ∧ Q v s₂.heap L ∧ FrameEnd s o s₂ L kc ks
theorem own_go {Q : Option Value → Heap → List Loc → Prop} {kc ks : Nat} {A B : State} (st : ∀ t, Steps p.tables e below B t → Steps p.tables e below A t) (k : own_Goes p e below s Q kc ks B) : own_Goes p e below s Q kc ks A := by
  obtain ⟨s2, o, h1, h2⟩ := k
  exact ⟨s2, o, st _ h1, h2⟩
theorem own_w {a0 : Array Value} {Z : State} (hw : ∀ d ∈ tables_1, d.before a0 Z = true) (i : Nat) {d : Jvm.Cond} (h : tables_1[i]? = some d) : d.before a0 Z = true := hw d (List.mem_of_getElem? h)
theorem own_selP {y y' : MethodName} (hs : (Cond.selects y'.cls y' y').before args s = true) (he : y.cls = y'.cls) (hpriv : s.PrivateAt y) (hinst : (Cond.instanceMethod y).before args s = true) (hy : y.cls ≠ "java/lang/invoke/MethodHandle" ∧ y.cls ≠ "java/lang/invoke/VarHandle") : (Cond.selects y.cls y y).before args s = true := by
  obtain ⟨c2, r2, m2, q1, q2, q3, q4, kP, hkP, hkPi⟩ := Cond.selects_spec hs
  exact selects_self_of_private (by rw [he]; exact findClass_of_methodNamed q3) hkP hkPi hpriv hinst hy
theorem own_st {tb : Tables} {A B t : State} (h1 : Steps tb e below A B) (k : Steps tb e below B t) : Steps tb e below A t := h1.trans k
theorem own_out {Q : Option Value → Heap → List Loc → Prop} {kc ks : Nat} {A : State} (X : Stand p l e R s m args below meth c T locs cells slots) {v : Option Value} (hv : meth.sig.returnType = none → v = none) (hlk : meth.locks = false)
    (st : ∀ fs, (∀ (f : JFrame) (acts : List Action), f.method = m → f.locked = none → f.entered = [] → (doReturn e (T.setTop f) acts v).1 = T.setFrames fs) → Steps p.tables e below A (T.setFrames fs))
    (hq : Q v T.heap locs) (hc : cells ≤ kc) (hs : slots ≤ ks) : own_Goes p e below s Q kc ks A := by
  obtain ⟨fs, hr, hrun, hended, hW, hsame⟩ := X.leave hv hlk
  exact ⟨_, _, st fs hr, hrun, hended, _, _, rfl, hq, ⟨_, rfl⟩, hW, hsame.mono hc hs⟩
theorem own_irem {tb : Tables} [Ours tb] {T target : State} {g : JFrame} (h : At T m c below) (hx : tb.exec = Jvm.exec) (hg : g.method = m) {x y : Int32} {rest : List Value} (hd : decode c.code g.pc = .ok (.irem, 1)) (hs : g.stack = .int y :: .int x :: rest) (hy : y ≠ 0)
    (hr : Steps tb e below (T.setTop { g with pc := g.pc + 1, stack := .int (x % y) :: rest }) target) : Steps tb e below (T.setTop g) target := XS.irem h hx hg hd hs hy (by rw [irem_eq_mod]; exact hr)
theorem own_lrem {tb : Tables} [Ours tb] {T target : State} {g : JFrame} (h : At T m c below) (hx : tb.exec = Jvm.exec) (hg : g.method = m) {x y : Int64} {rest : List Value} (hd : decode c.code g.pc = .ok (.lrem, 1)) (hs : g.stack = .long y :: .long x :: rest) (hy : y ≠ 0)
    (hr : Steps tb e below (T.setTop { g with pc := g.pc + 1, stack := .long (x % y) :: rest }) target) : Steps tb e below (T.setTop g) target := XS.lrem h hx hg hd hs hy (by rw [lrem_mod]; exact hr)
/-- an array of ints (bytes, booleans): its length, and what each place holds -/
def own_IA (Z : State) (h : Heap) (a : Addr) (ty : FieldType) (n : Nat) (f : Nat → Int32) : Prop := ∃ c : Cell, Arr Z h a c ty ∧ c.slots.size = n ∧ ∀ i, i < n → c.slots[i]? = some (.int (f i))
/-- an array of longs -/
def own_LA (Z : State) (h : Heap) (a : Addr) (n : Nat) (f : Nat → Int64) : Prop := ∃ c : Cell, Arr Z h a c .long ∧ c.slots.size = n ∧ ∀ i, i < n → c.slots[i]? = some (.long (f i))
def own_upd {α : Type} (f : Nat → α) (j : Nat) (x : α) (i : Nat) : α := if i = j then x else f i
theorem own_upd_hit {α : Type} (f : Nat → α) (j : Nat) (x : α) : own_upd f j x j = x := if_pos rfl
theorem own_upd_miss {α : Type} (f : Nat → α) {i j : Nat} (x : α) (q : i ≠ j) : own_upd f j x i = f i := if_neg q
section Arrays
variable {ty : FieldType} {n : Nat} {f : Nat → Int32} {fl : Nat → Int64} {sl : Nat} {v : Value} {ws : List Addr}
theorem own_IA.lt (F : own_IA Z h a ty n f) : a < h.size := by obtain ⟨c, A, -⟩ := F; exact A.lt
theorem own_LA.lt (F : own_LA Z h a n fl) : a < h.size := by obtain ⟨c, A, -⟩ := F; exact A.lt
theorem own_IA.ext (F : own_IA Z h a ty n f) (E : Ext h h') : own_IA Z h' a ty n f := by obtain ⟨c, A, r⟩ := F; exact ⟨c, A.ext E, r⟩
theorem own_LA.ext (F : own_LA Z h a n fl) (E : Ext h h') : own_LA Z h' a n fl := by obtain ⟨c, A, r⟩ := F; exact ⟨c, A.ext E, r⟩
theorem own_IA.other (F : own_IA Z h b ty n f) (W : Wr h h' a sl v) (q : b ≠ a) : own_IA Z h' b ty n f := by obtain ⟨c, A, r⟩ := F; exact ⟨c, A.other W q, r⟩
theorem own_LA.other (F : own_LA Z h b n fl) (W : Wr h h' a sl v) (q : b ≠ a) : own_LA Z h' b n fl := by obtain ⟨c, A, r⟩ := F; exact ⟨c, A.other W q, r⟩
theorem own_IA.keep (F : own_IA Z h a ty n f) (K : Keep h h' ws) (q : a ∉ ws) : own_IA Z h' a ty n f := by obtain ⟨c, A, r⟩ := F; exact ⟨c, ⟨K.2.1 a c A.1 q, A.2⟩, r⟩
theorem own_LA.keep (F : own_LA Z h a n fl) (K : Keep h h' ws) (q : a ∉ ws) : own_LA Z h' a n fl := by obtain ⟨c, A, r⟩ := F; exact ⟨c, ⟨K.2.1 a c A.1 q, A.2⟩, r⟩
theorem own_IA.cong {g : Nat → Int32} (F : own_IA Z h a ty n f) (q : ∀ i, i < n → f i = g i) : own_IA Z h a ty n g := by obtain ⟨c, A, r, u⟩ := F; exact ⟨c, A, r, fun i hi => by rw [u i hi, q i hi]⟩
theorem own_LA.cong {g : Nat → Int64} (F : own_LA Z h a n fl) (q : ∀ i, i < n → fl i = g i) : own_LA Z h a n g := by obtain ⟨c, A, r, u⟩ := F; exact ⟨c, A, r, fun i hi => by rw [u i hi, q i hi]⟩
theorem own_in {cl : Cell} {j : Int32} {k : Nat} (S : cl.slots.size = n) (h1 : ¬ j < 0) (hk : j.toNatClampNeg = k) (h2 : k < n) : ¬ (j < 0 ∨ cl.slots.size ≤ j.toNatClampNeg) := by
  rintro (q | q)
  · exact h1 q
  · rw [S, hk] at q; exact absurd h2 (Nat.not_lt.mpr q)
theorem own_set {cl : Cell} {k : Nat} (S : cl.slots.size = n) (h2 : k < n) (v : Value) (i : Nat) : (cl.setSlot k v).slots[i]? = if i = k then some v else cl.slots[i]? := by
  by_cases q : i = k
  · subst q; rw [if_pos rfl]; exact Array.getElem?_setIfInBounds_self_of_lt (by rw [S]; exact h2)
  · rw [if_neg q]; exact Array.getElem?_setIfInBounds_ne (fun z => q z.symm)
theorem own_Inew {k : ClassId} {z : Int32} (A : Arr Z h a (newA k ty z) ty) (hz : z.toNatClampNeg = n) (hd : defaultValue ty = .int 0) : own_IA Z h a ty n (fun _ => 0) := by
  refine ⟨_, A, by rw [sz_new, hz], fun i hi => ?_⟩
  show (Array.replicate z.toNatClampNeg (defaultValue ty))[i]? = _
  rw [hz, hd, Array.getElem?_replicate, if_pos hi]
theorem own_Lnew {k : ClassId} {z : Int32} (A : Arr Z h a (newA k .long z) .long) (hz : z.toNatClampNeg = n) : own_LA Z h a n (fun _ => 0) := by
  refine ⟨_, A, by rw [sz_new, hz], fun i hi => ?_⟩
  show (Array.replicate z.toNatClampNeg (defaultValue .long))[i]? = _
  rw [hz, Array.getElem?_replicate, if_pos hi]; rfl
theorem own_iaload (X : Stand p l e R s m args below meth c T locs cells slots) (hx : p.tables.exec = Jvm.exec) (hZ : Z.Warmed39 s.vm) (eT : T.heap = h) (V : own_IA Z h a .int n f) {j : Int32} {k : Nat} (h1 : ¬ j < 0) (hk : j.toNatClampNeg = k) (h2 : k < n) {pc : Nat} {Ls : Array Slot} {rest : List Value} (hd : decode c.code pc = .ok (.iaload, 1)) (t : State)
    (kk : Steps p.tables e below (T.setTop (mkF m (pc + 1) Ls (.int (f k) :: rest))) t) : Steps p.tables e below (T.setTop (mkF m pc Ls (.int j :: .ref a :: rest))) t := by
  obtain ⟨cl, A, S, H⟩ := V
  exact X.iaload hx (j := j) (v := .int (f k)) (by rw [eT]; exact A.1) (State.isArrayOf_alike hZ.alike A.2.1) A.2.2 (own_in S h1 hk h2) (by rw [hk]; exact H _ h2) (g := mkF m pc Ls (.int j :: .ref a :: rest)) rfl rfl hd t kk
theorem own_baload (X : Stand p l e R s m args below meth c T locs cells slots) (hx : p.tables.exec = Jvm.exec) (hZ : Z.Warmed39 s.vm) (eT : T.heap = h) (V : own_IA Z h a .byte n f) {j : Int32} {k : Nat} (h1 : ¬ j < 0) (hk : j.toNatClampNeg = k) (h2 : k < n) {pc : Nat} {Ls : Array Slot} {rest : List Value} (hd : decode c.code pc = .ok (.baload, 1)) (t : State)
    (kk : Steps p.tables e below (T.setTop (mkF m (pc + 1) Ls (.int (f k) :: rest))) t) : Steps p.tables e below (T.setTop (mkF m pc Ls (.int j :: .ref a :: rest))) t := by
  obtain ⟨cl, A, S, H⟩ := V
  exact X.baloadBytes hx (j := j) (v := .int (f k)) (by rw [eT]; exact A.1) (State.isArrayOf_alike hZ.alike A.2.1) A.2.2 (own_in S h1 hk h2) (by rw [hk]; exact H _ h2) (g := mkF m pc Ls (.int j :: .ref a :: rest)) rfl rfl hd t kk
theorem own_laload (X : Stand p l e R s m args below meth c T locs cells slots) (hx : p.tables.exec = Jvm.exec) (hZ : Z.Warmed39 s.vm) (eT : T.heap = h) (V : own_LA Z h a n fl) {j : Int32} {k : Nat} (h1 : ¬ j < 0) (hk : j.toNatClampNeg = k) (h2 : k < n) {pc : Nat} {Ls : Array Slot} {rest : List Value} (hd : decode c.code pc = .ok (.laload, 1)) (t : State)
    (kk : Steps p.tables e below (T.setTop (mkF m (pc + 1) Ls (.long (fl k) :: rest))) t) : Steps p.tables e below (T.setTop (mkF m pc Ls (.int j :: .ref a :: rest))) t := by
  obtain ⟨cl, A, S, H⟩ := V
  exact X.laload hx (j := j) (v := .long (fl k)) (by rw [eT]; exact A.1) (State.isArrayOf_alike hZ.alike A.2.1) A.2.2 (own_in S h1 hk h2) (by rw [hk]; exact H _ h2) (g := mkF m pc Ls (.int j :: .ref a :: rest)) rfl rfl hd t kk
theorem own_alen (X : Stand p l e R s m args below meth c T locs cells slots) (hx : p.tables.exec = Jvm.exec) (hZ : Z.Warmed39 s.vm) (eT : T.heap = h) (V : own_IA Z h a ty n f) {z : Int32} (hl : n.toInt32 = z) {pc : Nat} {Ls : Array Slot} {rest : List Value} (hd : decode c.code pc = .ok (.arraylength, 1)) (t : State)
    (kk : Steps p.tables e below (T.setTop (mkF m (pc + 1) Ls (.int z :: rest))) t) : Steps p.tables e below (T.setTop (mkF m pc Ls (.ref a :: rest))) t := by
  obtain ⟨cl, A, S, H⟩ := V
  exact X.arraylength hx (by rw [eT]; exact A.1) (State.isArrayOf_alike hZ.alike A.2.1) (g := mkF m pc Ls (.ref a :: rest)) rfl rfl hd t (by rw [S, hl]; exact kk)
theorem own_alenL (X : Stand p l e R s m args below meth c T locs cells slots) (hx : p.tables.exec = Jvm.exec) (hZ : Z.Warmed39 s.vm) (eT : T.heap = h) (V : own_LA Z h a n fl) {z : Int32} (hl : n.toInt32 = z) {pc : Nat} {Ls : Array Slot} {rest : List Value} (hd : decode c.code pc = .ok (.arraylength, 1)) (t : State)
    (kk : Steps p.tables e below (T.setTop (mkF m (pc + 1) Ls (.int z :: rest))) t) : Steps p.tables e below (T.setTop (mkF m pc Ls (.ref a :: rest))) t := by
  obtain ⟨cl, A, S, H⟩ := V
  exact X.arraylength hx (by rw [eT]; exact A.1) (State.isArrayOf_alike hZ.alike A.2.1) (g := mkF m pc Ls (.ref a :: rest)) rfl rfl hd t (by rw [S, hl]; exact kk)
theorem own_iastore (X : Stand p l e R s m args below meth c T locs cells slots) (hx : p.tables.exec = Jvm.exec) (hZ : Z.Warmed39 s.vm) (eT : T.heap = h) (V : own_IA Z h a .int n f) {j x : Int32} {k : Nat} (h1 : ¬ j < 0) (hk : j.toNatClampNeg = k) (h2 : k < n) {g : JFrame} (hg : g.method = m) {rest : List Value} (hs : g.stack = .int x :: .int j :: .ref a :: rest) (hd : decode c.code g.pc = .ok (.iastore, 1)) :
    ∃ T' h', Stand p l e R s m args below meth c T' (locs ++ [⟨a, k⟩]) cells slots ∧ T'.heap = h' ∧ Wr h h' a k (.int x) ∧ own_IA Z h' a .int n (own_upd f k x) ∧ ∀ target, Steps p.tables e below (T'.setTop { g with pc := g.pc + 1, stack := rest }) target → Steps p.tables e below (T.setTop g) target := by
  obtain ⟨cl, A, S, H⟩ := V
  obtain ⟨T', h', X', e', W, st⟩ := stI X hx hZ eT A (own_in S h1 hk h2) hg hs hd
  rw [hk] at X' W
  refine ⟨T', h', X', e', W, ⟨_, A.same W, by rw [sz_set, S], fun i hi => ?_⟩, st⟩
  rw [own_set S h2]; unfold own_upd
  by_cases q : i = k
  · rw [if_pos q, if_pos q]
  · rw [if_neg q, if_neg q]; exact H i hi
theorem own_bastore (X : Stand p l e R s m args below meth c T locs cells slots) (hx : p.tables.exec = Jvm.exec) (hZ : Z.Warmed39 s.vm) (eT : T.heap = h) (V : own_IA Z h a .byte n f) {j x : Int32} {k : Nat} (h1 : ¬ j < 0) (hk : j.toNatClampNeg = k) (h2 : k < n) {g : JFrame} (hg : g.method = m) {rest : List Value} (hs : g.stack = .int x :: .int j :: .ref a :: rest) (hd : decode c.code g.pc = .ok (.bastore, 1)) :
    ∃ T' h', Stand p l e R s m args below meth c T' (locs ++ [⟨a, k⟩]) cells slots ∧ T'.heap = h' ∧ Wr h h' a k (.int x.toInt8.toInt32) ∧ own_IA Z h' a .byte n (own_upd f k x.toInt8.toInt32) ∧ ∀ target, Steps p.tables e below (T'.setTop { g with pc := g.pc + 1, stack := rest }) target → Steps p.tables e below (T.setTop g) target := by
  obtain ⟨cl, A, S, H⟩ := V
  obtain ⟨T', h', X', e', W, st⟩ := stB X hx hZ eT A (own_in S h1 hk h2) hg hs hd
  rw [hk] at X' W
  refine ⟨T', h', X', e', W, ⟨_, A.same W, by rw [sz_set, S], fun i hi => ?_⟩, st⟩
  rw [own_set S h2]; unfold own_upd
  by_cases q : i = k
  · rw [if_pos q, if_pos q]; rfl
  · rw [if_neg q, if_neg q]; exact H i hi
theorem own_lastore (X : Stand p l e R s m args below meth c T locs cells slots) (hx : p.tables.exec = Jvm.exec) (hZ : Z.Warmed39 s.vm) (eT : T.heap = h) (V : own_LA Z h a n fl) {j : Int32} {x : Int64} {k : Nat} (h1 : ¬ j < 0) (hk : j.toNatClampNeg = k) (h2 : k < n) {g : JFrame} (hg : g.method = m) {rest : List Value} (hs : g.stack = .long x :: .int j :: .ref a :: rest) (hd : decode c.code g.pc = .ok (.lastore, 1)) :
    ∃ T' h', Stand p l e R s m args below meth c T' (locs ++ [⟨a, k⟩]) cells slots ∧ T'.heap = h' ∧ Wr h h' a k (.long x) ∧ own_LA Z h' a n (own_upd fl k x) ∧ ∀ target, Steps p.tables e below (T'.setTop { g with pc := g.pc + 1, stack := rest }) target → Steps p.tables e below (T.setTop g) target := by
  obtain ⟨cl, A, S, H⟩ := V
  obtain ⟨T', h', X', e', W, st⟩ := stJ X hx hZ eT A (own_in S h1 hk h2) hg hs hd
  rw [hk] at X' W
  refine ⟨T', h', X', e', W, ⟨_, A.same W, by rw [sz_set, S], fun i hi => ?_⟩, st⟩
  rw [own_set S h2]; unfold own_upd
  by_cases q : i = k
  · rw [if_pos q, if_pos q]
  · rw [if_neg q, if_neg q]; exact H i hi
theorem own_clone (X : Stand p l e R s m args below meth c T locs cells slots) (hx : p.tables.exec = Jvm.exec) (hZ : Z.Warmed39 s.vm) {a0 : Array Value} {own ad : String} {index : Nat} (hown : s.vm.findClass own = some m.cls)
    (w1 : (Cond.methodLink own index ⟨ad, "clone", "()Ljava/lang/Object;"⟩).before a0 Z = true) (w2 : (Cond.sameMethod ad "java/lang/Object" "clone" "()Ljava/lang/Object;").before a0 Z = true) (w3 : (Cond.native ⟨"java/lang/Object", "clone", "()Ljava/lang/Object;"⟩).before a0 Z = true)
    (w4 : (Cond.instanceMethod ⟨"java/lang/Object", "clone", "()Ljava/lang/Object;"⟩).before a0 Z = true) (w5 : (Cond.selects ad ⟨ad, "clone", "()Ljava/lang/Object;"⟩ ⟨"java/lang/Object", "clone", "()Ljava/lang/Object;"⟩).before a0 Z = true) (w6 : (Cond.castable ad "java/lang/Cloneable").before a0 Z = true)
    (eT : T.heap = h) (V : own_IA Z h a .int n f) (E : Exa Z h a ad) {g : JFrame} (hg : g.method = m) (hsize : g.locals.size = c.maxLocals) {rest : List Value} (hst : g.stack = .ref a :: rest) (hd : decode c.code g.pc = .ok (.invokevirtual index, 3))
    (hf : 1 ≤ R.frames) {W cap : Nat} (hW : 2 * g.monitorRoom + (rest.map fun v => v.category).sum ≤ W) (hl : W + 14 ≤ R.locals) (hcap : n ≤ cap) (hc : cells + 1 ≤ R.cells) (hsl : slots + cap ≤ R.slots) :
    ∃ T' h', Stand p l e R s m args below meth c T' locs (cells + 1) (slots + cap) ∧ T'.heap = h' ∧ Ext h h' ∧ own_IA Z h' h.size .int n f ∧ Exa Z h' h.size ad ∧
      ∀ target, Steps p.tables e below (T'.setTop { g with pc := g.pc + 3, stack := .ref h.size :: rest }) target → Steps p.tables e below (T.setTop g) target := by
  obtain ⟨cl, A, S, H⟩ := V
  have FC : FitC Z cl := fitC_of A fun i hi v hv => by rw [H i (by rw [← S]; exact hi)] at hv; cases hv; rfl
  obtain ⟨T', h', X', e', ex, A', E', st⟩ := cloneA X hx hZ hown w1 w2 w3 w4 w5 w6 eT A E FC hg hsize hst hd hf hW hl (by rw [S]; exact hcap) hc hsl
  exact ⟨T', h', X', e', ex, ⟨cloneOf cl, A', S, H⟩, E', st⟩
end Arrays
end Own
theorem own_id (x n : Int32) (hn : n = (1 : Int32) + ((x &&& (2147483647 : Int32)) % (255 : Int32))) : ¬ (n < (1 : Int32)) ∧ ¬ ((255 : Int32) < n) := by
  have h := c_and x 2147483647 (by decide)
  have h2 := (c_irem (x &&& (2147483647 : Int32)) 255 255 rfl).1 h.1
  have h3 := c_iadd 1 ((x &&& (2147483647 : Int32)) % 255)
  rw [← hn] at h3
  have r := rng32 n
  simp only [Int32.lt_iff_toInt_lt]
  have e1 : (1 : Int32).toInt = 1 := rfl
  have e2 : (255 : Int32).toInt = 255 := rfl
  rw [e1, e2]; rw [e1] at h3; omega
theorem own_nm (x : Int64) : 0 ≤ (x &&& (36028797018963967 : Int64)).toInt ∧ (x &&& (36028797018963967 : Int64)).toInt ≤ 36028797018963967 := by
  have h1 := c_maskL x 36028797018963967 55 (by decide) (by decide)
  have e : ((2 ^ 55 : Nat) : Int) = 36028797018963968 := by decide
  rw [e] at h1; omega
theorem own_num (v : Int64) : (1 ≤ v.toInt ∧ v.toInt ≤ 36028797018963967) → ¬ (v < (1 : Int64)) ∧ ¬ ((36028797018963967 : Int64) < v) := by
  have e1 : (1 : Int64).toInt = 1 := rfl
  have e2 : (36028797018963967 : Int64).toInt = 36028797018963967 := by decide
  intro h; rw [Int64.lt_iff_toInt_lt, Int64.lt_iff_toInt_lt, e1, e2]; omega
def own_chk (p : Int32) : Int32 := p
def own_f1 (x1 : Int64) (y1 : Int64) : Int64 := (if x1 < y1 then y1 else x1)
theorem d1_0 : decode jdk_29_method_66_code 0 = .ok (.lload_n 0, 1) := by decide +kernel
theorem d1_1 : decode jdk_29_method_66_code 1 = .ok (.lload_n 2, 1) := by decide +kernel
theorem d1_2 : decode jdk_29_method_66_code 2 = .ok (.lcmp, 1) := by decide +kernel
theorem d1_3 : decode jdk_29_method_66_code 3 = .ok (.ifCond .lt 7, 3) := by decide +kernel
theorem d1_6 : decode jdk_29_method_66_code 6 = .ok (.lload_n 0, 1) := by decide +kernel
theorem d1_7 : decode jdk_29_method_66_code 7 = .ok (.goto 4, 3) := by decide +kernel
theorem d1_10 : decode jdk_29_method_66_code 10 = .ok (.lload_n 2, 1) := by decide +kernel
theorem d1_11 : decode jdk_29_method_66_code 11 = .ok (.lreturn, 1) := by decide +kernel
theorem ef_1 (m : MethodId) (x0 : Int64) (x1 : Int64) : entryFrame m #[(.long x0), (.long x1)] 4 = mkF m 0 #[.val (.long x0), .second, .val (.long x1), .second] [] := by first | (simp [entryFrame, mkF, argsToLocals, Value.category]; done) | rfl
def own_Q1 (Z : State) (x1 : Int64) (y1 : Int64) (h0 : Heap) (n0 : Nat) (v : Option Value) (h : Heap) (L : List Loc) : Prop := v = some (.long (own_f1 x1 y1)) ∧ Fr n0 L ∧ h = h0
set_option maxRecDepth 65536 in
set_option maxHeartbeats 40000000 in
theorem rm1 (l : Launch) (Z : State) (a0 : Array Value) (hw : ∀ d ∈ tables_1, d.before a0 Z = true) (ws : List Jvm.Cond) (x1 : Int64) (y1 : Int64) (h0 : Heap) (n0 : Nat) (Z0 : n0 ≤ h0.size)  :
    MetFree l (⟨"java/lang/Math", "max", "(JJ)J"⟩ : MethodName) (head1 (Jvm.Cond.code (⟨"java/lang/Math", "max", "(JJ)J"⟩ : MethodName) jdk_29_method_66_code 4 (some .long) :: ws) ({ frames := 0, cells := 0, slots := 0, locals := 0 } : Room)) (fun a U => a = #[(.long x1), (.long y1)] ∧ Z.Warmed39 U.vm ∧ U.heap = h0) (fun _ _ _ _ _ => True) (fun _ U o U' => ∃ v L, o = .returned v ∧ own_Q1 Z x1 y1 h0 n0 v U'.heap L ∧ FrameEnd U o U' L ({ frames := 0, cells := 0, slots := 0, locals := 0 } : Room).cells ({ frames := 0, cells := 0, slots := 0, locals := 0 } : Room).slots) := by
  refine MetFree.of_bodySF (Jvm.Free.JP.mathPlain rfl (by decide +kernel)) hisR ?_
  intro p e s m args below meth c s₁ Bd hml0 hP hK
  obtain ⟨rfl, hZ, hh⟩ := hP
  have hx := Bd.exec
  have hby := Bd.bytes
  have hml : c.maxLocals = 4 := hml0
  have hown : s.vm.findClass "java/lang/Math" = some m.cls := findClass_of_methodNamed Bd.named
  have hnm := (name_of_methodNamed Bd.named Bd.method).1
  have X0 : Stand p l e ({ frames := 0, cells := 0, slots := 0, locals := 0 } : Room) s m #[(.long x1), (.long y1)] below meth c s₁ [] 0 0 := Stand.of_body Bd
  have e0 : s₁.heap = h0 := by rw [← hh, Bd.state]; rfl
  have N0 := Fr.nil n0
  have Zs := Z0
  show own_Goes p e below s (own_Q1 Z x1 y1 h0 n0) ({ frames := 0, cells := 0, slots := 0, locals := 0 } : Room).cells ({ frames := 0, cells := 0, slots := 0, locals := 0 } : Room).slots _
  refine own_go (B := s₁.setTop (mkF m 0 #[.val (.long x1), .second, .val (.long y1), .second] [])) (fun t k => castTop (ef_1 m x1 y1) k) ?_
  refine own_go (B := s₁.setTop (mkF m 1 #[.val (.long x1), .second, .val (.long y1), .second] [(.long x1)])) (fun t k => XS.lloadN X0.here hx rfl (Jvm.hb hby d1_0) rfl k) ?_
  refine own_go (B := s₁.setTop (mkF m 2 #[.val (.long x1), .second, .val (.long y1), .second] [(.long y1), (.long x1)])) (fun t k => XS.lloadN X0.here hx rfl (Jvm.hb hby d1_1) rfl k) ?_
  refine own_go (B := s₁.setTop (mkF m 3 #[.val (.long x1), .second, .val (.long y1), .second] [(.int (lcmpW x1 y1))])) (fun t k => XS.lcmp X0.here hx rfl (Jvm.hb hby d1_2) rfl k) ?_
  by_cases hc3_1 : x1 < y1
  · refine own_go (B := s₁.setTop (mkF m 10 #[.val (.long x1), .second, .val (.long y1), .second] [])) (fun t k => XS.ifYes X0.here hx rfl (pc0 := 3) (pc' := 10) rfl (Jvm.hb hby d1_3) rfl ((if0 _ _).trans (tlt ((lw_lt x1 y1).mpr hc3_1)).1) (by decide) (by decide) k) ?_
    refine own_go (B := s₁.setTop (mkF m 11 #[.val (.long x1), .second, .val (.long y1), .second] [(.long y1)])) (fun t k => XS.lloadN X0.here hx rfl (Jvm.hb hby d1_10) rfl k) ?_
    refine own_out X0 (v := (some (.long y1))) (fun h => by rw [Bd.returns] at h; cases h) Bd.notSynchronized (fun fs hr => retOut X0 hx (t := .long) Bd.returns rfl (Or.inr (Or.inl ⟨rfl, rfl, _, rfl⟩)) (Jvm.hb hby d1_11) hr) ?_ (by decide) (by decide)
    show own_Q1 Z x1 y1 h0 n0 (some (.long y1)) s₁.heap _
    rw [e0]
    exact ⟨congrArg (fun z => some (Value.long z)) (by unfold own_f1; simp only [if_pos hc3_1]), N0, rfl⟩
  · refine own_go (B := s₁.setTop (mkF m 6 #[.val (.long x1), .second, .val (.long y1), .second] [])) (fun t k => XS.ifNo X0.here hx rfl (Jvm.hb hby d1_3) rfl ((if0 _ _).trans (flt (mt (lw_lt x1 y1).mp hc3_1)).1) k) ?_
    refine own_go (B := s₁.setTop (mkF m 7 #[.val (.long x1), .second, .val (.long y1), .second] [(.long x1)])) (fun t k => XS.lloadN X0.here hx rfl (Jvm.hb hby d1_6) rfl k) ?_
    refine own_go (B := s₁.setTop (mkF m 11 #[.val (.long x1), .second, .val (.long y1), .second] [(.long x1)])) (fun t k => XS.goto X0.here hx rfl (pc0 := 7) (pc' := 11) rfl (Jvm.hb hby d1_7) (by decide) (by decide) k) ?_
    refine own_out X0 (v := (some (.long x1))) (fun h => by rw [Bd.returns] at h; cases h) Bd.notSynchronized (fun fs hr => retOut X0 hx (t := .long) Bd.returns rfl (Or.inr (Or.inl ⟨rfl, rfl, _, rfl⟩)) (Jvm.hb hby d1_11) hr) ?_ (by decide) (by decide)
    show own_Q1 Z x1 y1 h0 n0 (some (.long x1)) s₁.heap _
    rw [e0]
    exact ⟨congrArg (fun z => some (Value.long z)) (by unfold own_f1; simp only [if_neg hc3_1]), N0, rfl⟩
theorem own_mx (x : Int64) : 1 ≤ (own_f1 (1 : Int64) (x &&& (36028797018963967 : Int64))).toInt ∧ (own_f1 (1 : Int64) (x &&& (36028797018963967 : Int64))).toInt ≤ 36028797018963967 := by
  have h := own_nm x
  have e1 : (1 : Int64).toInt = 1 := rfl
  unfold own_f1
  by_cases g : (1 : Int64) < (x &&& (36028797018963967 : Int64))
  · rw [if_pos g]; rw [Int64.lt_iff_toInt_lt, e1] at g; omega
  · rw [if_neg g, e1]; omega
theorem pn_java_lang_Record : plainName "java/lang/Record" = true := by first | (simp [plainName, overriddenIn]; done) | decide +kernel
theorem d3_0 : decode jdk_30_method_1_code 0 = .ok (.aload_n 0, 1) := by decide +kernel
theorem d3_1 : decode jdk_30_method_1_code 1 = .ok (.invokespecial 1, 3) := by decide +kernel
theorem d3_4 : decode jdk_30_method_1_code 4 = .ok (.return_, 1) := by decide +kernel
theorem ef_3 (m : MethodId) (x0 : Addr) : entryFrame m #[(.ref x0)] 1 = mkF m 0 #[.val (.ref x0)] [] := by first | (simp [entryFrame, mkF, argsToLocals, Value.category]; done) | rfl
def own_Q3 (Z : State) (za : Addr) (h0 : Heap) (n0 : Nat) (v : Option Value) (h : Heap) (L : List Loc) : Prop := v = none ∧ Fr n0 L ∧ h = h0
set_option maxRecDepth 65536 in
set_option maxHeartbeats 40000000 in
theorem rm3 (l : Launch) (Z : State) (a0 : Array Value) (hw : ∀ d ∈ tables_1, d.before a0 Z = true) (ws : List Jvm.Cond) (za : Addr) (h0 : Heap) (n0 : Nat) (Z0 : n0 ≤ h0.size)  :
    MetFree l (⟨"java/lang/Record", "<init>", "()V"⟩ : MethodName) (head1 (Jvm.Cond.code (⟨"java/lang/Record", "<init>", "()V"⟩ : MethodName) jdk_30_method_1_code 1 none :: ws) ({ frames := 1, cells := 0, slots := 0, locals := 12 } : Room)) (fun a U => a = #[(.ref za)] ∧ Z.Warmed39 U.vm ∧ U.heap = h0) (fun _ _ _ _ _ => True) (fun _ U o U' => ∃ v L, o = .returned v ∧ own_Q3 Z za h0 n0 v U'.heap L ∧ FrameEnd U o U' L ({ frames := 1, cells := 0, slots := 0, locals := 12 } : Room).cells ({ frames := 1, cells := 0, slots := 0, locals := 12 } : Room).slots) := by
  refine MetFree.of_bodySF (plainFor_of_name pn_java_lang_Record) hisR ?_
  intro p e s m args below meth c s₁ Bd hml0 hP hK
  obtain ⟨rfl, hZ, hh⟩ := hP
  have hx := Bd.exec
  have hby := Bd.bytes
  have hml : c.maxLocals = 1 := hml0
  have hown : s.vm.findClass "java/lang/Record" = some m.cls := findClass_of_methodNamed Bd.named
  have hnm := (name_of_methodNamed Bd.named Bd.method).1
  have X0 : Stand p l e ({ frames := 1, cells := 0, slots := 0, locals := 12 } : Room) s m #[(.ref za)] below meth c s₁ [] 0 0 := Stand.of_body Bd
  have e0 : s₁.heap = h0 := by rw [← hh, Bd.state]; rfl
  have N0 := Fr.nil n0
  have Zs := Z0
  show own_Goes p e below s (own_Q3 Z za h0 n0) ({ frames := 1, cells := 0, slots := 0, locals := 12 } : Room).cells ({ frames := 1, cells := 0, slots := 0, locals := 12 } : Room).slots _
  refine own_go (B := s₁.setTop (mkF m 0 #[.val (.ref za)] [])) (fun t k => castTop (ef_3 m za) k) ?_
  refine own_go (B := s₁.setTop (mkF m 1 #[.val (.ref za)] [(.ref za)])) (fun t k => XS.aloadN X0.here hx rfl (Jvm.hb hby d3_0) rfl rfl k) ?_
  obtain ⟨T2, X2, e2, st2⟩ := initO X0 hx hZ hown (own_w hw 17 rfl) (own_w hw 18 rfl) (own_w hw 19 rfl) e0 (g := (mkF m 1 #[.val (.ref za)] [(.ref za)])) rfl (by rw [hml]; rfl) rfl (Jvm.hb hby d3_1) (by decide) (W := 0) (by show 2 * 0 + _ ≤ _; exact Nat.le_of_eq rfl) (by decide)
  refine own_go (B := T2.setTop (mkF m 4 #[.val (.ref za)] [])) (fun t k => st2 _ k) ?_
  refine own_out X2 (v := none) (fun _ => rfl) Bd.notSynchronized (fun fs hr => X2.returnOut hx Bd.returns (Jvm.hb hby d3_4) hr) ?_ (by decide) (by decide)
  show own_Q3 Z za h0 n0 none T2.heap _
  rw [e2]
  exact ⟨rfl, N0, rfl⟩
theorem pn_com_example_vesta_vesta_protocol_Ticket : plainName "com/example/vesta/vesta/protocol/Ticket" = true := by first | (simp [plainName, overriddenIn]; done) | decide +kernel
theorem d5_0 : decode prog_19_method_2_code 0 = .ok (.iload_n 0, 1) := by decide +kernel
theorem d5_1 : decode prog_19_method_2_code 1 = .ok (.iconst 1, 1) := by decide +kernel
theorem d5_2 : decode prog_19_method_2_code 2 = .ok (.if_icmp .lt 10, 3) := by decide +kernel
theorem d5_5 : decode prog_19_method_2_code 5 = .ok (.iload_n 0, 1) := by decide +kernel
theorem d5_6 : decode prog_19_method_2_code 6 = .ok (.sipush 255, 3) := by decide +kernel
theorem d5_9 : decode prog_19_method_2_code 9 = .ok (.if_icmp .le 17, 3) := by decide +kernel
theorem d5_26 : decode prog_19_method_2_code 26 = .ok (.iload_n 0, 1) := by decide +kernel
theorem d5_27 : decode prog_19_method_2_code 27 = .ok (.ireturn, 1) := by decide +kernel
theorem ef_5 (m : MethodId) (x0 : Int32) : entryFrame m #[(.int x0)] 1 = mkF m 0 #[.val (.int x0)] [] := by first | (simp [entryFrame, mkF, argsToLocals, Value.category]; done) | rfl
def own_Q5 (Z : State) (p1 : Int32) (h0 : Heap) (n0 : Nat) (v : Option Value) (h : Heap) (L : List Loc) : Prop := v = some (.int (own_chk p1)) ∧ Fr n0 L ∧ h = h0
set_option maxRecDepth 65536 in
set_option maxHeartbeats 40000000 in
theorem rm5 (l : Launch) (Z : State) (a0 : Array Value) (hw : ∀ d ∈ tables_1, d.before a0 Z = true) (ws : List Jvm.Cond) (p1 : Int32) (h0 : Heap) (n0 : Nat) (Z0 : n0 ≤ h0.size) (hp : ¬ (p1 < (1 : Int32))) (hq : ¬ ((255 : Int32) < p1)) :
    MetFree l (⟨"com/example/vesta/vesta/protocol/Ticket", "checkMemberId", "(I)I"⟩ : MethodName) (head1 (Jvm.Cond.code (⟨"com/example/vesta/vesta/protocol/Ticket", "checkMemberId", "(I)I"⟩ : MethodName) prog_19_method_2_code 1 (some .int) :: ws) ({ frames := 0, cells := 0, slots := 0, locals := 0 } : Room)) (fun a U => a = #[(.int p1)] ∧ Z.Warmed39 U.vm ∧ U.heap = h0) (fun _ _ _ _ _ => True) (fun _ U o U' => ∃ v L, o = .returned v ∧ own_Q5 Z p1 h0 n0 v U'.heap L ∧ FrameEnd U o U' L ({ frames := 0, cells := 0, slots := 0, locals := 0 } : Room).cells ({ frames := 0, cells := 0, slots := 0, locals := 0 } : Room).slots) := by
  refine MetFree.of_bodySF (plainFor_of_name pn_com_example_vesta_vesta_protocol_Ticket) hisR ?_
  intro p e s m args below meth c s₁ Bd hml0 hP hK
  obtain ⟨rfl, hZ, hh⟩ := hP
  have hx := Bd.exec
  have hby := Bd.bytes
  have hml : c.maxLocals = 1 := hml0
  have hown : s.vm.findClass "com/example/vesta/vesta/protocol/Ticket" = some m.cls := findClass_of_methodNamed Bd.named
  have hnm := (name_of_methodNamed Bd.named Bd.method).1
  have X0 : Stand p l e ({ frames := 0, cells := 0, slots := 0, locals := 0 } : Room) s m #[(.int p1)] below meth c s₁ [] 0 0 := Stand.of_body Bd
  have e0 : s₁.heap = h0 := by rw [← hh, Bd.state]; rfl
  have N0 := Fr.nil n0
  have Zs := Z0
  show own_Goes p e below s (own_Q5 Z p1 h0 n0) ({ frames := 0, cells := 0, slots := 0, locals := 0 } : Room).cells ({ frames := 0, cells := 0, slots := 0, locals := 0 } : Room).slots _
  refine own_go (B := s₁.setTop (mkF m 0 #[.val (.int p1)] [])) (fun t k => castTop (ef_5 m p1) k) ?_
  refine own_go (B := s₁.setTop (mkF m 1 #[.val (.int p1)] [(.int p1)])) (fun t k => XS.iloadN X0.here hx rfl (Jvm.hb hby d5_0) rfl k) ?_
  refine own_go (B := s₁.setTop (mkF m 2 #[.val (.int p1)] [(.int (1 : Int32)), (.int p1)])) (fun t k => XS.iconst X0.here hx rfl (Jvm.hb hby d5_1) k) ?_
  refine own_go (B := s₁.setTop (mkF m 5 #[.val (.int p1)] [])) (fun t k => XS.icmpNo X0.here hx rfl (Jvm.hb hby d5_2) rfl (flt hp).1 k) ?_
  refine own_go (B := s₁.setTop (mkF m 6 #[.val (.int p1)] [(.int p1)])) (fun t k => XS.iloadN X0.here hx rfl (Jvm.hb hby d5_5) rfl k) ?_
  refine own_go (B := s₁.setTop (mkF m 9 #[.val (.int p1)] [(.int (255 : Int32)), (.int p1)])) (fun t k => XS.sipush X0.here hx rfl (Jvm.hb hby d5_6) k) ?_
  refine own_go (B := s₁.setTop (mkF m 26 #[.val (.int p1)] [])) (fun t k => XS.icmpYes X0.here hx rfl (pc0 := 9) (pc' := 26) rfl (Jvm.hb hby d5_9) rfl (flt hq).2.2.2 (by decide) (by decide) k) ?_
  refine own_go (B := s₁.setTop (mkF m 27 #[.val (.int p1)] [(.int p1)])) (fun t k => XS.iloadN X0.here hx rfl (Jvm.hb hby d5_26) rfl k) ?_
  refine own_out X0 (v := (some (.int p1))) (fun h => by rw [Bd.returns] at h; cases h) Bd.notSynchronized (fun fs hr => retOut X0 hx (t := .int) Bd.returns rfl (Or.inl ⟨rfl, Or.inl rfl, _, rfl⟩) (Jvm.hb hby d5_27) hr) ?_ (by decide) (by decide)
  show own_Q5 Z p1 h0 n0 (some (.int p1)) s₁.heap _
  rw [e0]
  exact ⟨congrArg (fun z => some (Value.int z)) (rfl), N0, rfl⟩
theorem d2_0 : decode prog_19_method_1_code 0 = .ok (.aload_n 0, 1) := by decide +kernel
theorem d2_1 : decode prog_19_method_1_code 1 = .ok (.invokespecial 5, 3) := by decide +kernel
theorem d2_4 : decode prog_19_method_1_code 4 = .ok (.lload_n 1, 1) := by decide +kernel
theorem d2_5 : decode prog_19_method_1_code 5 = .ok (.lconst 1, 1) := by decide +kernel
theorem d2_6 : decode prog_19_method_1_code 6 = .ok (.lcmp, 1) := by decide +kernel
theorem d2_7 : decode prog_19_method_1_code 7 = .ok (.ifCond .lt 11, 3) := by decide +kernel
theorem d2_10 : decode prog_19_method_1_code 10 = .ok (.lload_n 1, 1) := by decide +kernel
theorem d2_11 : decode prog_19_method_1_code 11 = .ok (.ldc2_w 11, 3) := by decide +kernel
theorem d2_14 : decode prog_19_method_1_code 14 = .ok (.lcmp, 1) := by decide +kernel
theorem d2_15 : decode prog_19_method_1_code 15 = .ok (.ifCond .le 17, 3) := by decide +kernel
theorem d2_32 : decode prog_19_method_1_code 32 = .ok (.iload_n 3, 1) := by decide +kernel
theorem d2_33 : decode prog_19_method_1_code 33 = .ok (.invokestatic 22, 3) := by decide +kernel
theorem d2_36 : decode prog_19_method_1_code 36 = .ok (.pop, 1) := by decide +kernel
theorem d2_37 : decode prog_19_method_1_code 37 = .ok (.aload_n 0, 1) := by decide +kernel
theorem d2_38 : decode prog_19_method_1_code 38 = .ok (.lload_n 1, 1) := by decide +kernel
theorem d2_39 : decode prog_19_method_1_code 39 = .ok (.putfield 26, 3) := by decide +kernel
theorem d2_42 : decode prog_19_method_1_code 42 = .ok (.aload_n 0, 1) := by decide +kernel
theorem d2_43 : decode prog_19_method_1_code 43 = .ok (.iload_n 3, 1) := by decide +kernel
theorem d2_44 : decode prog_19_method_1_code 44 = .ok (.putfield 30, 3) := by decide +kernel
theorem d2_47 : decode prog_19_method_1_code 47 = .ok (.return_, 1) := by decide +kernel
theorem pd_0 : parseMethodDescriptor "()V" = some ⟨[], none⟩ := by decide +kernel
theorem pd_1 : parseMethodDescriptor "(I)I" = some ⟨[.int], some .int⟩ := by decide +kernel
theorem ef_2 (m : MethodId) (x0 : Addr) (x1 : Int64) (x2 : Int32) : entryFrame m #[(.ref x0), (.long x1), (.int x2)] 4 = mkF m 0 #[.val (.ref x0), .val (.long x1), .second, .val (.int x2)] [] := by first | (simp [entryFrame, mkF, argsToLocals, Value.category]; done) | rfl
def own_Q2 (Z : State) (za : Addr) (zn : Int64) (zi : Int32) (h0 : Heap) (n0 : Nat) (v : Option Value) (h : Heap) (L : List Loc) : Prop := v = none ∧ Fr n0 L ∧ Keep h0 h [za] ∧ Exa Z h za "com/example/vesta/vesta/protocol/Ticket" ∧ Fld Z h za "com/example/vesta/vesta/protocol/Ticket" "number" "J" (.long zn) ∧ Fld Z h za "com/example/vesta/vesta/protocol/Ticket" "memberId" "I" (.int zi)
set_option maxRecDepth 65536 in
set_option maxHeartbeats 40000000 in
theorem rm2 (l : Launch) (Z : State) (a0 : Array Value) (hw : ∀ d ∈ tables_1, d.before a0 Z = true) (ws : List Jvm.Cond) (za : Addr) (zn : Int64) (zi : Int32) (h0 : Heap) (n0 : Nat) (Z0 : n0 ≤ h0.size) (E_za : Exa Z h0 za "com/example/vesta/vesta/protocol/Ticket") (F_za_number : Fld Z h0 za "com/example/vesta/vesta/protocol/Ticket" "number" "J" (.long (0 : Int64))) (F_za_memberId : Fld Z h0 za "com/example/vesta/vesta/protocol/Ticket" "memberId" "I" (.int (0 : Int32))) (g_za : n0 ≤ za) (hn : ¬ (zn < (1 : Int64)) ∧ ¬ ((36028797018963967 : Int64) < zn)) (hi : ¬ (zi < (1 : Int32)) ∧ ¬ ((255 : Int32) < zi)) :
    MetFree l (⟨"com/example/vesta/vesta/protocol/Ticket", "<init>", "(JI)V"⟩ : MethodName) (head1 (Jvm.Cond.code (⟨"com/example/vesta/vesta/protocol/Ticket", "<init>", "(JI)V"⟩ : MethodName) prog_19_method_1_code 4 none :: ws) ({ frames := 2, cells := 0, slots := 0, locals := 24 } : Room)) (fun a U => a = #[(.ref za), (.long zn), (.int zi)] ∧ Z.Warmed39 U.vm ∧ U.heap = h0) (fun _ _ _ _ _ => True) (fun _ U o U' => ∃ v L, o = .returned v ∧ own_Q2 Z za zn zi h0 n0 v U'.heap L ∧ FrameEnd U o U' L ({ frames := 2, cells := 0, slots := 0, locals := 24 } : Room).cells ({ frames := 2, cells := 0, slots := 0, locals := 24 } : Room).slots) := by
  refine MetFree.of_bodySF (plainFor_of_name pn_com_example_vesta_vesta_protocol_Ticket) hisR ?_
  intro p e s m args below meth c s₁ Bd hml0 hP hK
  obtain ⟨rfl, hZ, hh⟩ := hP
  have hx := Bd.exec
  have hby := Bd.bytes
  have hml : c.maxLocals = 4 := hml0
  have hown : s.vm.findClass "com/example/vesta/vesta/protocol/Ticket" = some m.cls := findClass_of_methodNamed Bd.named
  have hnm := (name_of_methodNamed Bd.named Bd.method).1
  have X0 : Stand p l e ({ frames := 2, cells := 0, slots := 0, locals := 24 } : Room) s m #[(.ref za), (.long zn), (.int zi)] below meth c s₁ [] 0 0 := Stand.of_body Bd
  have e0 : s₁.heap = h0 := by rw [← hh, Bd.state]; rfl
  have N0 := Fr.nil n0
  have Zs := Z0
  have K : Keep h0 h0 [za] := Keep.refl _ _
  show own_Goes p e below s (own_Q2 Z za zn zi h0 n0) ({ frames := 2, cells := 0, slots := 0, locals := 24 } : Room).cells ({ frames := 2, cells := 0, slots := 0, locals := 24 } : Room).slots _
  refine own_go (B := s₁.setTop (mkF m 0 #[.val (.ref za), .val (.long zn), .second, .val (.int zi)] [])) (fun t k => castTop (ef_2 m za zn zi) k) ?_
  refine own_go (B := s₁.setTop (mkF m 1 #[.val (.ref za), .val (.long zn), .second, .val (.int zi)] [(.ref za)])) (fun t k => XS.aloadN X0.here hx rfl (Jvm.hb hby d2_0) rfl rfl k) ?_
  obtain ⟨_, _, ⟨T3, La3, ka3, na3⟩, -, X3, ⟨Lc3, hQ3, l3, y3, z3⟩, st3⟩ := X0.specialBack hx (y := (⟨"java/lang/Record", "<init>", "()V"⟩ : MethodName)) rfl hown (mvT hZ (own_w hw 12 rfl)) (mvT hZ (own_w hw 13 rfl)) (mvT hZ (own_w hw 16 rfl)) (by decide) (backOf (W := 0) (rm3 l Z a0 hw [] za h0 n0 Zs ) hZ (own_w hw 16 rfl) (own_w hw 15 rfl) (by decide) (by decide)) (g := (mkF m 1 #[.val (.ref za), .val (.long zn), .second, .val (.int zi)] [(.ref za)])) rfl (by rw [hml]; rfl) (Steps.refl _) (a := za) (argsL := []) (rest := []) (lenOf pd_0 rfl) rfl (by show 2 * 0 + _ ≤ _; exact Nat.le_of_eq rfl) (Jvm.hb hby d2_1) (fun _ _ => ⟨rfl, e0, (by decide : 0 + 0 ≤ _), (by decide : 0 + 0 ≤ _)⟩)
  dsimp only [Pt.U, Pt.locs, Pt.cells, Pt.slots] at X3 l3 y3 z3 st3 hQ3
  subst l3 y3 z3
  obtain ⟨rfl, N3q, e3⟩ := hQ3
  have N3 := Fr.app N0 N3q
  refine own_go (B := T3.setTop (mkF m 4 #[.val (.ref za), .val (.long zn), .second, .val (.int zi)] [])) (fun t k => own_st st3 k) ?_
  refine own_go (B := T3.setTop (mkF m 5 #[.val (.ref za), .val (.long zn), .second, .val (.int zi)] [(.long zn)])) (fun t k => XS.lloadN X3.here hx rfl (Jvm.hb hby d2_4) rfl k) ?_
  refine own_go (B := T3.setTop (mkF m 6 #[.val (.ref za), .val (.long zn), .second, .val (.int zi)] [(.long (1 : Int64)), (.long zn)])) (fun t k => XS.lconst X3.here hx rfl (Jvm.hb hby d2_5) k) ?_
  refine own_go (B := T3.setTop (mkF m 7 #[.val (.ref za), .val (.long zn), .second, .val (.int zi)] [(.int (lcmpW zn (1 : Int64)))])) (fun t k => XS.lcmp X3.here hx rfl (Jvm.hb hby d2_6) rfl k) ?_
  refine own_go (B := T3.setTop (mkF m 10 #[.val (.ref za), .val (.long zn), .second, .val (.int zi)] [])) (fun t k => XS.ifNo X3.here hx rfl (Jvm.hb hby d2_7) rfl ((if0 _ _).trans (flt (mt (lw_lt zn (1 : Int64)).mp hn.1)).1) k) ?_
  refine own_go (B := T3.setTop (mkF m 11 #[.val (.ref za), .val (.long zn), .second, .val (.int zi)] [(.long zn)])) (fun t k => XS.lloadN X3.here hx rfl (Jvm.hb hby d2_10) rfl k) ?_
  refine own_go (B := T3.setTop (mkF m 14 #[.val (.ref za), .val (.long zn), .second, .val (.int zi)] [(.long (36028797018963967 : Int64)), (.long zn)])) (fun t k => X3.ldc2Long hx hown (mvT hZ (own_w hw 20 rfl)) (g := (mkF m 11 #[.val (.ref za), .val (.long zn), .second, .val (.int zi)] [(.long zn)])) rfl (Jvm.hb hby d2_11) _ k) ?_
  refine own_go (B := T3.setTop (mkF m 15 #[.val (.ref za), .val (.long zn), .second, .val (.int zi)] [(.int (lcmpW zn (36028797018963967 : Int64)))])) (fun t k => XS.lcmp X3.here hx rfl (Jvm.hb hby d2_14) rfl k) ?_
  refine own_go (B := T3.setTop (mkF m 32 #[.val (.ref za), .val (.long zn), .second, .val (.int zi)] [])) (fun t k => XS.ifYes X3.here hx rfl (pc0 := 15) (pc' := 32) rfl (Jvm.hb hby d2_15) rfl ((if0 _ _).trans (flt (mt (lw_gt zn (36028797018963967 : Int64)).mp hn.2)).2.2.2) (by decide) (by decide) k) ?_
  refine own_go (B := T3.setTop (mkF m 33 #[.val (.ref za), .val (.long zn), .second, .val (.int zi)] [(.int zi)])) (fun t k => XS.iloadN X3.here hx rfl (Jvm.hb hby d2_32) rfl k) ?_
  obtain ⟨_, _, ⟨T4, La4, ka4, na4⟩, -, X4, ⟨Lc4, hQ4, l4, y4, z4⟩, st4⟩ := Jvm.LawKit.callS X3 hx (y := (⟨"com/example/vesta/vesta/protocol/Ticket", "checkMemberId", "(I)I"⟩ : MethodName)) hown (mvT hZ (own_w hw 21 rfl)) (mvT hZ (own_w hw 22 rfl)) (mvT hZ (own_w hw 8 rfl)) (mvT hZ (own_w hw 23 rfl)) (by decide) (backOf (W := 0) (rm5 l Z a0 hw [] zi h0 n0 Zs hi.1 hi.2) hZ (own_w hw 23 rfl) (own_w hw 8 rfl) (by decide) (by decide)) (g := (mkF m 33 #[.val (.ref za), .val (.long zn), .second, .val (.int zi)] [(.int zi)])) rfl (by rw [hml]; rfl) (argsL := [(.int zi)]) (rest := []) (lenOf pd_1 rfl) rfl (by show 2 * 0 + _ ≤ _; exact Nat.le_of_eq rfl) (Jvm.hb hby d2_33) (fun _ _ => ⟨rfl, e3, (by decide : 0 + 0 ≤ _), (by decide : 0 + 0 ≤ _)⟩)
  dsimp only [Pt.U, Pt.locs, Pt.cells, Pt.slots] at X4 l4 y4 z4 st4 hQ4
  subst l4 y4 z4
  obtain ⟨rfl, N4q, e4⟩ := hQ4
  have N4 := Fr.app N3 N4q
  refine own_go (B := T4.setTop (mkF m 36 #[.val (.ref za), .val (.long zn), .second, .val (.int zi)] [(.int (own_chk zi))])) (fun t k => st4 _ k) ?_
  refine own_go (B := T4.setTop (mkF m 37 #[.val (.ref za), .val (.long zn), .second, .val (.int zi)] [])) (fun t k => XS.pop X4.here hx rfl (Jvm.hb hby d2_36) rfl rfl k) ?_
  refine own_go (B := T4.setTop (mkF m 38 #[.val (.ref za), .val (.long zn), .second, .val (.int zi)] [(.ref za)])) (fun t k => XS.aloadN X4.here hx rfl (Jvm.hb hby d2_37) rfl rfl k) ?_
  refine own_go (B := T4.setTop (mkF m 39 #[.val (.ref za), .val (.long zn), .second, .val (.int zi)] [(.long zn), (.ref za)])) (fun t k => XS.lloadN X4.here hx rfl (Jvm.hb hby d2_38) rfl k) ?_
  obtain ⟨T5, h5, X5, e5, W5, st5⟩ := putF X4 hx hZ hown (host := "") (Or.inl (own_w hw 24 rfl)) Via.refl e4 F_za_number E_za (Or.inr ⟨(own_w hw 25 rfl), rfl, hnm⟩) (own_w hw 7 rfl) (ty := .long) (by decide) rfl rfl (g := (mkF m 39 #[.val (.ref za), .val (.long zn), .second, .val (.int zi)] [(.long zn), (.ref za)])) rfl rfl (Jvm.hb hby d2_39)
  have N5 := Fr.snoc X5 N4 g_za
  have E_za := E_za.wr W5
  have F_za_number := F_za_number.same W5
  have F_za_memberId := F_za_memberId.other W5 (Or.inr (slot_ne (Or.inr (own_w hw 27 rfl)) (Or.inr (own_w hw 25 rfl)) (by decide) (t := .int) (t' := .long) (by decide) (by decide)))
  have K := K.wr W5 (Or.inl (List.mem_of_getElem? (i := 0) rfl))
  have Zs := Nat.le_trans Zs (Keep.of_wr W5).1
  refine own_go (B := T5.setTop (mkF m 42 #[.val (.ref za), .val (.long zn), .second, .val (.int zi)] [])) (fun t k => st5 _ k) ?_
  refine own_go (B := T5.setTop (mkF m 43 #[.val (.ref za), .val (.long zn), .second, .val (.int zi)] [(.ref za)])) (fun t k => XS.aloadN X5.here hx rfl (Jvm.hb hby d2_42) rfl rfl k) ?_
  refine own_go (B := T5.setTop (mkF m 44 #[.val (.ref za), .val (.long zn), .second, .val (.int zi)] [(.int zi), (.ref za)])) (fun t k => XS.iloadN X5.here hx rfl (Jvm.hb hby d2_43) rfl k) ?_
  obtain ⟨T6, h6, X6, e6, W6, st6⟩ := putF X5 hx hZ hown (host := "") (Or.inl (own_w hw 26 rfl)) Via.refl e5 F_za_memberId E_za (Or.inr ⟨(own_w hw 27 rfl), rfl, hnm⟩) (own_w hw 7 rfl) (ty := .int) (by decide) rfl rfl (g := (mkF m 44 #[.val (.ref za), .val (.long zn), .second, .val (.int zi)] [(.int zi), (.ref za)])) rfl rfl (Jvm.hb hby d2_44)
  have N6 := Fr.snoc X6 N5 g_za
  have E_za := E_za.wr W6
  have F_za_number := F_za_number.other W6 (Or.inr (slot_ne (Or.inr (own_w hw 25 rfl)) (Or.inr (own_w hw 27 rfl)) (by decide) (t := .long) (t' := .int) (by decide) (by decide)))
  have F_za_memberId := F_za_memberId.same W6
  have K := K.wr W6 (Or.inl (List.mem_of_getElem? (i := 0) rfl))
  have Zs := Nat.le_trans Zs (Keep.of_wr W6).1
  refine own_go (B := T6.setTop (mkF m 47 #[.val (.ref za), .val (.long zn), .second, .val (.int zi)] [])) (fun t k => st6 _ k) ?_
  refine own_out X6 (v := none) (fun _ => rfl) Bd.notSynchronized (fun fs hr => X6.returnOut hx Bd.returns (Jvm.hb hby d2_47) hr) ?_ (by decide) (by decide)
  show own_Q2 Z za zn zi h0 n0 none T6.heap _
  rw [e6]
  exact ⟨rfl, N6, K, E_za, F_za_number, F_za_memberId⟩
def own_f7 (x1 : Int64) (y1 : Int64) : Int32 := (if x1 < y1 then (-1 : Int32) else (if x1 = y1 then (0 : Int32) else (1 : Int32)))
theorem pn_java_lang_Long : plainName "java/lang/Long" = true := by first | (simp [plainName, overriddenIn]; done) | decide +kernel
theorem d7_0 : decode jdk_35_method_42_code 0 = .ok (.lload_n 0, 1) := by decide +kernel
theorem d7_1 : decode jdk_35_method_42_code 1 = .ok (.lload_n 2, 1) := by decide +kernel
theorem d7_2 : decode jdk_35_method_42_code 2 = .ok (.lcmp, 1) := by decide +kernel
theorem d7_3 : decode jdk_35_method_42_code 3 = .ok (.ifCond .ge 7, 3) := by decide +kernel
theorem d7_6 : decode jdk_35_method_42_code 6 = .ok (.iconst (-1), 1) := by decide +kernel
theorem d7_7 : decode jdk_35_method_42_code 7 = .ok (.goto 14, 3) := by decide +kernel
theorem d7_10 : decode jdk_35_method_42_code 10 = .ok (.lload_n 0, 1) := by decide +kernel
theorem d7_11 : decode jdk_35_method_42_code 11 = .ok (.lload_n 2, 1) := by decide +kernel
theorem d7_12 : decode jdk_35_method_42_code 12 = .ok (.lcmp, 1) := by decide +kernel
theorem d7_13 : decode jdk_35_method_42_code 13 = .ok (.ifCond .ne 7, 3) := by decide +kernel
theorem d7_16 : decode jdk_35_method_42_code 16 = .ok (.iconst 0, 1) := by decide +kernel
theorem d7_17 : decode jdk_35_method_42_code 17 = .ok (.goto 4, 3) := by decide +kernel
theorem d7_20 : decode jdk_35_method_42_code 20 = .ok (.iconst 1, 1) := by decide +kernel
theorem d7_21 : decode jdk_35_method_42_code 21 = .ok (.ireturn, 1) := by decide +kernel
theorem ef_7 (m : MethodId) (x0 : Int64) (x1 : Int64) : entryFrame m #[(.long x0), (.long x1)] 4 = mkF m 0 #[.val (.long x0), .second, .val (.long x1), .second] [] := by first | (simp [entryFrame, mkF, argsToLocals, Value.category]; done) | rfl
def own_Q7 (Z : State) (x1 : Int64) (y1 : Int64) (h0 : Heap) (n0 : Nat) (v : Option Value) (h : Heap) (L : List Loc) : Prop := v = some (.int (own_f7 x1 y1)) ∧ Fr n0 L ∧ h = h0
set_option maxRecDepth 65536 in
set_option maxHeartbeats 40000000 in
theorem rm7 (l : Launch) (Z : State) (a0 : Array Value) (hw : ∀ d ∈ tables_1, d.before a0 Z = true) (ws : List Jvm.Cond) (x1 : Int64) (y1 : Int64) (h0 : Heap) (n0 : Nat) (Z0 : n0 ≤ h0.size)  :
    MetFree l (⟨"java/lang/Long", "compare", "(JJ)I"⟩ : MethodName) (head1 (Jvm.Cond.code (⟨"java/lang/Long", "compare", "(JJ)I"⟩ : MethodName) jdk_35_method_42_code 4 (some .int) :: ws) ({ frames := 0, cells := 0, slots := 0, locals := 0 } : Room)) (fun a U => a = #[(.long x1), (.long y1)] ∧ Z.Warmed39 U.vm ∧ U.heap = h0) (fun _ _ _ _ _ => True) (fun _ U o U' => ∃ v L, o = .returned v ∧ own_Q7 Z x1 y1 h0 n0 v U'.heap L ∧ FrameEnd U o U' L ({ frames := 0, cells := 0, slots := 0, locals := 0 } : Room).cells ({ frames := 0, cells := 0, slots := 0, locals := 0 } : Room).slots) := by
  refine MetFree.of_bodySF (plainFor_of_name pn_java_lang_Long) hisR ?_
  intro p e s m args below meth c s₁ Bd hml0 hP hK
  obtain ⟨rfl, hZ, hh⟩ := hP
  have hx := Bd.exec
  have hby := Bd.bytes
  have hml : c.maxLocals = 4 := hml0
  have hown : s.vm.findClass "java/lang/Long" = some m.cls := findClass_of_methodNamed Bd.named
  have hnm := (name_of_methodNamed Bd.named Bd.method).1
  have X0 : Stand p l e ({ frames := 0, cells := 0, slots := 0, locals := 0 } : Room) s m #[(.long x1), (.long y1)] below meth c s₁ [] 0 0 := Stand.of_body Bd
  have e0 : s₁.heap = h0 := by rw [← hh, Bd.state]; rfl
  have N0 := Fr.nil n0
  have Zs := Z0
  show own_Goes p e below s (own_Q7 Z x1 y1 h0 n0) ({ frames := 0, cells := 0, slots := 0, locals := 0 } : Room).cells ({ frames := 0, cells := 0, slots := 0, locals := 0 } : Room).slots _
  refine own_go (B := s₁.setTop (mkF m 0 #[.val (.long x1), .second, .val (.long y1), .second] [])) (fun t k => castTop (ef_7 m x1 y1) k) ?_
  refine own_go (B := s₁.setTop (mkF m 1 #[.val (.long x1), .second, .val (.long y1), .second] [(.long x1)])) (fun t k => XS.lloadN X0.here hx rfl (Jvm.hb hby d7_0) rfl k) ?_
  refine own_go (B := s₁.setTop (mkF m 2 #[.val (.long x1), .second, .val (.long y1), .second] [(.long y1), (.long x1)])) (fun t k => XS.lloadN X0.here hx rfl (Jvm.hb hby d7_1) rfl k) ?_
  refine own_go (B := s₁.setTop (mkF m 3 #[.val (.long x1), .second, .val (.long y1), .second] [(.int (lcmpW x1 y1))])) (fun t k => XS.lcmp X0.here hx rfl (Jvm.hb hby d7_2) rfl k) ?_
  by_cases hc3_7 : x1 < y1
  · refine own_go (B := s₁.setTop (mkF m 6 #[.val (.long x1), .second, .val (.long y1), .second] [])) (fun t k => XS.ifNo X0.here hx rfl (Jvm.hb hby d7_3) rfl ((if0 _ _).trans (tlt ((lw_lt x1 y1).mpr hc3_7)).2.1) k) ?_
    refine own_go (B := s₁.setTop (mkF m 7 #[.val (.long x1), .second, .val (.long y1), .second] [(.int (-1 : Int32))])) (fun t k => XS.iconst X0.here hx rfl (Jvm.hb hby d7_6) k) ?_
    refine own_go (B := s₁.setTop (mkF m 21 #[.val (.long x1), .second, .val (.long y1), .second] [(.int (-1 : Int32))])) (fun t k => XS.goto X0.here hx rfl (pc0 := 7) (pc' := 21) rfl (Jvm.hb hby d7_7) (by decide) (by decide) k) ?_
    refine own_out X0 (v := (some (.int (-1 : Int32)))) (fun h => by rw [Bd.returns] at h; cases h) Bd.notSynchronized (fun fs hr => retOut X0 hx (t := .int) Bd.returns rfl (Or.inl ⟨rfl, Or.inl rfl, _, rfl⟩) (Jvm.hb hby d7_21) hr) ?_ (by decide) (by decide)
    show own_Q7 Z x1 y1 h0 n0 (some (.int (-1 : Int32))) s₁.heap _
    rw [e0]
    exact ⟨congrArg (fun z => some (Value.int z)) (by unfold own_f7; simp only [if_pos hc3_7]), N0, rfl⟩
  · refine own_go (B := s₁.setTop (mkF m 10 #[.val (.long x1), .second, .val (.long y1), .second] [])) (fun t k => XS.ifYes X0.here hx rfl (pc0 := 3) (pc' := 10) rfl (Jvm.hb hby d7_3) rfl ((if0 _ _).trans (flt (mt (lw_lt x1 y1).mp hc3_7)).2.1) (by decide) (by decide) k) ?_
    refine own_go (B := s₁.setTop (mkF m 11 #[.val (.long x1), .second, .val (.long y1), .second] [(.long x1)])) (fun t k => XS.lloadN X0.here hx rfl (Jvm.hb hby d7_10) rfl k) ?_
    refine own_go (B := s₁.setTop (mkF m 12 #[.val (.long x1), .second, .val (.long y1), .second] [(.long y1), (.long x1)])) (fun t k => XS.lloadN X0.here hx rfl (Jvm.hb hby d7_11) rfl k) ?_
    refine own_go (B := s₁.setTop (mkF m 13 #[.val (.long x1), .second, .val (.long y1), .second] [(.int (lcmpW x1 y1))])) (fun t k => XS.lcmp X0.here hx rfl (Jvm.hb hby d7_12) rfl k) ?_
    by_cases hc13_8 : x1 = y1
    · refine own_go (B := s₁.setTop (mkF m 16 #[.val (.long x1), .second, .val (.long y1), .second] [])) (fun t k => XS.ifNo X0.here hx rfl (Jvm.hb hby d7_13) rfl ((if0 _ _).trans (teq ((lw_eq x1 y1).mpr hc13_8)).2) k) ?_
      refine own_go (B := s₁.setTop (mkF m 17 #[.val (.long x1), .second, .val (.long y1), .second] [(.int (0 : Int32))])) (fun t k => XS.iconst X0.here hx rfl (Jvm.hb hby d7_16) k) ?_
      refine own_go (B := s₁.setTop (mkF m 21 #[.val (.long x1), .second, .val (.long y1), .second] [(.int (0 : Int32))])) (fun t k => XS.goto X0.here hx rfl (pc0 := 17) (pc' := 21) rfl (Jvm.hb hby d7_17) (by decide) (by decide) k) ?_
      refine own_out X0 (v := (some (.int (0 : Int32)))) (fun h => by rw [Bd.returns] at h; cases h) Bd.notSynchronized (fun fs hr => retOut X0 hx (t := .int) Bd.returns rfl (Or.inl ⟨rfl, Or.inl rfl, _, rfl⟩) (Jvm.hb hby d7_21) hr) ?_ (by decide) (by decide)
      show own_Q7 Z x1 y1 h0 n0 (some (.int (0 : Int32))) s₁.heap _
      rw [e0]
      exact ⟨congrArg (fun z => some (Value.int z)) (by unfold own_f7; simp only [if_neg hc3_7, if_pos hc13_8]), N0, rfl⟩
    · refine own_go (B := s₁.setTop (mkF m 20 #[.val (.long x1), .second, .val (.long y1), .second] [])) (fun t k => XS.ifYes X0.here hx rfl (pc0 := 13) (pc' := 20) rfl (Jvm.hb hby d7_13) rfl ((if0 _ _).trans (feq (mt (lw_eq x1 y1).mp hc13_8)).2) (by decide) (by decide) k) ?_
      refine own_go (B := s₁.setTop (mkF m 21 #[.val (.long x1), .second, .val (.long y1), .second] [(.int (1 : Int32))])) (fun t k => XS.iconst X0.here hx rfl (Jvm.hb hby d7_20) k) ?_
      refine own_out X0 (v := (some (.int (1 : Int32)))) (fun h => by rw [Bd.returns] at h; cases h) Bd.notSynchronized (fun fs hr => retOut X0 hx (t := .int) Bd.returns rfl (Or.inl ⟨rfl, Or.inl rfl, _, rfl⟩) (Jvm.hb hby d7_21) hr) ?_ (by decide) (by decide)
      show own_Q7 Z x1 y1 h0 n0 (some (.int (1 : Int32))) s₁.heap _
      rw [e0]
      exact ⟨congrArg (fun z => some (Value.int z)) (by unfold own_f7; simp only [if_neg hc3_7, if_neg hc13_8]), N0, rfl⟩
def own_f9 (x1 : Int32) (y1 : Int32) : Int32 := (if x1 < y1 then (-1 : Int32) else (if x1 = y1 then (0 : Int32) else (1 : Int32)))
theorem pn_java_lang_Integer : plainName "java/lang/Integer" = true := by first | (simp [plainName, overriddenIn]; done) | decide +kernel
theorem d9_0 : decode jdk_33_method_40_code 0 = .ok (.iload_n 0, 1) := by decide +kernel
theorem d9_1 : decode jdk_33_method_40_code 1 = .ok (.iload_n 1, 1) := by decide +kernel
theorem d9_2 : decode jdk_33_method_40_code 2 = .ok (.if_icmp .ge 7, 3) := by decide +kernel
theorem d9_5 : decode jdk_33_method_40_code 5 = .ok (.iconst (-1), 1) := by decide +kernel
theorem d9_6 : decode jdk_33_method_40_code 6 = .ok (.goto 13, 3) := by decide +kernel
theorem d9_9 : decode jdk_33_method_40_code 9 = .ok (.iload_n 0, 1) := by decide +kernel
theorem d9_10 : decode jdk_33_method_40_code 10 = .ok (.iload_n 1, 1) := by decide +kernel
theorem d9_11 : decode jdk_33_method_40_code 11 = .ok (.if_icmp .ne 7, 3) := by decide +kernel
theorem d9_14 : decode jdk_33_method_40_code 14 = .ok (.iconst 0, 1) := by decide +kernel
theorem d9_15 : decode jdk_33_method_40_code 15 = .ok (.goto 4, 3) := by decide +kernel
theorem d9_18 : decode jdk_33_method_40_code 18 = .ok (.iconst 1, 1) := by decide +kernel
theorem d9_19 : decode jdk_33_method_40_code 19 = .ok (.ireturn, 1) := by decide +kernel
theorem ef_9 (m : MethodId) (x0 : Int32) (x1 : Int32) : entryFrame m #[(.int x0), (.int x1)] 2 = mkF m 0 #[.val (.int x0), .val (.int x1)] [] := by first | (simp [entryFrame, mkF, argsToLocals, Value.category]; done) | rfl
def own_Q9 (Z : State) (x1 : Int32) (y1 : Int32) (h0 : Heap) (n0 : Nat) (v : Option Value) (h : Heap) (L : List Loc) : Prop := v = some (.int (own_f9 x1 y1)) ∧ Fr n0 L ∧ h = h0
set_option maxRecDepth 65536 in
set_option maxHeartbeats 40000000 in
theorem rm9 (l : Launch) (Z : State) (a0 : Array Value) (hw : ∀ d ∈ tables_1, d.before a0 Z = true) (ws : List Jvm.Cond) (x1 : Int32) (y1 : Int32) (h0 : Heap) (n0 : Nat) (Z0 : n0 ≤ h0.size)  :
    MetFree l (⟨"java/lang/Integer", "compare", "(II)I"⟩ : MethodName) (head1 (Jvm.Cond.code (⟨"java/lang/Integer", "compare", "(II)I"⟩ : MethodName) jdk_33_method_40_code 2 (some .int) :: ws) ({ frames := 0, cells := 0, slots := 0, locals := 0 } : Room)) (fun a U => a = #[(.int x1), (.int y1)] ∧ Z.Warmed39 U.vm ∧ U.heap = h0) (fun _ _ _ _ _ => True) (fun _ U o U' => ∃ v L, o = .returned v ∧ own_Q9 Z x1 y1 h0 n0 v U'.heap L ∧ FrameEnd U o U' L ({ frames := 0, cells := 0, slots := 0, locals := 0 } : Room).cells ({ frames := 0, cells := 0, slots := 0, locals := 0 } : Room).slots) := by
  refine MetFree.of_bodySF (plainFor_of_name pn_java_lang_Integer) hisR ?_
  intro p e s m args below meth c s₁ Bd hml0 hP hK
  obtain ⟨rfl, hZ, hh⟩ := hP
  have hx := Bd.exec
  have hby := Bd.bytes
  have hml : c.maxLocals = 2 := hml0
  have hown : s.vm.findClass "java/lang/Integer" = some m.cls := findClass_of_methodNamed Bd.named
  have hnm := (name_of_methodNamed Bd.named Bd.method).1
  have X0 : Stand p l e ({ frames := 0, cells := 0, slots := 0, locals := 0 } : Room) s m #[(.int x1), (.int y1)] below meth c s₁ [] 0 0 := Stand.of_body Bd
  have e0 : s₁.heap = h0 := by rw [← hh, Bd.state]; rfl
  have N0 := Fr.nil n0
  have Zs := Z0
  show own_Goes p e below s (own_Q9 Z x1 y1 h0 n0) ({ frames := 0, cells := 0, slots := 0, locals := 0 } : Room).cells ({ frames := 0, cells := 0, slots := 0, locals := 0 } : Room).slots _
  refine own_go (B := s₁.setTop (mkF m 0 #[.val (.int x1), .val (.int y1)] [])) (fun t k => castTop (ef_9 m x1 y1) k) ?_
  refine own_go (B := s₁.setTop (mkF m 1 #[.val (.int x1), .val (.int y1)] [(.int x1)])) (fun t k => XS.iloadN X0.here hx rfl (Jvm.hb hby d9_0) rfl k) ?_
  refine own_go (B := s₁.setTop (mkF m 2 #[.val (.int x1), .val (.int y1)] [(.int y1), (.int x1)])) (fun t k => XS.iloadN X0.here hx rfl (Jvm.hb hby d9_1) rfl k) ?_
  by_cases hc2_9 : x1 < y1
  · refine own_go (B := s₁.setTop (mkF m 5 #[.val (.int x1), .val (.int y1)] [])) (fun t k => XS.icmpNo X0.here hx rfl (Jvm.hb hby d9_2) rfl (tlt hc2_9).2.1 k) ?_
    refine own_go (B := s₁.setTop (mkF m 6 #[.val (.int x1), .val (.int y1)] [(.int (-1 : Int32))])) (fun t k => XS.iconst X0.here hx rfl (Jvm.hb hby d9_5) k) ?_
    refine own_go (B := s₁.setTop (mkF m 19 #[.val (.int x1), .val (.int y1)] [(.int (-1 : Int32))])) (fun t k => XS.goto X0.here hx rfl (pc0 := 6) (pc' := 19) rfl (Jvm.hb hby d9_6) (by decide) (by decide) k) ?_
    refine own_out X0 (v := (some (.int (-1 : Int32)))) (fun h => by rw [Bd.returns] at h; cases h) Bd.notSynchronized (fun fs hr => retOut X0 hx (t := .int) Bd.returns rfl (Or.inl ⟨rfl, Or.inl rfl, _, rfl⟩) (Jvm.hb hby d9_19) hr) ?_ (by decide) (by decide)
    show own_Q9 Z x1 y1 h0 n0 (some (.int (-1 : Int32))) s₁.heap _
    rw [e0]
    exact ⟨congrArg (fun z => some (Value.int z)) (by unfold own_f9; simp only [if_pos hc2_9]), N0, rfl⟩
  · refine own_go (B := s₁.setTop (mkF m 9 #[.val (.int x1), .val (.int y1)] [])) (fun t k => XS.icmpYes X0.here hx rfl (pc0 := 2) (pc' := 9) rfl (Jvm.hb hby d9_2) rfl (flt hc2_9).2.1 (by decide) (by decide) k) ?_
    refine own_go (B := s₁.setTop (mkF m 10 #[.val (.int x1), .val (.int y1)] [(.int x1)])) (fun t k => XS.iloadN X0.here hx rfl (Jvm.hb hby d9_9) rfl k) ?_
    refine own_go (B := s₁.setTop (mkF m 11 #[.val (.int x1), .val (.int y1)] [(.int y1), (.int x1)])) (fun t k => XS.iloadN X0.here hx rfl (Jvm.hb hby d9_10) rfl k) ?_
    by_cases hc11_10 : x1 = y1
    · refine own_go (B := s₁.setTop (mkF m 14 #[.val (.int x1), .val (.int y1)] [])) (fun t k => XS.icmpNo X0.here hx rfl (Jvm.hb hby d9_11) rfl (teq hc11_10).2 k) ?_
      refine own_go (B := s₁.setTop (mkF m 15 #[.val (.int x1), .val (.int y1)] [(.int (0 : Int32))])) (fun t k => XS.iconst X0.here hx rfl (Jvm.hb hby d9_14) k) ?_
      refine own_go (B := s₁.setTop (mkF m 19 #[.val (.int x1), .val (.int y1)] [(.int (0 : Int32))])) (fun t k => XS.goto X0.here hx rfl (pc0 := 15) (pc' := 19) rfl (Jvm.hb hby d9_15) (by decide) (by decide) k) ?_
      refine own_out X0 (v := (some (.int (0 : Int32)))) (fun h => by rw [Bd.returns] at h; cases h) Bd.notSynchronized (fun fs hr => retOut X0 hx (t := .int) Bd.returns rfl (Or.inl ⟨rfl, Or.inl rfl, _, rfl⟩) (Jvm.hb hby d9_19) hr) ?_ (by decide) (by decide)
      show own_Q9 Z x1 y1 h0 n0 (some (.int (0 : Int32))) s₁.heap _
      rw [e0]
      exact ⟨congrArg (fun z => some (Value.int z)) (by unfold own_f9; simp only [if_neg hc2_9, if_pos hc11_10]), N0, rfl⟩
    · refine own_go (B := s₁.setTop (mkF m 18 #[.val (.int x1), .val (.int y1)] [])) (fun t k => XS.icmpYes X0.here hx rfl (pc0 := 11) (pc' := 18) rfl (Jvm.hb hby d9_11) rfl (feq hc11_10).2 (by decide) (by decide) k) ?_
      refine own_go (B := s₁.setTop (mkF m 19 #[.val (.int x1), .val (.int y1)] [(.int (1 : Int32))])) (fun t k => XS.iconst X0.here hx rfl (Jvm.hb hby d9_18) k) ?_
      refine own_out X0 (v := (some (.int (1 : Int32)))) (fun h => by rw [Bd.returns] at h; cases h) Bd.notSynchronized (fun fs hr => retOut X0 hx (t := .int) Bd.returns rfl (Or.inl ⟨rfl, Or.inl rfl, _, rfl⟩) (Jvm.hb hby d9_19) hr) ?_ (by decide) (by decide)
      show own_Q9 Z x1 y1 h0 n0 (some (.int (1 : Int32))) s₁.heap _
      rw [e0]
      exact ⟨congrArg (fun z => some (Value.int z)) (by unfold own_f9; simp only [if_neg hc2_9, if_neg hc11_10]), N0, rfl⟩
def own_f8 (x1 : Int32) : Int32 := (if x1 < (0 : Int32) then (-1 : Int32) else (if (0 : Int32) < x1 then (1 : Int32) else (0 : Int32)))
theorem pn_com_example_vesta_vesta_protocol_TicketCompareToPinLaw : plainName "com/example/vesta/vesta/protocol/TicketCompareToPinLaw" = true := by first | (simp [plainName, overriddenIn]; done) | decide +kernel
theorem d8_0 : decode method_3_code 0 = .ok (.iload_n 0, 1) := by decide +kernel
theorem d8_1 : decode method_3_code 1 = .ok (.ifCond .ge 5, 3) := by decide +kernel
theorem d8_4 : decode method_3_code 4 = .ok (.iconst (-1), 1) := by decide +kernel
theorem d8_5 : decode method_3_code 5 = .ok (.ireturn, 1) := by decide +kernel
theorem d8_6 : decode method_3_code 6 = .ok (.iload_n 0, 1) := by decide +kernel
theorem d8_7 : decode method_3_code 7 = .ok (.ifCond .le 5, 3) := by decide +kernel
theorem d8_10 : decode method_3_code 10 = .ok (.iconst 1, 1) := by decide +kernel
theorem d8_11 : decode method_3_code 11 = .ok (.ireturn, 1) := by decide +kernel
theorem d8_12 : decode method_3_code 12 = .ok (.iconst 0, 1) := by decide +kernel
theorem d8_13 : decode method_3_code 13 = .ok (.ireturn, 1) := by decide +kernel
theorem ef_8 (m : MethodId) (x0 : Int32) : entryFrame m #[(.int x0)] 1 = mkF m 0 #[.val (.int x0)] [] := by first | (simp [entryFrame, mkF, argsToLocals, Value.category]; done) | rfl
def own_Q8 (Z : State) (x1 : Int32) (h0 : Heap) (n0 : Nat) (v : Option Value) (h : Heap) (L : List Loc) : Prop := v = some (.int (own_f8 x1)) ∧ Fr n0 L ∧ h = h0
set_option maxRecDepth 65536 in
set_option maxHeartbeats 40000000 in
theorem rm8 (l : Launch) (Z : State) (a0 : Array Value) (hw : ∀ d ∈ tables_1, d.before a0 Z = true) (ws : List Jvm.Cond) (x1 : Int32) (h0 : Heap) (n0 : Nat) (Z0 : n0 ≤ h0.size)  :
    MetFree l (⟨"com/example/vesta/vesta/protocol/TicketCompareToPinLaw", "sign", "(I)I"⟩ : MethodName) (head1 (Jvm.Cond.code (⟨"com/example/vesta/vesta/protocol/TicketCompareToPinLaw", "sign", "(I)I"⟩ : MethodName) method_3_code 1 (some .int) :: ws) ({ frames := 0, cells := 0, slots := 0, locals := 0 } : Room)) (fun a U => a = #[(.int x1)] ∧ Z.Warmed39 U.vm ∧ U.heap = h0) (fun _ _ _ _ _ => True) (fun _ U o U' => ∃ v L, o = .returned v ∧ own_Q8 Z x1 h0 n0 v U'.heap L ∧ FrameEnd U o U' L ({ frames := 0, cells := 0, slots := 0, locals := 0 } : Room).cells ({ frames := 0, cells := 0, slots := 0, locals := 0 } : Room).slots) := by
  refine MetFree.of_bodySF (plainFor_of_name pn_com_example_vesta_vesta_protocol_TicketCompareToPinLaw) hisR ?_
  intro p e s m args below meth c s₁ Bd hml0 hP hK
  obtain ⟨rfl, hZ, hh⟩ := hP
  have hx := Bd.exec
  have hby := Bd.bytes
  have hml : c.maxLocals = 1 := hml0
  have hown : s.vm.findClass "com/example/vesta/vesta/protocol/TicketCompareToPinLaw" = some m.cls := findClass_of_methodNamed Bd.named
  have hnm := (name_of_methodNamed Bd.named Bd.method).1
  have X0 : Stand p l e ({ frames := 0, cells := 0, slots := 0, locals := 0 } : Room) s m #[(.int x1)] below meth c s₁ [] 0 0 := Stand.of_body Bd
  have e0 : s₁.heap = h0 := by rw [← hh, Bd.state]; rfl
  have N0 := Fr.nil n0
  have Zs := Z0
  show own_Goes p e below s (own_Q8 Z x1 h0 n0) ({ frames := 0, cells := 0, slots := 0, locals := 0 } : Room).cells ({ frames := 0, cells := 0, slots := 0, locals := 0 } : Room).slots _
  refine own_go (B := s₁.setTop (mkF m 0 #[.val (.int x1)] [])) (fun t k => castTop (ef_8 m x1) k) ?_
  refine own_go (B := s₁.setTop (mkF m 1 #[.val (.int x1)] [(.int x1)])) (fun t k => XS.iloadN X0.here hx rfl (Jvm.hb hby d8_0) rfl k) ?_
  by_cases hc1_11 : x1 < (0 : Int32)
  · refine own_go (B := s₁.setTop (mkF m 4 #[.val (.int x1)] [])) (fun t k => XS.ifNo X0.here hx rfl (Jvm.hb hby d8_1) rfl ((if0 _ _).trans (tlt hc1_11).2.1) k) ?_
    refine own_go (B := s₁.setTop (mkF m 5 #[.val (.int x1)] [(.int (-1 : Int32))])) (fun t k => XS.iconst X0.here hx rfl (Jvm.hb hby d8_4) k) ?_
    refine own_out X0 (v := (some (.int (-1 : Int32)))) (fun h => by rw [Bd.returns] at h; cases h) Bd.notSynchronized (fun fs hr => retOut X0 hx (t := .int) Bd.returns rfl (Or.inl ⟨rfl, Or.inl rfl, _, rfl⟩) (Jvm.hb hby d8_5) hr) ?_ (by decide) (by decide)
    show own_Q8 Z x1 h0 n0 (some (.int (-1 : Int32))) s₁.heap _
    rw [e0]
    exact ⟨congrArg (fun z => some (Value.int z)) (by unfold own_f8; simp only [if_pos hc1_11]), N0, rfl⟩
  · refine own_go (B := s₁.setTop (mkF m 6 #[.val (.int x1)] [])) (fun t k => XS.ifYes X0.here hx rfl (pc0 := 1) (pc' := 6) rfl (Jvm.hb hby d8_1) rfl ((if0 _ _).trans (flt hc1_11).2.1) (by decide) (by decide) k) ?_
    refine own_go (B := s₁.setTop (mkF m 7 #[.val (.int x1)] [(.int x1)])) (fun t k => XS.iloadN X0.here hx rfl (Jvm.hb hby d8_6) rfl k) ?_
    by_cases hc7_12 : (0 : Int32) < x1
    · refine own_go (B := s₁.setTop (mkF m 10 #[.val (.int x1)] [])) (fun t k => XS.ifNo X0.here hx rfl (Jvm.hb hby d8_7) rfl ((if0 _ _).trans (tlt hc7_12).2.2.2) k) ?_
      refine own_go (B := s₁.setTop (mkF m 11 #[.val (.int x1)] [(.int (1 : Int32))])) (fun t k => XS.iconst X0.here hx rfl (Jvm.hb hby d8_10) k) ?_
      refine own_out X0 (v := (some (.int (1 : Int32)))) (fun h => by rw [Bd.returns] at h; cases h) Bd.notSynchronized (fun fs hr => retOut X0 hx (t := .int) Bd.returns rfl (Or.inl ⟨rfl, Or.inl rfl, _, rfl⟩) (Jvm.hb hby d8_11) hr) ?_ (by decide) (by decide)
      show own_Q8 Z x1 h0 n0 (some (.int (1 : Int32))) s₁.heap _
      rw [e0]
      exact ⟨congrArg (fun z => some (Value.int z)) (by unfold own_f8; simp only [if_neg hc1_11, if_pos hc7_12]), N0, rfl⟩
    · refine own_go (B := s₁.setTop (mkF m 12 #[.val (.int x1)] [])) (fun t k => XS.ifYes X0.here hx rfl (pc0 := 7) (pc' := 12) rfl (Jvm.hb hby d8_7) rfl ((if0 _ _).trans (flt hc7_12).2.2.2) (by decide) (by decide) k) ?_
      refine own_go (B := s₁.setTop (mkF m 13 #[.val (.int x1)] [(.int (0 : Int32))])) (fun t k => XS.iconst X0.here hx rfl (Jvm.hb hby d8_12) k) ?_
      refine own_out X0 (v := (some (.int (0 : Int32)))) (fun h => by rw [Bd.returns] at h; cases h) Bd.notSynchronized (fun fs hr => retOut X0 hx (t := .int) Bd.returns rfl (Or.inl ⟨rfl, Or.inl rfl, _, rfl⟩) (Jvm.hb hby d8_13) hr) ?_ (by decide) (by decide)
      show own_Q8 Z x1 h0 n0 (some (.int (0 : Int32))) s₁.heap _
      rw [e0]
      exact ⟨congrArg (fun z => some (Value.int z)) (by unfold own_f8; simp only [if_neg hc1_11, if_neg hc7_12]), N0, rfl⟩
def own_cmp (n : Int64) (i : Int32) (m : Int64) (j : Int32) : Int32 := if own_f7 n m = (0 : Int32) then own_f9 i j else own_f7 n m
theorem d6_0 : decode prog_19_method_5_code 0 = .ok (.aload_n 0, 1) := by decide +kernel
theorem d6_1 : decode prog_19_method_5_code 1 = .ok (.getfield 26, 3) := by decide +kernel
theorem d6_4 : decode prog_19_method_5_code 4 = .ok (.aload_n 1, 1) := by decide +kernel
theorem d6_5 : decode prog_19_method_5_code 5 = .ok (.getfield 26, 3) := by decide +kernel
theorem d6_8 : decode prog_19_method_5_code 8 = .ok (.invokestatic 42, 3) := by decide +kernel
theorem d6_11 : decode prog_19_method_5_code 11 = .ok (.istore_n 2, 1) := by decide +kernel
theorem d6_12 : decode prog_19_method_5_code 12 = .ok (.iload_n 2, 1) := by decide +kernel
theorem d6_13 : decode prog_19_method_5_code 13 = .ok (.ifCond .ne 15, 3) := by decide +kernel
theorem d6_16 : decode prog_19_method_5_code 16 = .ok (.aload_n 0, 1) := by decide +kernel
theorem d6_17 : decode prog_19_method_5_code 17 = .ok (.getfield 30, 3) := by decide +kernel
theorem d6_20 : decode prog_19_method_5_code 20 = .ok (.aload_n 1, 1) := by decide +kernel
theorem d6_21 : decode prog_19_method_5_code 21 = .ok (.getfield 30, 3) := by decide +kernel
theorem d6_24 : decode prog_19_method_5_code 24 = .ok (.invokestatic 46, 3) := by decide +kernel
theorem d6_27 : decode prog_19_method_5_code 27 = .ok (.istore_n 2, 1) := by decide +kernel
theorem d6_28 : decode prog_19_method_5_code 28 = .ok (.iload_n 2, 1) := by decide +kernel
theorem d6_29 : decode prog_19_method_5_code 29 = .ok (.ireturn, 1) := by decide +kernel
theorem pd_2 : parseMethodDescriptor "(JJ)I" = some ⟨[.long, .long], some .int⟩ := by decide +kernel
theorem pd_3 : parseMethodDescriptor "(II)I" = some ⟨[.int, .int], some .int⟩ := by decide +kernel
theorem ef_6 (m : MethodId) (x0 : Addr) (x1 : Addr) : entryFrame m #[(.ref x0), (.ref x1)] 3 = mkF m 0 #[.val (.ref x0), .val (.ref x1), .unset] [] := by first | (simp [entryFrame, mkF, argsToLocals, Value.category]; done) | rfl
def own_Q6 (Z : State) (za : Addr) (zb : Addr) (zn : Int64) (zi : Int32) (zm : Int64) (zj : Int32) (h0 : Heap) (n0 : Nat) (v : Option Value) (h : Heap) (L : List Loc) : Prop := v = some (.int (own_cmp zn zi zm zj)) ∧ Fr n0 L ∧ h = h0
set_option maxRecDepth 65536 in
set_option maxHeartbeats 40000000 in
theorem rm6 (l : Launch) (Z : State) (a0 : Array Value) (hw : ∀ d ∈ tables_1, d.before a0 Z = true) (ws : List Jvm.Cond) (za : Addr) (zb : Addr) (zn : Int64) (zi : Int32) (zm : Int64) (zj : Int32) (h0 : Heap) (n0 : Nat) (Z0 : n0 ≤ h0.size) (F_za_number : Fld Z h0 za "com/example/vesta/vesta/protocol/Ticket" "number" "J" (.long zn)) (F_za_memberId : Fld Z h0 za "com/example/vesta/vesta/protocol/Ticket" "memberId" "I" (.int zi)) (F_zb_number : Fld Z h0 zb "com/example/vesta/vesta/protocol/Ticket" "number" "J" (.long zm)) (F_zb_memberId : Fld Z h0 zb "com/example/vesta/vesta/protocol/Ticket" "memberId" "I" (.int zj)) :
    MetFree l (⟨"com/example/vesta/vesta/protocol/Ticket", "compareTo", "(Lcom/example/vesta/vesta/protocol/Ticket;)I"⟩ : MethodName) (head1 (Jvm.Cond.code (⟨"com/example/vesta/vesta/protocol/Ticket", "compareTo", "(Lcom/example/vesta/vesta/protocol/Ticket;)I"⟩ : MethodName) prog_19_method_5_code 3 (some .int) :: ws) ({ frames := 1, cells := 0, slots := 0, locals := 15 } : Room)) (fun a U => a = #[(.ref za), (.ref zb)] ∧ Z.Warmed39 U.vm ∧ U.heap = h0) (fun _ _ _ _ _ => True) (fun _ U o U' => ∃ v L, o = .returned v ∧ own_Q6 Z za zb zn zi zm zj h0 n0 v U'.heap L ∧ FrameEnd U o U' L ({ frames := 1, cells := 0, slots := 0, locals := 15 } : Room).cells ({ frames := 1, cells := 0, slots := 0, locals := 15 } : Room).slots) := by
  refine MetFree.of_bodySF (plainFor_of_name pn_com_example_vesta_vesta_protocol_Ticket) hisR ?_
  intro p e s m args below meth c s₁ Bd hml0 hP hK
  obtain ⟨rfl, hZ, hh⟩ := hP
  have hx := Bd.exec
  have hby := Bd.bytes
  have hml : c.maxLocals = 3 := hml0
  have hown : s.vm.findClass "com/example/vesta/vesta/protocol/Ticket" = some m.cls := findClass_of_methodNamed Bd.named
  have hnm := (name_of_methodNamed Bd.named Bd.method).1
  have X0 : Stand p l e ({ frames := 1, cells := 0, slots := 0, locals := 15 } : Room) s m #[(.ref za), (.ref zb)] below meth c s₁ [] 0 0 := Stand.of_body Bd
  have e0 : s₁.heap = h0 := by rw [← hh, Bd.state]; rfl
  have N0 := Fr.nil n0
  have Zs := Z0
  show own_Goes p e below s (own_Q6 Z za zb zn zi zm zj h0 n0) ({ frames := 1, cells := 0, slots := 0, locals := 15 } : Room).cells ({ frames := 1, cells := 0, slots := 0, locals := 15 } : Room).slots _
  refine own_go (B := s₁.setTop (mkF m 0 #[.val (.ref za), .val (.ref zb), .unset] [])) (fun t k => castTop (ef_6 m za zb) k) ?_
  refine own_go (B := s₁.setTop (mkF m 1 #[.val (.ref za), .val (.ref zb), .unset] [(.ref za)])) (fun t k => XS.aloadN X0.here hx rfl (Jvm.hb hby d6_0) rfl rfl k) ?_
  obtain ⟨T13, X13, e13, st13⟩ := getF X0 hx hZ hown (host := "") (Or.inl (own_w hw 24 rfl)) Via.refl e0 F_za_number (g := (mkF m 1 #[.val (.ref za), .val (.ref zb), .unset] [(.ref za)])) rfl rfl (Jvm.hb hby d6_1)
  refine own_go (B := T13.setTop (mkF m 4 #[.val (.ref za), .val (.ref zb), .unset] [(.long zn)])) (fun t k => st13 _ k) ?_
  refine own_go (B := T13.setTop (mkF m 5 #[.val (.ref za), .val (.ref zb), .unset] [(.ref zb), (.long zn)])) (fun t k => XS.aloadN X13.here hx rfl (Jvm.hb hby d6_4) rfl rfl k) ?_
  obtain ⟨T14, X14, e14, st14⟩ := getF X13 hx hZ hown (host := "") (Or.inl (own_w hw 24 rfl)) Via.refl e13 F_zb_number (g := (mkF m 5 #[.val (.ref za), .val (.ref zb), .unset] [(.ref zb), (.long zn)])) rfl rfl (Jvm.hb hby d6_5)
  refine own_go (B := T14.setTop (mkF m 8 #[.val (.ref za), .val (.ref zb), .unset] [(.long zm), (.long zn)])) (fun t k => st14 _ k) ?_
  obtain ⟨_, _, ⟨T15, La15, ka15, na15⟩, -, X15, ⟨Lc15, hQ15, l15, y15, z15⟩, st15⟩ := Jvm.LawKit.callS X14 hx (y := (⟨"java/lang/Long", "compare", "(JJ)I"⟩ : MethodName)) hown (mvT hZ (own_w hw 33 rfl)) (mvT hZ (own_w hw 34 rfl)) (mvT hZ (own_w hw 35 rfl)) (mvT hZ (own_w hw 36 rfl)) (by decide) (backOf (W := 0) (rm7 l Z a0 hw [] zn zm h0 n0 Zs) hZ (own_w hw 36 rfl) (own_w hw 35 rfl) (by decide) (by decide)) (g := (mkF m 8 #[.val (.ref za), .val (.ref zb), .unset] [(.long zm), (.long zn)])) rfl (by rw [hml]; rfl) (argsL := [(.long zn), (.long zm)]) (rest := []) (lenOf pd_2 rfl) rfl (by show 2 * 0 + _ ≤ _; exact Nat.le_of_eq rfl) (Jvm.hb hby d6_8) (fun _ _ => ⟨rfl, e14, (by decide : 0 + 0 ≤ _), (by decide : 0 + 0 ≤ _)⟩)
  dsimp only [Pt.U, Pt.locs, Pt.cells, Pt.slots] at X15 l15 y15 z15 st15 hQ15
  subst l15 y15 z15
  obtain ⟨rfl, N15q, e15⟩ := hQ15
  have N15 := Fr.app N0 N15q
  refine own_go (B := T15.setTop (mkF m 11 #[.val (.ref za), .val (.ref zb), .unset] [(.int (own_f7 zn zm))])) (fun t k => st15 _ k) ?_
  refine own_go (B := T15.setTop (mkF m 12 #[.val (.ref za), .val (.ref zb), .val (.int (own_f7 zn zm))] [])) (fun t k => XS.istoreN X15.here hx rfl (Jvm.hb hby d6_11) rfl (l' := #[.val (.ref za), .val (.ref zb), .val (.int (own_f7 zn zm))]) rfl k) ?_
  refine own_go (B := T15.setTop (mkF m 13 #[.val (.ref za), .val (.ref zb), .val (.int (own_f7 zn zm))] [(.int (own_f7 zn zm))])) (fun t k => XS.iloadN X15.here hx rfl (Jvm.hb hby d6_12) rfl k) ?_
  by_cases hc13_16 : (own_f7 zn zm) = (0 : Int32)
  · refine own_go (B := T15.setTop (mkF m 16 #[.val (.ref za), .val (.ref zb), .val (.int (own_f7 zn zm))] [])) (fun t k => XS.ifNo X15.here hx rfl (Jvm.hb hby d6_13) rfl ((if0 _ _).trans (teq hc13_16).2) k) ?_
    refine own_go (B := T15.setTop (mkF m 17 #[.val (.ref za), .val (.ref zb), .val (.int (own_f7 zn zm))] [(.ref za)])) (fun t k => XS.aloadN X15.here hx rfl (Jvm.hb hby d6_16) rfl rfl k) ?_
    obtain ⟨T17, X17, e17, st17⟩ := getF X15 hx hZ hown (host := "") (Or.inl (own_w hw 26 rfl)) Via.refl e15 F_za_memberId (g := (mkF m 17 #[.val (.ref za), .val (.ref zb), .val (.int (own_f7 zn zm))] [(.ref za)])) rfl rfl (Jvm.hb hby d6_17)
    refine own_go (B := T17.setTop (mkF m 20 #[.val (.ref za), .val (.ref zb), .val (.int (own_f7 zn zm))] [(.int zi)])) (fun t k => st17 _ k) ?_
    refine own_go (B := T17.setTop (mkF m 21 #[.val (.ref za), .val (.ref zb), .val (.int (own_f7 zn zm))] [(.ref zb), (.int zi)])) (fun t k => XS.aloadN X17.here hx rfl (Jvm.hb hby d6_20) rfl rfl k) ?_
    obtain ⟨T18, X18, e18, st18⟩ := getF X17 hx hZ hown (host := "") (Or.inl (own_w hw 26 rfl)) Via.refl e17 F_zb_memberId (g := (mkF m 21 #[.val (.ref za), .val (.ref zb), .val (.int (own_f7 zn zm))] [(.ref zb), (.int zi)])) rfl rfl (Jvm.hb hby d6_21)
    refine own_go (B := T18.setTop (mkF m 24 #[.val (.ref za), .val (.ref zb), .val (.int (own_f7 zn zm))] [(.int zj), (.int zi)])) (fun t k => st18 _ k) ?_
    obtain ⟨_, _, ⟨T19, La19, ka19, na19⟩, -, X19, ⟨Lc19, hQ19, l19, y19, z19⟩, st19⟩ := Jvm.LawKit.callS X18 hx (y := (⟨"java/lang/Integer", "compare", "(II)I"⟩ : MethodName)) hown (mvT hZ (own_w hw 41 rfl)) (mvT hZ (own_w hw 42 rfl)) (mvT hZ (own_w hw 43 rfl)) (mvT hZ (own_w hw 44 rfl)) (by decide) (backOf (W := 0) (rm9 l Z a0 hw [] zi zj h0 n0 Zs) hZ (own_w hw 44 rfl) (own_w hw 43 rfl) (by decide) (by decide)) (g := (mkF m 24 #[.val (.ref za), .val (.ref zb), .val (.int (own_f7 zn zm))] [(.int zj), (.int zi)])) rfl (by rw [hml]; rfl) (argsL := [(.int zi), (.int zj)]) (rest := []) (lenOf pd_3 rfl) rfl (by show 2 * 0 + _ ≤ _; exact Nat.le_of_eq rfl) (Jvm.hb hby d6_24) (fun _ _ => ⟨rfl, e18, (by decide : 0 + 0 ≤ _), (by decide : 0 + 0 ≤ _)⟩)
    dsimp only [Pt.U, Pt.locs, Pt.cells, Pt.slots] at X19 l19 y19 z19 st19 hQ19
    subst l19 y19 z19
    obtain ⟨rfl, N19q, e19⟩ := hQ19
    have N19 := Fr.app N15 N19q
    refine own_go (B := T19.setTop (mkF m 27 #[.val (.ref za), .val (.ref zb), .val (.int (own_f7 zn zm))] [(.int (own_f9 zi zj))])) (fun t k => st19 _ k) ?_
    refine own_go (B := T19.setTop (mkF m 28 #[.val (.ref za), .val (.ref zb), .val (.int (own_f9 zi zj))] [])) (fun t k => XS.istoreN X19.here hx rfl (Jvm.hb hby d6_27) rfl (l' := #[.val (.ref za), .val (.ref zb), .val (.int (own_f9 zi zj))]) rfl k) ?_
    refine own_go (B := T19.setTop (mkF m 29 #[.val (.ref za), .val (.ref zb), .val (.int (own_f9 zi zj))] [(.int (own_f9 zi zj))])) (fun t k => XS.iloadN X19.here hx rfl (Jvm.hb hby d6_28) rfl k) ?_
    refine own_out X19 (v := (some (.int (own_f9 zi zj)))) (fun h => by rw [Bd.returns] at h; cases h) Bd.notSynchronized (fun fs hr => retOut X19 hx (t := .int) Bd.returns rfl (Or.inl ⟨rfl, Or.inl rfl, _, rfl⟩) (Jvm.hb hby d6_29) hr) ?_ (by decide) (by decide)
    show own_Q6 Z za zb zn zi zm zj h0 n0 (some (.int (own_f9 zi zj))) T19.heap _
    rw [e19]
    exact ⟨(by unfold own_cmp; rw [if_pos hc13_16]), N19, rfl⟩
  · refine own_go (B := T15.setTop (mkF m 28 #[.val (.ref za), .val (.ref zb), .val (.int (own_f7 zn zm))] [])) (fun t k => XS.ifYes X15.here hx rfl (pc0 := 13) (pc' := 28) rfl (Jvm.hb hby d6_13) rfl ((if0 _ _).trans (feq hc13_16).2) (by decide) (by decide) k) ?_
    refine own_go (B := T15.setTop (mkF m 29 #[.val (.ref za), .val (.ref zb), .val (.int (own_f7 zn zm))] [(.int (own_f7 zn zm))])) (fun t k => XS.iloadN X15.here hx rfl (Jvm.hb hby d6_28) rfl k) ?_
    refine own_out X15 (v := (some (.int (own_f7 zn zm)))) (fun h => by rw [Bd.returns] at h; cases h) Bd.notSynchronized (fun fs hr => retOut X15 hx (t := .int) Bd.returns rfl (Or.inl ⟨rfl, Or.inl rfl, _, rfl⟩) (Jvm.hb hby d6_29) hr) ?_ (by decide) (by decide)
    show own_Q6 Z za zb zn zi zm zj h0 n0 (some (.int (own_f7 zn zm))) T15.heap _
    rw [e15]
    exact ⟨(by unfold own_cmp; rw [if_neg hc13_16]), N15, rfl⟩
theorem own_c1 (a : Int64) (x : Int32) (b : Int64) (y : Int32) : own_f8 (own_cmp a x b y) = if a < b then (-1 : Int32) else if b < a then (1 : Int32) else if x < y then (-1 : Int32) else if y < x then (1 : Int32) else (0 : Int32) := by
  unfold own_cmp own_f7 own_f9
  by_cases h1 : a < b
  · simp only [if_pos h1]; rw [if_neg (by decide)]; decide
  · by_cases h2 : b < a
    · have h3 : ¬ (a = b) := fun z => by rw [z, Int64.lt_iff_toInt_lt] at h2; omega
      simp only [if_neg h1, if_pos h2, if_neg h3]; rw [if_neg (by decide)]; decide
    · have h3 : a = b := Int64.toInt_inj.mp (by rw [Int64.lt_iff_toInt_lt] at h1 h2; omega)
      simp only [if_neg h1, if_neg h2, if_pos h3, if_true]
      by_cases h4 : x < y
      · simp only [if_pos h4]; decide
      · by_cases h5 : y < x
        · have h6 : ¬ (x = y) := fun z => by rw [z, Int32.lt_iff_toInt_lt] at h5; omega
          simp only [if_neg h4, if_pos h5, if_neg h6]; decide
        · have h6 : x = y := Int32.toInt_inj.mp (by rw [Int32.lt_iff_toInt_lt] at h4 h5; omega)
          simp only [if_neg h4, if_neg h5, if_pos h6]; decide
theorem own_c2 (a : Int64) (x : Int32) (b : Int64) (y : Int32) : own_f8 (own_cmp b y a x) = if a < b then (1 : Int32) else if b < a then (-1 : Int32) else if x < y then (1 : Int32) else if y < x then (-1 : Int32) else (0 : Int32) := by
  rw [own_c1]
  by_cases h1 : a < b
  · have h2 : ¬ (b < a) := by rw [Int64.lt_iff_toInt_lt] at *; omega
    simp only [if_pos h1, if_neg h2]
  · by_cases h2 : b < a
    · simp only [if_neg h1, if_pos h2]
    · simp only [if_neg h1, if_neg h2]
      by_cases h4 : x < y
      · have h5 : ¬ (y < x) := by rw [Int32.lt_iff_toInt_lt] at *; omega
        simp only [if_pos h4, if_neg h5]
      · simp only [if_neg h4]
theorem pd_4 : parseMethodDescriptor "(JJ)J" = some ⟨[.long, .long], some .long⟩ := by decide +kernel
theorem pd_5 : parseMethodDescriptor "(JI)V" = some ⟨[.long, .int], none⟩ := by decide +kernel
theorem pd_6 : parseMethodDescriptor "(Lcom/example/vesta/vesta/protocol/Ticket;)I" = some ⟨[(.object "com/example/vesta/vesta/protocol/Ticket")], some .int⟩ := by decide +kernel
theorem ef_0 (m : MethodId) (x0 : Int64) (x1 : Int64) (x2 : Int32) (x3 : Int32) (x4 : Int32) : entryFrame m #[(.long x0), (.long x1), (.int x2), (.int x3), (.int x4)] maxLocals = mkF m 0 #[.val (.long x0), .second, .val (.long x1), .second, .val (.int x2), .val (.int x3), .val (.int x4), .unset, .unset, .unset, .unset, .unset, .unset, .unset, .unset, .unset] [] := by first | (simp [entryFrame, mkF, argsToLocals, Value.category, maxLocals]; done) | rfl
def own_Q0 (Z : State) (q1 : Int64) (q2 : Int64) (p3 : Int32) (p4 : Int32) (p5 : Int32) (h0 : Heap) (n0 : Nat) (v : Option Value) (h : Heap) (L : List Loc) : Prop := v = some (.int 1) ∧ Fr n0 L
set_option maxRecDepth 65536 in
set_option maxHeartbeats 40000000 in
theorem rm0 (l : Launch) (Z : State) (a0 : Array Value) (hw : ∀ d ∈ tables_1, d.before a0 Z = true) (ws : List Jvm.Cond) (q1 : Int64) (q2 : Int64) (p3 : Int32) (p4 : Int32) (p5 : Int32) (h0 : Heap) (n0 : Nat) (Z0 : n0 ≤ h0.size)  :
    MetFree l x (head1 (Jvm.Cond.code x code maxLocals ret :: ws) room_1) (fun a U => a = #[(.long q1), (.long q2), (.int p3), (.int p4), (.int p5)] ∧ Z.Warmed39 U.vm ∧ U.heap = h0) (fun _ _ _ _ _ => True) (fun _ U o U' => ∃ v L, o = .returned v ∧ own_Q0 Z q1 q2 p3 p4 p5 h0 n0 v U'.heap L ∧ FrameEnd U o U' L room_1.cells room_1.slots) := by
  refine MetFree.of_bodySF (plainFor_of_name pn_com_example_vesta_vesta_protocol_TicketCompareToPinLaw) hisR ?_
  intro p e s m args below meth c s₁ Bd hml0 hP hK
  obtain ⟨rfl, hZ, hh⟩ := hP
  have hx := Bd.exec
  have hby := Bd.bytes
  have hml : c.maxLocals = 16 := hml0
  have hown : s.vm.findClass "com/example/vesta/vesta/protocol/TicketCompareToPinLaw" = some m.cls := findClass_of_methodNamed Bd.named
  have hnm := (name_of_methodNamed Bd.named Bd.method).1
  have X0 : Stand p l e room_1 s m #[(.long q1), (.long q2), (.int p3), (.int p4), (.int p5)] below meth c s₁ [] 0 0 := Stand.of_body Bd
  have e0 : s₁.heap = h0 := by rw [← hh, Bd.state]; rfl
  have N0 := Fr.nil n0
  have Zs := Z0
  show own_Goes p e below s (own_Q0 Z q1 q2 p3 p4 p5 h0 n0) room_1.cells room_1.slots _
  refine own_go (B := s₁.setTop (mkF m 0 #[.val (.long q1), .second, .val (.long q2), .second, .val (.int p3), .val (.int p4), .val (.int p5), .unset, .unset, .unset, .unset, .unset, .unset, .unset, .unset, .unset] [])) (fun t k => castTop (ef_0 m q1 q2 p3 p4 p5) k) ?_
  refine own_go (B := s₁.setTop (mkF m 1 #[.val (.long q1), .second, .val (.long q2), .second, .val (.int p3), .val (.int p4), .val (.int p5), .unset, .unset, .unset, .unset, .unset, .unset, .unset, .unset, .unset] [(.long (1 : Int64))])) (fun t k => XS.lconst X0.here hx rfl (Jvm.hb hby at_0) k) ?_
  refine own_go (B := s₁.setTop (mkF m 2 #[.val (.long q1), .second, .val (.long q2), .second, .val (.int p3), .val (.int p4), .val (.int p5), .unset, .unset, .unset, .unset, .unset, .unset, .unset, .unset, .unset] [(.long q1), (.long (1 : Int64))])) (fun t k => XS.lloadN X0.here hx rfl (Jvm.hb hby at_1) rfl k) ?_
  refine own_go (B := s₁.setTop (mkF m 5 #[.val (.long q1), .second, .val (.long q2), .second, .val (.int p3), .val (.int p4), .val (.int p5), .unset, .unset, .unset, .unset, .unset, .unset, .unset, .unset, .unset] [(.long (36028797018963967 : Int64)), (.long q1), (.long (1 : Int64))])) (fun t k => X0.ldc2Long hx hown (mvT hZ (own_w hw 0 rfl)) (g := (mkF m 2 #[.val (.long q1), .second, .val (.long q2), .second, .val (.int p3), .val (.int p4), .val (.int p5), .unset, .unset, .unset, .unset, .unset, .unset, .unset, .unset, .unset] [(.long q1), (.long (1 : Int64))])) rfl (Jvm.hb hby at_2) _ k) ?_
  refine own_go (B := s₁.setTop (mkF m 6 #[.val (.long q1), .second, .val (.long q2), .second, .val (.int p3), .val (.int p4), .val (.int p5), .unset, .unset, .unset, .unset, .unset, .unset, .unset, .unset, .unset] [(.long (q1 &&& (36028797018963967 : Int64))), (.long (1 : Int64))])) (fun t k => XS.land X0.here hx rfl (Jvm.hb hby at_5) rfl k) ?_
  obtain ⟨_, _, ⟨T20, La20, ka20, na20⟩, -, X20, ⟨Lc20, hQ20, l20, y20, z20⟩, st20⟩ := Jvm.LawKit.callS X0 hx (y := (⟨"java/lang/Math", "max", "(JJ)J"⟩ : MethodName)) hown (mvT hZ (own_w hw 1 rfl)) (mvT hZ (own_w hw 2 rfl)) (mvT hZ (own_w hw 3 rfl)) (mvT hZ (own_w hw 4 rfl)) (by decide) (backOf (W := 0) (rm1 l Z a0 hw [] (1 : Int64) (q1 &&& (36028797018963967 : Int64)) h0 n0 Zs) hZ (own_w hw 4 rfl) (own_w hw 3 rfl) (by decide) (by decide)) (g := (mkF m 6 #[.val (.long q1), .second, .val (.long q2), .second, .val (.int p3), .val (.int p4), .val (.int p5), .unset, .unset, .unset, .unset, .unset, .unset, .unset, .unset, .unset] [(.long (q1 &&& (36028797018963967 : Int64))), (.long (1 : Int64))])) rfl (by rw [hml]; rfl) (argsL := [(.long (1 : Int64)), (.long (q1 &&& (36028797018963967 : Int64)))]) (rest := []) (lenOf pd_4 rfl) rfl (by show 2 * 0 + _ ≤ _; exact Nat.le_of_eq rfl) (Jvm.hb hby at_6) (fun _ _ => ⟨rfl, e0, (by decide : 0 + 0 ≤ _), (by decide : 0 + 0 ≤ _)⟩)
  dsimp only [Pt.U, Pt.locs, Pt.cells, Pt.slots] at X20 l20 y20 z20 st20 hQ20
  subst l20 y20 z20
  obtain ⟨rfl, N20q, e20⟩ := hQ20
  have N20 := Fr.app N0 N20q
  refine own_go (B := T20.setTop (mkF m 9 #[.val (.long q1), .second, .val (.long q2), .second, .val (.int p3), .val (.int p4), .val (.int p5), .unset, .unset, .unset, .unset, .unset, .unset, .unset, .unset, .unset] [(.long (own_f1 (1 : Int64) (q1 &&& (36028797018963967 : Int64))))])) (fun t k => st20 _ k) ?_
  obtain ⟨va, hva⟩ : ∃ z : Int64, z = (own_f1 (1 : Int64) (q1 &&& (36028797018963967 : Int64))) := ⟨_, rfl⟩
  rw [← hva]
  have ha : 1 ≤ va.toInt ∧ va.toInt ≤ 36028797018963967 := by rw [hva]; exact own_mx q1
  refine own_go (B := T20.setTop (mkF m 11 #[.val (.long q1), .second, .val (.long q2), .second, .val (.int p3), .val (.int p4), .val (.int p5), .val (.long va), .second, .unset, .unset, .unset, .unset, .unset, .unset, .unset] [])) (fun t k => XS.lstore X20.here hx rfl (Jvm.hb hby at_9) rfl (l' := #[.val (.long q1), .second, .val (.long q2), .second, .val (.int p3), .val (.int p4), .val (.int p5), .val (.long va), .second, .unset, .unset, .unset, .unset, .unset, .unset, .unset]) rfl k) ?_
  have J68 : ∀ (Tj68 : State) (Lj68 : List Loc) (Xj68 : Stand p l e room_1 s m #[(.long q1), (.long q2), (.int p3), (.int p4), (.int p5)] below meth c Tj68 Lj68 0 0) (ej68 : Tj68.heap = h0) (Nj68 : Fr n0 Lj68) (vb : Int64) (hb : 1 ≤ vb.toInt ∧ vb.toInt ≤ 36028797018963967), own_Goes p e below s (own_Q0 Z q1 q2 p3 p4 p5 h0 n0) room_1.cells room_1.slots (Tj68.setTop (mkF m 68 #[.val (.long q1), .second, .val (.long q2), .second, .val (.int p3), .val (.int p4), .val (.int p5), .val (.long va), .second, .val (.long vb), .second, .unset, .unset, .unset, .unset, .unset] [])) := by
    intro Tj68 Lj68 Xj68 ej68 Nj68 vb hb
    refine own_go (B := Tj68.setTop (mkF m 69 #[.val (.long q1), .second, .val (.long q2), .second, .val (.int p3), .val (.int p4), .val (.int p5), .val (.long va), .second, .val (.long vb), .second, .unset, .unset, .unset, .unset, .unset] [(.int (1 : Int32))])) (fun t k => XS.iconst Xj68.here hx rfl (Jvm.hb hby at_68) k) ?_
    refine own_go (B := Tj68.setTop (mkF m 71 #[.val (.long q1), .second, .val (.long q2), .second, .val (.int p3), .val (.int p4), .val (.int p5), .val (.long va), .second, .val (.long vb), .second, .unset, .unset, .unset, .unset, .unset] [(.int p3), (.int (1 : Int32))])) (fun t k => XS.iload Xj68.here hx rfl (Jvm.hb hby at_69) rfl k) ?_
    refine own_go (B := Tj68.setTop (mkF m 73 #[.val (.long q1), .second, .val (.long q2), .second, .val (.int p3), .val (.int p4), .val (.int p5), .val (.long va), .second, .val (.long vb), .second, .unset, .unset, .unset, .unset, .unset] [(.int (2147483647 : Int32)), (.int p3), (.int (1 : Int32))])) (fun t k => Xj68.ldcInt hx hown (mvT hZ (own_w hw 5 rfl)) (g := (mkF m 71 #[.val (.long q1), .second, .val (.long q2), .second, .val (.int p3), .val (.int p4), .val (.int p5), .val (.long va), .second, .val (.long vb), .second, .unset, .unset, .unset, .unset, .unset] [(.int p3), (.int (1 : Int32))])) rfl (Jvm.hb hby at_71) _ k) ?_
    refine own_go (B := Tj68.setTop (mkF m 74 #[.val (.long q1), .second, .val (.long q2), .second, .val (.int p3), .val (.int p4), .val (.int p5), .val (.long va), .second, .val (.long vb), .second, .unset, .unset, .unset, .unset, .unset] [(.int (p3 &&& (2147483647 : Int32))), (.int (1 : Int32))])) (fun t k => XS.iand Xj68.here hx rfl (Jvm.hb hby at_73) rfl k) ?_
    refine own_go (B := Tj68.setTop (mkF m 77 #[.val (.long q1), .second, .val (.long q2), .second, .val (.int p3), .val (.int p4), .val (.int p5), .val (.long va), .second, .val (.long vb), .second, .unset, .unset, .unset, .unset, .unset] [(.int (255 : Int32)), (.int (p3 &&& (2147483647 : Int32))), (.int (1 : Int32))])) (fun t k => XS.sipush Xj68.here hx rfl (Jvm.hb hby at_74) k) ?_
    refine own_go (B := Tj68.setTop (mkF m 78 #[.val (.long q1), .second, .val (.long q2), .second, .val (.int p3), .val (.int p4), .val (.int p5), .val (.long va), .second, .val (.long vb), .second, .unset, .unset, .unset, .unset, .unset] [(.int ((p3 &&& (2147483647 : Int32)) % (255 : Int32))), (.int (1 : Int32))])) (fun t k => own_irem Xj68.here hx rfl (Jvm.hb hby at_77) rfl (by decide) k) ?_
    refine own_go (B := Tj68.setTop (mkF m 79 #[.val (.long q1), .second, .val (.long q2), .second, .val (.int p3), .val (.int p4), .val (.int p5), .val (.long va), .second, .val (.long vb), .second, .unset, .unset, .unset, .unset, .unset] [(.int ((1 : Int32) + ((p3 &&& (2147483647 : Int32)) % (255 : Int32))))])) (fun t k => XS.iadd Xj68.here hx rfl (Jvm.hb hby at_78) rfl k) ?_
    obtain ⟨vx, hvx⟩ : ∃ z : Int32, z = ((1 : Int32) + ((p3 &&& (2147483647 : Int32)) % (255 : Int32))) := ⟨_, rfl⟩
    rw [← hvx]
    have hidx := own_id _ vx hvx
    refine own_go (B := Tj68.setTop (mkF m 81 #[.val (.long q1), .second, .val (.long q2), .second, .val (.int p3), .val (.int p4), .val (.int p5), .val (.long va), .second, .val (.long vb), .second, .val (.int vx), .unset, .unset, .unset, .unset] [])) (fun t k => XS.istore Xj68.here hx rfl (Jvm.hb hby at_79) rfl (l' := #[.val (.long q1), .second, .val (.long q2), .second, .val (.int p3), .val (.int p4), .val (.int p5), .val (.long va), .second, .val (.long vb), .second, .val (.int vx), .unset, .unset, .unset, .unset]) rfl k) ?_
    have J106 : ∀ (Tj106 : State) (Lj106 : List Loc) (Xj106 : Stand p l e room_1 s m #[(.long q1), (.long q2), (.int p3), (.int p4), (.int p5)] below meth c Tj106 Lj106 0 0) (ej106 : Tj106.heap = h0) (Nj106 : Fr n0 Lj106) (vy : Int32) (hidy : ¬ (vy < (1 : Int32)) ∧ ¬ ((255 : Int32) < vy)), own_Goes p e below s (own_Q0 Z q1 q2 p3 p4 p5 h0 n0) room_1.cells room_1.slots (Tj106.setTop (mkF m 106 #[.val (.long q1), .second, .val (.long q2), .second, .val (.int p3), .val (.int p4), .val (.int p5), .val (.long va), .second, .val (.long vb), .second, .val (.int vx), .val (.int vy), .unset, .unset, .unset] [])) := by
      intro Tj106 Lj106 Xj106 ej106 Nj106 vy hidy
      obtain ⟨T21, h21, X21, e21, E21, A21, D21, -, st21⟩ := newO Xj106 hx hZ hown (own_w hw 6 rfl) (own_w hw 7 rfl) (own_w hw 8 rfl) ej106 (g := (mkF m 106 #[.val (.long q1), .second, .val (.long q2), .second, .val (.int p3), .val (.int p4), .val (.int p5), .val (.long va), .second, .val (.long vb), .second, .val (.int vx), .val (.int vy), .unset, .unset, .unset] [])) rfl (Jvm.hb hby at_106) (by decide) (by decide)
      obtain ⟨b21, g21⟩ : ∃ z, z = h0.size := ⟨_, rfl⟩
      rw [← g21] at A21 D21 st21
      have g_b21 : n0 ≤ b21 := Nat.le_trans Zs (Nat.le_of_eq g21.symm)
      have Zs := Nat.le_trans Zs E21.1
      have E_b21 := A21
      have F_b21_number : Fld Z h21 b21 "com/example/vesta/vesta/protocol/Ticket" "number" "J" (.long (0 : Int64)) := D21 (Or.inr (own_w hw 25 rfl)) (ty := .long) (by decide)
      have F_b21_memberId : Fld Z h21 b21 "com/example/vesta/vesta/protocol/Ticket" "memberId" "I" (.int (0 : Int32)) := D21 (Or.inr (own_w hw 27 rfl)) (ty := .int) (by decide)
      refine own_go (B := T21.setTop (mkF m 109 #[.val (.long q1), .second, .val (.long q2), .second, .val (.int p3), .val (.int p4), .val (.int p5), .val (.long va), .second, .val (.long vb), .second, .val (.int vx), .val (.int vy), .unset, .unset, .unset] [(.ref b21)])) (fun t k => st21 _ k) ?_
      refine own_go (B := T21.setTop (mkF m 110 #[.val (.long q1), .second, .val (.long q2), .second, .val (.int p3), .val (.int p4), .val (.int p5), .val (.long va), .second, .val (.long vb), .second, .val (.int vx), .val (.int vy), .unset, .unset, .unset] [(.ref b21), (.ref b21)])) (fun t k => XS.dup X21.here hx rfl (Jvm.hb hby at_109) rfl rfl k) ?_
      refine own_go (B := T21.setTop (mkF m 112 #[.val (.long q1), .second, .val (.long q2), .second, .val (.int p3), .val (.int p4), .val (.int p5), .val (.long va), .second, .val (.long vb), .second, .val (.int vx), .val (.int vy), .unset, .unset, .unset] [(.long va), (.ref b21), (.ref b21)])) (fun t k => XS.lload X21.here hx rfl (Jvm.hb hby at_110) rfl k) ?_
      refine own_go (B := T21.setTop (mkF m 114 #[.val (.long q1), .second, .val (.long q2), .second, .val (.int p3), .val (.int p4), .val (.int p5), .val (.long va), .second, .val (.long vb), .second, .val (.int vx), .val (.int vy), .unset, .unset, .unset] [(.int vx), (.long va), (.ref b21), (.ref b21)])) (fun t k => XS.iload X21.here hx rfl (Jvm.hb hby at_112) rfl k) ?_
      obtain ⟨_, _, ⟨T22, La22, ka22, na22⟩, -, X22, ⟨Lc22, hQ22, l22, y22, z22⟩, st22⟩ := X21.specialBack hx (y := (⟨"com/example/vesta/vesta/protocol/Ticket", "<init>", "(JI)V"⟩ : MethodName)) rfl hown (mvT hZ (own_w hw 9 rfl)) (mvT hZ (own_w hw 10 rfl)) (mvT hZ (own_w hw 11 rfl)) (by decide) (backOf (W := 1) (rm2 l Z a0 hw [] b21 va vx h21 n0 Zs E_b21 F_b21_number F_b21_memberId g_b21 (own_num _ ha) hidx) hZ (own_w hw 11 rfl) (own_w hw 8 rfl) (by decide) (by decide)) (g := (mkF m 114 #[.val (.long q1), .second, .val (.long q2), .second, .val (.int p3), .val (.int p4), .val (.int p5), .val (.long va), .second, .val (.long vb), .second, .val (.int vx), .val (.int vy), .unset, .unset, .unset] [(.int vx), (.long va), (.ref b21), (.ref b21)])) rfl (by rw [hml]; rfl) (Steps.refl _) (a := b21) (argsL := [(.long va), (.int vx)]) (rest := [(.ref b21)]) (lenOf pd_5 rfl) rfl (by show 2 * 0 + _ ≤ _; exact Nat.le_of_eq rfl) (Jvm.hb hby at_114) (fun _ _ => ⟨rfl, e21, (by decide : 1 + 0 ≤ _), (by decide : 2 + 0 ≤ _)⟩)
      dsimp only [Pt.U, Pt.locs, Pt.cells, Pt.slots] at X22 l22 y22 z22 st22 hQ22
      subst l22 y22 z22
      obtain ⟨rfl, N22q, Kc22, E_b21_q, F_b21_number_q, F_b21_memberId_q⟩ := hQ22
      have N22 := Fr.app Nj106 N22q
      have Zs := Nat.le_trans Zs Kc22.1
      have E_b21 := E_b21_q
      have F_b21_number := F_b21_number_q
      have F_b21_memberId := F_b21_memberId_q
      refine own_go (B := T22.setTop (mkF m 117 #[.val (.long q1), .second, .val (.long q2), .second, .val (.int p3), .val (.int p4), .val (.int p5), .val (.long va), .second, .val (.long vb), .second, .val (.int vx), .val (.int vy), .unset, .unset, .unset] [(.ref b21)])) (fun t k => own_st st22 k) ?_
      refine own_go (B := T22.setTop (mkF m 119 #[.val (.long q1), .second, .val (.long q2), .second, .val (.int p3), .val (.int p4), .val (.int p5), .val (.long va), .second, .val (.long vb), .second, .val (.int vx), .val (.int vy), .val (.ref b21), .unset, .unset] [])) (fun t k => XS.astore X22.here hx rfl (Jvm.hb hby at_117) rfl rfl (l' := #[.val (.long q1), .second, .val (.long q2), .second, .val (.int p3), .val (.int p4), .val (.int p5), .val (.long va), .second, .val (.long vb), .second, .val (.int vx), .val (.int vy), .val (.ref b21), .unset, .unset]) rfl k) ?_
      obtain ⟨T23, h23, X23, e23, E23, A23, D23, -, st23⟩ := newO X22 hx hZ hown (own_w hw 6 rfl) (own_w hw 7 rfl) (own_w hw 8 rfl) rfl (g := (mkF m 119 #[.val (.long q1), .second, .val (.long q2), .second, .val (.int p3), .val (.int p4), .val (.int p5), .val (.long va), .second, .val (.long vb), .second, .val (.int vx), .val (.int vy), .val (.ref b21), .unset, .unset] [])) rfl (Jvm.hb hby at_119) (by decide) (by decide)
      obtain ⟨b23, g23⟩ : ∃ z, z = T22.heap.size := ⟨_, rfl⟩
      rw [← g23] at A23 D23 st23
      have ne_b21_b23 : b21 ≠ b23 := Nat.ne_of_lt (Nat.lt_of_lt_of_le E_b21.lt (Nat.le_of_eq g23.symm))
      have g_b23 : n0 ≤ b23 := Nat.le_trans Zs (Nat.le_of_eq g23.symm)
      have E_b21 := E_b21.ext E23
      have F_b21_number := F_b21_number.ext E23
      have F_b21_memberId := F_b21_memberId.ext E23
      have Zs := Nat.le_trans Zs E23.1
      have E_b23 := A23
      have F_b23_number : Fld Z h23 b23 "com/example/vesta/vesta/protocol/Ticket" "number" "J" (.long (0 : Int64)) := D23 (Or.inr (own_w hw 25 rfl)) (ty := .long) (by decide)
      have F_b23_memberId : Fld Z h23 b23 "com/example/vesta/vesta/protocol/Ticket" "memberId" "I" (.int (0 : Int32)) := D23 (Or.inr (own_w hw 27 rfl)) (ty := .int) (by decide)
      refine own_go (B := T23.setTop (mkF m 122 #[.val (.long q1), .second, .val (.long q2), .second, .val (.int p3), .val (.int p4), .val (.int p5), .val (.long va), .second, .val (.long vb), .second, .val (.int vx), .val (.int vy), .val (.ref b21), .unset, .unset] [(.ref b23)])) (fun t k => st23 _ k) ?_
      refine own_go (B := T23.setTop (mkF m 123 #[.val (.long q1), .second, .val (.long q2), .second, .val (.int p3), .val (.int p4), .val (.int p5), .val (.long va), .second, .val (.long vb), .second, .val (.int vx), .val (.int vy), .val (.ref b21), .unset, .unset] [(.ref b23), (.ref b23)])) (fun t k => XS.dup X23.here hx rfl (Jvm.hb hby at_122) rfl rfl k) ?_
      refine own_go (B := T23.setTop (mkF m 125 #[.val (.long q1), .second, .val (.long q2), .second, .val (.int p3), .val (.int p4), .val (.int p5), .val (.long va), .second, .val (.long vb), .second, .val (.int vx), .val (.int vy), .val (.ref b21), .unset, .unset] [(.long vb), (.ref b23), (.ref b23)])) (fun t k => XS.lload X23.here hx rfl (Jvm.hb hby at_123) rfl k) ?_
      refine own_go (B := T23.setTop (mkF m 127 #[.val (.long q1), .second, .val (.long q2), .second, .val (.int p3), .val (.int p4), .val (.int p5), .val (.long va), .second, .val (.long vb), .second, .val (.int vx), .val (.int vy), .val (.ref b21), .unset, .unset] [(.int vy), (.long vb), (.ref b23), (.ref b23)])) (fun t k => XS.iload X23.here hx rfl (Jvm.hb hby at_125) rfl k) ?_
      obtain ⟨_, _, ⟨T24, La24, ka24, na24⟩, -, X24, ⟨Lc24, hQ24, l24, y24, z24⟩, st24⟩ := X23.specialBack hx (y := (⟨"com/example/vesta/vesta/protocol/Ticket", "<init>", "(JI)V"⟩ : MethodName)) rfl hown (mvT hZ (own_w hw 9 rfl)) (mvT hZ (own_w hw 10 rfl)) (mvT hZ (own_w hw 11 rfl)) (by decide) (backOf (W := 1) (rm2 l Z a0 hw [] b23 vb vy h23 n0 Zs E_b23 F_b23_number F_b23_memberId g_b23 (own_num _ hb) hidy) hZ (own_w hw 11 rfl) (own_w hw 8 rfl) (by decide) (by decide)) (g := (mkF m 127 #[.val (.long q1), .second, .val (.long q2), .second, .val (.int p3), .val (.int p4), .val (.int p5), .val (.long va), .second, .val (.long vb), .second, .val (.int vx), .val (.int vy), .val (.ref b21), .unset, .unset] [(.int vy), (.long vb), (.ref b23), (.ref b23)])) rfl (by rw [hml]; rfl) (Steps.refl _) (a := b23) (argsL := [(.long vb), (.int vy)]) (rest := [(.ref b23)]) (lenOf pd_5 rfl) rfl (by show 2 * 0 + _ ≤ _; exact Nat.le_of_eq rfl) (Jvm.hb hby at_127) (fun _ _ => ⟨rfl, e23, (by decide : 2 + 0 ≤ _), (by decide : 4 + 0 ≤ _)⟩)
      dsimp only [Pt.U, Pt.locs, Pt.cells, Pt.slots] at X24 l24 y24 z24 st24 hQ24
      subst l24 y24 z24
      obtain ⟨rfl, N24q, Kc24, E_b23_q, F_b23_number_q, F_b23_memberId_q⟩ := hQ24
      have N24 := Fr.app N22 N24q
      have E_b21 := E_b21.keep Kc24
      have F_b21_number := F_b21_number.keep Kc24 (ninS ne_b21_b23 nin0)
      have F_b21_memberId := F_b21_memberId.keep Kc24 (ninS ne_b21_b23 nin0)
      have Zs := Nat.le_trans Zs Kc24.1
      have E_b23 := E_b23_q
      have F_b23_number := F_b23_number_q
      have F_b23_memberId := F_b23_memberId_q
      refine own_go (B := T24.setTop (mkF m 130 #[.val (.long q1), .second, .val (.long q2), .second, .val (.int p3), .val (.int p4), .val (.int p5), .val (.long va), .second, .val (.long vb), .second, .val (.int vx), .val (.int vy), .val (.ref b21), .unset, .unset] [(.ref b23)])) (fun t k => own_st st24 k) ?_
      refine own_go (B := T24.setTop (mkF m 132 #[.val (.long q1), .second, .val (.long q2), .second, .val (.int p3), .val (.int p4), .val (.int p5), .val (.long va), .second, .val (.long vb), .second, .val (.int vx), .val (.int vy), .val (.ref b21), .val (.ref b23), .unset] [])) (fun t k => XS.astore X24.here hx rfl (Jvm.hb hby at_130) rfl rfl (l' := #[.val (.long q1), .second, .val (.long q2), .second, .val (.int p3), .val (.int p4), .val (.int p5), .val (.long va), .second, .val (.long vb), .second, .val (.int vx), .val (.int vy), .val (.ref b21), .val (.ref b23), .unset]) rfl k) ?_
      have J189 : ∀ (Tj189 : State) (Lj189 : List Loc) (Xj189 : Stand p l e room_1 s m #[(.long q1), (.long q2), (.int p3), (.int p4), (.int p5)] below meth c Tj189 Lj189 2 4) (ej189 : Tj189.heap = T24.heap) (Nj189 : Fr n0 Lj189) (ex : Int32) (hx1 : own_f8 (own_cmp va vx vb vy) = ex) (hx2 : own_f8 (own_cmp vb vy va vx) = -ex), own_Goes p e below s (own_Q0 Z q1 q2 p3 p4 p5 h0 n0) room_1.cells room_1.slots (Tj189.setTop (mkF m 189 #[.val (.long q1), .second, .val (.long q2), .second, .val (.int p3), .val (.int p4), .val (.int p5), .val (.long va), .second, .val (.long vb), .second, .val (.int vx), .val (.int vy), .val (.ref b21), .val (.ref b23), .val (.int ex)] [])) := by
        intro Tj189 Lj189 Xj189 ej189 Nj189 ex hx1 hx2
        refine own_go (B := Tj189.setTop (mkF m 191 #[.val (.long q1), .second, .val (.long q2), .second, .val (.int p3), .val (.int p4), .val (.int p5), .val (.long va), .second, .val (.long vb), .second, .val (.int vx), .val (.int vy), .val (.ref b21), .val (.ref b23), .val (.int ex)] [(.ref b21)])) (fun t k => XS.aload Xj189.here hx rfl (Jvm.hb hby at_189) rfl rfl k) ?_
        refine own_go (B := Tj189.setTop (mkF m 193 #[.val (.long q1), .second, .val (.long q2), .second, .val (.int p3), .val (.int p4), .val (.int p5), .val (.long va), .second, .val (.long vb), .second, .val (.int vx), .val (.int vy), .val (.ref b21), .val (.ref b23), .val (.int ex)] [(.ref b23), (.ref b21)])) (fun t k => XS.aload Xj189.here hx rfl (Jvm.hb hby at_191) rfl rfl k) ?_
        obtain ⟨cq25, kq25, q25a, q25b, q25c⟩ := isOf hZ ej189 E_b21
        obtain ⟨_, _, ⟨T25, La25, ka25, na25⟩, -, X25, ⟨Lc25, hQ25, l25, y25, z25⟩, st25⟩ := Xj189.virtualBack hx (y := (⟨"com/example/vesta/vesta/protocol/Ticket", "compareTo", "(Lcom/example/vesta/vesta/protocol/Ticket;)I"⟩ : MethodName)) (z := (⟨"com/example/vesta/vesta/protocol/Ticket", "compareTo", "(Lcom/example/vesta/vesta/protocol/Ticket;)I"⟩ : MethodName)) hown (mvT hZ (own_w hw 28 rfl)) (mvT hZ (own_w hw 29 rfl)) (notFace_of_selects (args := #[]) (mvT hZ (own_w hw 31 rfl))) (mvT hZ (own_w hw 31 rfl)) (mvT hZ (own_w hw 30 rfl)) (by decide) (backOf (W := 0) (rm6 l Z a0 hw [] b21 b23 va vx vb vy T24.heap n0 Zs F_b21_number F_b21_memberId F_b23_number F_b23_memberId) hZ (own_w hw 32 rfl) (own_w hw 8 rfl) (by decide) (by decide)) q25a q25c (g := (mkF m 193 #[.val (.long q1), .second, .val (.long q2), .second, .val (.int p3), .val (.int p4), .val (.int p5), .val (.long va), .second, .val (.long vb), .second, .val (.int vx), .val (.int vy), .val (.ref b21), .val (.ref b23), .val (.int ex)] [(.ref b23), (.ref b21)])) rfl (by rw [hml]; rfl) (Steps.refl _) (argsL := [(.ref b23)]) (rest := []) (lenOf pd_6 rfl) rfl (by show 2 * 0 + _ ≤ _; exact Nat.le_of_eq rfl) (Jvm.hb hby at_193) (fun _ _ => ⟨rfl, ej189, (by decide : 2 + 0 ≤ _), (by decide : 4 + 0 ≤ _)⟩)
        dsimp only [Pt.U, Pt.locs, Pt.cells, Pt.slots] at X25 l25 y25 z25 st25 hQ25
        subst l25 y25 z25
        obtain ⟨rfl, N25q, e25⟩ := hQ25
        have N25 := Fr.app Nj189 N25q
        refine own_go (B := T25.setTop (mkF m 196 #[.val (.long q1), .second, .val (.long q2), .second, .val (.int p3), .val (.int p4), .val (.int p5), .val (.long va), .second, .val (.long vb), .second, .val (.int vx), .val (.int vy), .val (.ref b21), .val (.ref b23), .val (.int ex)] [(.int (own_cmp va vx vb vy))])) (fun t k => own_st st25 k) ?_
        obtain ⟨_, _, ⟨T26, La26, ka26, na26⟩, -, X26, ⟨Lc26, hQ26, l26, y26, z26⟩, st26⟩ := Jvm.LawKit.callS X25 hx (y := (⟨"com/example/vesta/vesta/protocol/TicketCompareToPinLaw", "sign", "(I)I"⟩ : MethodName)) hown (mvT hZ (own_w hw 37 rfl)) (mvT hZ (own_w hw 38 rfl)) (mvT hZ (own_w hw 39 rfl)) (mvT hZ (own_w hw 40 rfl)) (by decide) (backOf (W := 0) (rm8 l Z a0 hw [] (own_cmp va vx vb vy) T24.heap n0 Zs) hZ (own_w hw 40 rfl) (own_w hw 39 rfl) (by decide) (by decide)) (g := (mkF m 196 #[.val (.long q1), .second, .val (.long q2), .second, .val (.int p3), .val (.int p4), .val (.int p5), .val (.long va), .second, .val (.long vb), .second, .val (.int vx), .val (.int vy), .val (.ref b21), .val (.ref b23), .val (.int ex)] [(.int (own_cmp va vx vb vy))])) rfl (by rw [hml]; rfl) (argsL := [(.int (own_cmp va vx vb vy))]) (rest := []) (lenOf pd_1 rfl) rfl (by show 2 * 0 + _ ≤ _; exact Nat.le_of_eq rfl) (Jvm.hb hby at_196) (fun _ _ => ⟨rfl, e25, (by decide : 2 + 0 ≤ _), (by decide : 4 + 0 ≤ _)⟩)
        dsimp only [Pt.U, Pt.locs, Pt.cells, Pt.slots] at X26 l26 y26 z26 st26 hQ26
        subst l26 y26 z26
        obtain ⟨rfl, N26q, e26⟩ := hQ26
        have N26 := Fr.app N25 N26q
        refine own_go (B := T26.setTop (mkF m 199 #[.val (.long q1), .second, .val (.long q2), .second, .val (.int p3), .val (.int p4), .val (.int p5), .val (.long va), .second, .val (.long vb), .second, .val (.int vx), .val (.int vy), .val (.ref b21), .val (.ref b23), .val (.int ex)] [(.int (own_f8 (own_cmp va vx vb vy)))])) (fun t k => st26 _ k) ?_
        refine own_go (B := T26.setTop (mkF m 201 #[.val (.long q1), .second, .val (.long q2), .second, .val (.int p3), .val (.int p4), .val (.int p5), .val (.long va), .second, .val (.long vb), .second, .val (.int vx), .val (.int vy), .val (.ref b21), .val (.ref b23), .val (.int ex)] [(.int ex), (.int (own_f8 (own_cmp va vx vb vy)))])) (fun t k => XS.iload X26.here hx rfl (Jvm.hb hby at_199) rfl k) ?_
        refine own_go (B := T26.setTop (mkF m 204 #[.val (.long q1), .second, .val (.long q2), .second, .val (.int p3), .val (.int p4), .val (.int p5), .val (.long va), .second, .val (.long vb), .second, .val (.int vx), .val (.int vy), .val (.ref b21), .val (.ref b23), .val (.int ex)] [])) (fun t k => XS.icmpNo X26.here hx rfl (Jvm.hb hby at_201) rfl (teq hx1).2 k) ?_
        refine own_go (B := T26.setTop (mkF m 206 #[.val (.long q1), .second, .val (.long q2), .second, .val (.int p3), .val (.int p4), .val (.int p5), .val (.long va), .second, .val (.long vb), .second, .val (.int vx), .val (.int vy), .val (.ref b21), .val (.ref b23), .val (.int ex)] [(.ref b23)])) (fun t k => XS.aload X26.here hx rfl (Jvm.hb hby at_204) rfl rfl k) ?_
        refine own_go (B := T26.setTop (mkF m 208 #[.val (.long q1), .second, .val (.long q2), .second, .val (.int p3), .val (.int p4), .val (.int p5), .val (.long va), .second, .val (.long vb), .second, .val (.int vx), .val (.int vy), .val (.ref b21), .val (.ref b23), .val (.int ex)] [(.ref b21), (.ref b23)])) (fun t k => XS.aload X26.here hx rfl (Jvm.hb hby at_206) rfl rfl k) ?_
        obtain ⟨cq27, kq27, q27a, q27b, q27c⟩ := isOf hZ e26 E_b23
        obtain ⟨_, _, ⟨T27, La27, ka27, na27⟩, -, X27, ⟨Lc27, hQ27, l27, y27, z27⟩, st27⟩ := X26.virtualBack hx (y := (⟨"com/example/vesta/vesta/protocol/Ticket", "compareTo", "(Lcom/example/vesta/vesta/protocol/Ticket;)I"⟩ : MethodName)) (z := (⟨"com/example/vesta/vesta/protocol/Ticket", "compareTo", "(Lcom/example/vesta/vesta/protocol/Ticket;)I"⟩ : MethodName)) hown (mvT hZ (own_w hw 28 rfl)) (mvT hZ (own_w hw 29 rfl)) (notFace_of_selects (args := #[]) (mvT hZ (own_w hw 31 rfl))) (mvT hZ (own_w hw 31 rfl)) (mvT hZ (own_w hw 30 rfl)) (by decide) (backOf (W := 0) (rm6 l Z a0 hw [] b23 b21 vb vy va vx T24.heap n0 Zs F_b23_number F_b23_memberId F_b21_number F_b21_memberId) hZ (own_w hw 32 rfl) (own_w hw 8 rfl) (by decide) (by decide)) q27a q27c (g := (mkF m 208 #[.val (.long q1), .second, .val (.long q2), .second, .val (.int p3), .val (.int p4), .val (.int p5), .val (.long va), .second, .val (.long vb), .second, .val (.int vx), .val (.int vy), .val (.ref b21), .val (.ref b23), .val (.int ex)] [(.ref b21), (.ref b23)])) rfl (by rw [hml]; rfl) (Steps.refl _) (argsL := [(.ref b21)]) (rest := []) (lenOf pd_6 rfl) rfl (by show 2 * 0 + _ ≤ _; exact Nat.le_of_eq rfl) (Jvm.hb hby at_208) (fun _ _ => ⟨rfl, e26, (by decide : 2 + 0 ≤ _), (by decide : 4 + 0 ≤ _)⟩)
        dsimp only [Pt.U, Pt.locs, Pt.cells, Pt.slots] at X27 l27 y27 z27 st27 hQ27
        subst l27 y27 z27
        obtain ⟨rfl, N27q, e27⟩ := hQ27
        have N27 := Fr.app N26 N27q
        refine own_go (B := T27.setTop (mkF m 211 #[.val (.long q1), .second, .val (.long q2), .second, .val (.int p3), .val (.int p4), .val (.int p5), .val (.long va), .second, .val (.long vb), .second, .val (.int vx), .val (.int vy), .val (.ref b21), .val (.ref b23), .val (.int ex)] [(.int (own_cmp vb vy va vx))])) (fun t k => own_st st27 k) ?_
        obtain ⟨_, _, ⟨T28, La28, ka28, na28⟩, -, X28, ⟨Lc28, hQ28, l28, y28, z28⟩, st28⟩ := Jvm.LawKit.callS X27 hx (y := (⟨"com/example/vesta/vesta/protocol/TicketCompareToPinLaw", "sign", "(I)I"⟩ : MethodName)) hown (mvT hZ (own_w hw 37 rfl)) (mvT hZ (own_w hw 38 rfl)) (mvT hZ (own_w hw 39 rfl)) (mvT hZ (own_w hw 40 rfl)) (by decide) (backOf (W := 0) (rm8 l Z a0 hw [] (own_cmp vb vy va vx) T24.heap n0 Zs) hZ (own_w hw 40 rfl) (own_w hw 39 rfl) (by decide) (by decide)) (g := (mkF m 211 #[.val (.long q1), .second, .val (.long q2), .second, .val (.int p3), .val (.int p4), .val (.int p5), .val (.long va), .second, .val (.long vb), .second, .val (.int vx), .val (.int vy), .val (.ref b21), .val (.ref b23), .val (.int ex)] [(.int (own_cmp vb vy va vx))])) rfl (by rw [hml]; rfl) (argsL := [(.int (own_cmp vb vy va vx))]) (rest := []) (lenOf pd_1 rfl) rfl (by show 2 * 0 + _ ≤ _; exact Nat.le_of_eq rfl) (Jvm.hb hby at_211) (fun _ _ => ⟨rfl, e27, (by decide : 2 + 0 ≤ _), (by decide : 4 + 0 ≤ _)⟩)
        dsimp only [Pt.U, Pt.locs, Pt.cells, Pt.slots] at X28 l28 y28 z28 st28 hQ28
        subst l28 y28 z28
        obtain ⟨rfl, N28q, e28⟩ := hQ28
        have N28 := Fr.app N27 N28q
        refine own_go (B := T28.setTop (mkF m 214 #[.val (.long q1), .second, .val (.long q2), .second, .val (.int p3), .val (.int p4), .val (.int p5), .val (.long va), .second, .val (.long vb), .second, .val (.int vx), .val (.int vy), .val (.ref b21), .val (.ref b23), .val (.int ex)] [(.int (own_f8 (own_cmp vb vy va vx)))])) (fun t k => st28 _ k) ?_
        refine own_go (B := T28.setTop (mkF m 216 #[.val (.long q1), .second, .val (.long q2), .second, .val (.int p3), .val (.int p4), .val (.int p5), .val (.long va), .second, .val (.long vb), .second, .val (.int vx), .val (.int vy), .val (.ref b21), .val (.ref b23), .val (.int ex)] [(.int ex), (.int (own_f8 (own_cmp vb vy va vx)))])) (fun t k => XS.iload X28.here hx rfl (Jvm.hb hby at_214) rfl k) ?_
        refine own_go (B := T28.setTop (mkF m 217 #[.val (.long q1), .second, .val (.long q2), .second, .val (.int p3), .val (.int p4), .val (.int p5), .val (.long va), .second, .val (.long vb), .second, .val (.int vx), .val (.int vy), .val (.ref b21), .val (.ref b23), .val (.int ex)] [(.int (-ex)), (.int (own_f8 (own_cmp vb vy va vx)))])) (fun t k => XS.ineg X28.here hx rfl (Jvm.hb hby at_216) rfl k) ?_
        refine own_go (B := T28.setTop (mkF m 220 #[.val (.long q1), .second, .val (.long q2), .second, .val (.int p3), .val (.int p4), .val (.int p5), .val (.long va), .second, .val (.long vb), .second, .val (.int vx), .val (.int vy), .val (.ref b21), .val (.ref b23), .val (.int ex)] [])) (fun t k => XS.icmpNo X28.here hx rfl (Jvm.hb hby at_217) rfl (teq hx2).2 k) ?_
        refine own_go (B := T28.setTop (mkF m 221 #[.val (.long q1), .second, .val (.long q2), .second, .val (.int p3), .val (.int p4), .val (.int p5), .val (.long va), .second, .val (.long vb), .second, .val (.int vx), .val (.int vy), .val (.ref b21), .val (.ref b23), .val (.int ex)] [(.int (1 : Int32))])) (fun t k => XS.iconst X28.here hx rfl (Jvm.hb hby at_220) k) ?_
        refine own_go (B := T28.setTop (mkF m 225 #[.val (.long q1), .second, .val (.long q2), .second, .val (.int p3), .val (.int p4), .val (.int p5), .val (.long va), .second, .val (.long vb), .second, .val (.int vx), .val (.int vy), .val (.ref b21), .val (.ref b23), .val (.int ex)] [(.int (1 : Int32))])) (fun t k => XS.goto X28.here hx rfl (pc0 := 221) (pc' := 225) rfl (Jvm.hb hby at_221) (by decide) (by decide) k) ?_
        refine own_out X28 (v := (some (.int (1 : Int32)))) (fun h => by rw [Bd.returns] at h; cases h) Bd.notSynchronized (fun fs hr => retOut X28 hx (t := .boolean) Bd.returns rfl (by first | exact Or.inl ⟨rfl, by simp, _, rfl⟩) (Jvm.hb hby at_225) hr) ?_ (by decide) (by decide)
        show own_Q0 Z q1 q2 p3 p4 p5 h0 n0 (some (.int (1 : Int32))) T28.heap _
        rw [e28]
        exact ⟨rfl, N28⟩
      refine own_go (B := T24.setTop (mkF m 134 #[.val (.long q1), .second, .val (.long q2), .second, .val (.int p3), .val (.int p4), .val (.int p5), .val (.long va), .second, .val (.long vb), .second, .val (.int vx), .val (.int vy), .val (.ref b21), .val (.ref b23), .unset] [(.long va)])) (fun t k => XS.lload X24.here hx rfl (Jvm.hb hby at_132) rfl k) ?_
      refine own_go (B := T24.setTop (mkF m 136 #[.val (.long q1), .second, .val (.long q2), .second, .val (.int p3), .val (.int p4), .val (.int p5), .val (.long va), .second, .val (.long vb), .second, .val (.int vx), .val (.int vy), .val (.ref b21), .val (.ref b23), .unset] [(.long vb), (.long va)])) (fun t k => XS.lload X24.here hx rfl (Jvm.hb hby at_134) rfl k) ?_
      refine own_go (B := T24.setTop (mkF m 137 #[.val (.long q1), .second, .val (.long q2), .second, .val (.int p3), .val (.int p4), .val (.int p5), .val (.long va), .second, .val (.long vb), .second, .val (.int vx), .val (.int vy), .val (.ref b21), .val (.ref b23), .unset] [(.int (lcmpW va vb))])) (fun t k => XS.lcmp X24.here hx rfl (Jvm.hb hby at_136) rfl k) ?_
      by_cases hc137_29 : va < vb
      · refine own_go (B := T24.setTop (mkF m 140 #[.val (.long q1), .second, .val (.long q2), .second, .val (.int p3), .val (.int p4), .val (.int p5), .val (.long va), .second, .val (.long vb), .second, .val (.int vx), .val (.int vy), .val (.ref b21), .val (.ref b23), .unset] [])) (fun t k => XS.ifNo X24.here hx rfl (Jvm.hb hby at_137) rfl ((if0 _ _).trans (tlt ((lw_lt va vb).mpr hc137_29)).2.1) k) ?_
        refine own_go (B := T24.setTop (mkF m 141 #[.val (.long q1), .second, .val (.long q2), .second, .val (.int p3), .val (.int p4), .val (.int p5), .val (.long va), .second, .val (.long vb), .second, .val (.int vx), .val (.int vy), .val (.ref b21), .val (.ref b23), .unset] [(.int (-1 : Int32))])) (fun t k => XS.iconst X24.here hx rfl (Jvm.hb hby at_140) k) ?_
        refine own_go (B := T24.setTop (mkF m 143 #[.val (.long q1), .second, .val (.long q2), .second, .val (.int p3), .val (.int p4), .val (.int p5), .val (.long va), .second, .val (.long vb), .second, .val (.int vx), .val (.int vy), .val (.ref b21), .val (.ref b23), .val (.int (-1 : Int32))] [])) (fun t k => XS.istore X24.here hx rfl (Jvm.hb hby at_141) rfl (l' := #[.val (.long q1), .second, .val (.long q2), .second, .val (.int p3), .val (.int p4), .val (.int p5), .val (.long va), .second, .val (.long vb), .second, .val (.int vx), .val (.int vy), .val (.ref b21), .val (.ref b23), .val (.int (-1 : Int32))]) rfl k) ?_
        refine own_go (B := T24.setTop (mkF m 189 #[.val (.long q1), .second, .val (.long q2), .second, .val (.int p3), .val (.int p4), .val (.int p5), .val (.long va), .second, .val (.long vb), .second, .val (.int vx), .val (.int vy), .val (.ref b21), .val (.ref b23), .val (.int (-1 : Int32))] [])) (fun t k => XS.goto X24.here hx rfl (pc0 := 143) (pc' := 189) rfl (Jvm.hb hby at_143) (by decide) (by decide) k) ?_
        exact J189 T24 _ X24 rfl N24 (-1 : Int32) (by rw [own_c1, if_pos hc137_29]) (by rw [own_c2, if_pos hc137_29]; first | done | decide)
      · refine own_go (B := T24.setTop (mkF m 146 #[.val (.long q1), .second, .val (.long q2), .second, .val (.int p3), .val (.int p4), .val (.int p5), .val (.long va), .second, .val (.long vb), .second, .val (.int vx), .val (.int vy), .val (.ref b21), .val (.ref b23), .unset] [])) (fun t k => XS.ifYes X24.here hx rfl (pc0 := 137) (pc' := 146) rfl (Jvm.hb hby at_137) rfl ((if0 _ _).trans (flt (mt (lw_lt va vb).mp hc137_29)).2.1) (by decide) (by decide) k) ?_
        refine own_go (B := T24.setTop (mkF m 148 #[.val (.long q1), .second, .val (.long q2), .second, .val (.int p3), .val (.int p4), .val (.int p5), .val (.long va), .second, .val (.long vb), .second, .val (.int vx), .val (.int vy), .val (.ref b21), .val (.ref b23), .unset] [(.long va)])) (fun t k => XS.lload X24.here hx rfl (Jvm.hb hby at_146) rfl k) ?_
        refine own_go (B := T24.setTop (mkF m 150 #[.val (.long q1), .second, .val (.long q2), .second, .val (.int p3), .val (.int p4), .val (.int p5), .val (.long va), .second, .val (.long vb), .second, .val (.int vx), .val (.int vy), .val (.ref b21), .val (.ref b23), .unset] [(.long vb), (.long va)])) (fun t k => XS.lload X24.here hx rfl (Jvm.hb hby at_148) rfl k) ?_
        refine own_go (B := T24.setTop (mkF m 151 #[.val (.long q1), .second, .val (.long q2), .second, .val (.int p3), .val (.int p4), .val (.int p5), .val (.long va), .second, .val (.long vb), .second, .val (.int vx), .val (.int vy), .val (.ref b21), .val (.ref b23), .unset] [(.int (lcmpW va vb))])) (fun t k => XS.lcmp X24.here hx rfl (Jvm.hb hby at_150) rfl k) ?_
        by_cases hc151_30 : vb < va
        · refine own_go (B := T24.setTop (mkF m 154 #[.val (.long q1), .second, .val (.long q2), .second, .val (.int p3), .val (.int p4), .val (.int p5), .val (.long va), .second, .val (.long vb), .second, .val (.int vx), .val (.int vy), .val (.ref b21), .val (.ref b23), .unset] [])) (fun t k => XS.ifNo X24.here hx rfl (Jvm.hb hby at_151) rfl ((if0 _ _).trans (tlt ((lw_gt va vb).mpr hc151_30)).2.2.2) k) ?_
          refine own_go (B := T24.setTop (mkF m 155 #[.val (.long q1), .second, .val (.long q2), .second, .val (.int p3), .val (.int p4), .val (.int p5), .val (.long va), .second, .val (.long vb), .second, .val (.int vx), .val (.int vy), .val (.ref b21), .val (.ref b23), .unset] [(.int (1 : Int32))])) (fun t k => XS.iconst X24.here hx rfl (Jvm.hb hby at_154) k) ?_
          refine own_go (B := T24.setTop (mkF m 157 #[.val (.long q1), .second, .val (.long q2), .second, .val (.int p3), .val (.int p4), .val (.int p5), .val (.long va), .second, .val (.long vb), .second, .val (.int vx), .val (.int vy), .val (.ref b21), .val (.ref b23), .val (.int (1 : Int32))] [])) (fun t k => XS.istore X24.here hx rfl (Jvm.hb hby at_155) rfl (l' := #[.val (.long q1), .second, .val (.long q2), .second, .val (.int p3), .val (.int p4), .val (.int p5), .val (.long va), .second, .val (.long vb), .second, .val (.int vx), .val (.int vy), .val (.ref b21), .val (.ref b23), .val (.int (1 : Int32))]) rfl k) ?_
          refine own_go (B := T24.setTop (mkF m 189 #[.val (.long q1), .second, .val (.long q2), .second, .val (.int p3), .val (.int p4), .val (.int p5), .val (.long va), .second, .val (.long vb), .second, .val (.int vx), .val (.int vy), .val (.ref b21), .val (.ref b23), .val (.int (1 : Int32))] [])) (fun t k => XS.goto X24.here hx rfl (pc0 := 157) (pc' := 189) rfl (Jvm.hb hby at_157) (by decide) (by decide) k) ?_
          exact J189 T24 _ X24 rfl N24 (1 : Int32) (by rw [own_c1, if_neg hc137_29, if_pos hc151_30]) (by rw [own_c2, if_neg hc137_29, if_pos hc151_30]; first | done | decide)
        · refine own_go (B := T24.setTop (mkF m 160 #[.val (.long q1), .second, .val (.long q2), .second, .val (.int p3), .val (.int p4), .val (.int p5), .val (.long va), .second, .val (.long vb), .second, .val (.int vx), .val (.int vy), .val (.ref b21), .val (.ref b23), .unset] [])) (fun t k => XS.ifYes X24.here hx rfl (pc0 := 151) (pc' := 160) rfl (Jvm.hb hby at_151) rfl ((if0 _ _).trans (flt (mt (lw_gt va vb).mp hc151_30)).2.2.2) (by decide) (by decide) k) ?_
          refine own_go (B := T24.setTop (mkF m 162 #[.val (.long q1), .second, .val (.long q2), .second, .val (.int p3), .val (.int p4), .val (.int p5), .val (.long va), .second, .val (.long vb), .second, .val (.int vx), .val (.int vy), .val (.ref b21), .val (.ref b23), .unset] [(.int vx)])) (fun t k => XS.iload X24.here hx rfl (Jvm.hb hby at_160) rfl k) ?_
          refine own_go (B := T24.setTop (mkF m 164 #[.val (.long q1), .second, .val (.long q2), .second, .val (.int p3), .val (.int p4), .val (.int p5), .val (.long va), .second, .val (.long vb), .second, .val (.int vx), .val (.int vy), .val (.ref b21), .val (.ref b23), .unset] [(.int vy), (.int vx)])) (fun t k => XS.iload X24.here hx rfl (Jvm.hb hby at_162) rfl k) ?_
          by_cases hc164_31 : vx < vy
          · refine own_go (B := T24.setTop (mkF m 167 #[.val (.long q1), .second, .val (.long q2), .second, .val (.int p3), .val (.int p4), .val (.int p5), .val (.long va), .second, .val (.long vb), .second, .val (.int vx), .val (.int vy), .val (.ref b21), .val (.ref b23), .unset] [])) (fun t k => XS.icmpNo X24.here hx rfl (Jvm.hb hby at_164) rfl (tlt hc164_31).2.1 k) ?_
            refine own_go (B := T24.setTop (mkF m 168 #[.val (.long q1), .second, .val (.long q2), .second, .val (.int p3), .val (.int p4), .val (.int p5), .val (.long va), .second, .val (.long vb), .second, .val (.int vx), .val (.int vy), .val (.ref b21), .val (.ref b23), .unset] [(.int (-1 : Int32))])) (fun t k => XS.iconst X24.here hx rfl (Jvm.hb hby at_167) k) ?_
            refine own_go (B := T24.setTop (mkF m 170 #[.val (.long q1), .second, .val (.long q2), .second, .val (.int p3), .val (.int p4), .val (.int p5), .val (.long va), .second, .val (.long vb), .second, .val (.int vx), .val (.int vy), .val (.ref b21), .val (.ref b23), .val (.int (-1 : Int32))] [])) (fun t k => XS.istore X24.here hx rfl (Jvm.hb hby at_168) rfl (l' := #[.val (.long q1), .second, .val (.long q2), .second, .val (.int p3), .val (.int p4), .val (.int p5), .val (.long va), .second, .val (.long vb), .second, .val (.int vx), .val (.int vy), .val (.ref b21), .val (.ref b23), .val (.int (-1 : Int32))]) rfl k) ?_
            refine own_go (B := T24.setTop (mkF m 189 #[.val (.long q1), .second, .val (.long q2), .second, .val (.int p3), .val (.int p4), .val (.int p5), .val (.long va), .second, .val (.long vb), .second, .val (.int vx), .val (.int vy), .val (.ref b21), .val (.ref b23), .val (.int (-1 : Int32))] [])) (fun t k => XS.goto X24.here hx rfl (pc0 := 170) (pc' := 189) rfl (Jvm.hb hby at_170) (by decide) (by decide) k) ?_
            exact J189 T24 _ X24 rfl N24 (-1 : Int32) (by rw [own_c1, if_neg hc137_29, if_neg hc151_30, if_pos hc164_31]) (by rw [own_c2, if_neg hc137_29, if_neg hc151_30, if_pos hc164_31]; first | done | decide)
          · refine own_go (B := T24.setTop (mkF m 173 #[.val (.long q1), .second, .val (.long q2), .second, .val (.int p3), .val (.int p4), .val (.int p5), .val (.long va), .second, .val (.long vb), .second, .val (.int vx), .val (.int vy), .val (.ref b21), .val (.ref b23), .unset] [])) (fun t k => XS.icmpYes X24.here hx rfl (pc0 := 164) (pc' := 173) rfl (Jvm.hb hby at_164) rfl (flt hc164_31).2.1 (by decide) (by decide) k) ?_
            refine own_go (B := T24.setTop (mkF m 175 #[.val (.long q1), .second, .val (.long q2), .second, .val (.int p3), .val (.int p4), .val (.int p5), .val (.long va), .second, .val (.long vb), .second, .val (.int vx), .val (.int vy), .val (.ref b21), .val (.ref b23), .unset] [(.int vx)])) (fun t k => XS.iload X24.here hx rfl (Jvm.hb hby at_173) rfl k) ?_
            refine own_go (B := T24.setTop (mkF m 177 #[.val (.long q1), .second, .val (.long q2), .second, .val (.int p3), .val (.int p4), .val (.int p5), .val (.long va), .second, .val (.long vb), .second, .val (.int vx), .val (.int vy), .val (.ref b21), .val (.ref b23), .unset] [(.int vy), (.int vx)])) (fun t k => XS.iload X24.here hx rfl (Jvm.hb hby at_175) rfl k) ?_
            by_cases hc177_32 : vy < vx
            · refine own_go (B := T24.setTop (mkF m 180 #[.val (.long q1), .second, .val (.long q2), .second, .val (.int p3), .val (.int p4), .val (.int p5), .val (.long va), .second, .val (.long vb), .second, .val (.int vx), .val (.int vy), .val (.ref b21), .val (.ref b23), .unset] [])) (fun t k => XS.icmpNo X24.here hx rfl (Jvm.hb hby at_177) rfl (tlt hc177_32).2.2.2 k) ?_
              refine own_go (B := T24.setTop (mkF m 181 #[.val (.long q1), .second, .val (.long q2), .second, .val (.int p3), .val (.int p4), .val (.int p5), .val (.long va), .second, .val (.long vb), .second, .val (.int vx), .val (.int vy), .val (.ref b21), .val (.ref b23), .unset] [(.int (1 : Int32))])) (fun t k => XS.iconst X24.here hx rfl (Jvm.hb hby at_180) k) ?_
              refine own_go (B := T24.setTop (mkF m 183 #[.val (.long q1), .second, .val (.long q2), .second, .val (.int p3), .val (.int p4), .val (.int p5), .val (.long va), .second, .val (.long vb), .second, .val (.int vx), .val (.int vy), .val (.ref b21), .val (.ref b23), .val (.int (1 : Int32))] [])) (fun t k => XS.istore X24.here hx rfl (Jvm.hb hby at_181) rfl (l' := #[.val (.long q1), .second, .val (.long q2), .second, .val (.int p3), .val (.int p4), .val (.int p5), .val (.long va), .second, .val (.long vb), .second, .val (.int vx), .val (.int vy), .val (.ref b21), .val (.ref b23), .val (.int (1 : Int32))]) rfl k) ?_
              refine own_go (B := T24.setTop (mkF m 189 #[.val (.long q1), .second, .val (.long q2), .second, .val (.int p3), .val (.int p4), .val (.int p5), .val (.long va), .second, .val (.long vb), .second, .val (.int vx), .val (.int vy), .val (.ref b21), .val (.ref b23), .val (.int (1 : Int32))] [])) (fun t k => XS.goto X24.here hx rfl (pc0 := 183) (pc' := 189) rfl (Jvm.hb hby at_183) (by decide) (by decide) k) ?_
              exact J189 T24 _ X24 rfl N24 (1 : Int32) (by rw [own_c1, if_neg hc137_29, if_neg hc151_30, if_neg hc164_31, if_pos hc177_32]) (by rw [own_c2, if_neg hc137_29, if_neg hc151_30, if_neg hc164_31, if_pos hc177_32]; first | done | decide)
            · refine own_go (B := T24.setTop (mkF m 186 #[.val (.long q1), .second, .val (.long q2), .second, .val (.int p3), .val (.int p4), .val (.int p5), .val (.long va), .second, .val (.long vb), .second, .val (.int vx), .val (.int vy), .val (.ref b21), .val (.ref b23), .unset] [])) (fun t k => XS.icmpYes X24.here hx rfl (pc0 := 177) (pc' := 186) rfl (Jvm.hb hby at_177) rfl (flt hc177_32).2.2.2 (by decide) (by decide) k) ?_
              refine own_go (B := T24.setTop (mkF m 187 #[.val (.long q1), .second, .val (.long q2), .second, .val (.int p3), .val (.int p4), .val (.int p5), .val (.long va), .second, .val (.long vb), .second, .val (.int vx), .val (.int vy), .val (.ref b21), .val (.ref b23), .unset] [(.int (0 : Int32))])) (fun t k => XS.iconst X24.here hx rfl (Jvm.hb hby at_186) k) ?_
              refine own_go (B := T24.setTop (mkF m 189 #[.val (.long q1), .second, .val (.long q2), .second, .val (.int p3), .val (.int p4), .val (.int p5), .val (.long va), .second, .val (.long vb), .second, .val (.int vx), .val (.int vy), .val (.ref b21), .val (.ref b23), .val (.int (0 : Int32))] [])) (fun t k => XS.istore X24.here hx rfl (Jvm.hb hby at_187) rfl (l' := #[.val (.long q1), .second, .val (.long q2), .second, .val (.int p3), .val (.int p4), .val (.int p5), .val (.long va), .second, .val (.long vb), .second, .val (.int vx), .val (.int vy), .val (.ref b21), .val (.ref b23), .val (.int (0 : Int32))]) rfl k) ?_
              exact J189 T24 _ X24 rfl N24 (0 : Int32) (by rw [own_c1, if_neg hc137_29, if_neg hc151_30, if_neg hc164_31, if_neg hc177_32]) (by rw [own_c2, if_neg hc137_29, if_neg hc151_30, if_neg hc164_31, if_neg hc177_32]; first | done | decide)
    refine own_go (B := Tj68.setTop (mkF m 83 #[.val (.long q1), .second, .val (.long q2), .second, .val (.int p3), .val (.int p4), .val (.int p5), .val (.long va), .second, .val (.long vb), .second, .val (.int vx), .unset, .unset, .unset, .unset] [(.int p5)])) (fun t k => XS.iload Xj68.here hx rfl (Jvm.hb hby at_81) rfl k) ?_
    refine own_go (B := Tj68.setTop (mkF m 84 #[.val (.long q1), .second, .val (.long q2), .second, .val (.int p3), .val (.int p4), .val (.int p5), .val (.long va), .second, .val (.long vb), .second, .val (.int vx), .unset, .unset, .unset, .unset] [(.int (2 : Int32)), (.int p5)])) (fun t k => XS.iconst Xj68.here hx rfl (Jvm.hb hby at_83) k) ?_
    refine own_go (B := Tj68.setTop (mkF m 85 #[.val (.long q1), .second, .val (.long q2), .second, .val (.int p3), .val (.int p4), .val (.int p5), .val (.long va), .second, .val (.long vb), .second, .val (.int vx), .unset, .unset, .unset, .unset] [(.int (p5 &&& (2 : Int32)))])) (fun t k => XS.iand Xj68.here hx rfl (Jvm.hb hby at_84) rfl k) ?_
    by_cases hc85_33 : (p5 &&& (2 : Int32)) = (0 : Int32)
    · refine own_go (B := Tj68.setTop (mkF m 93 #[.val (.long q1), .second, .val (.long q2), .second, .val (.int p3), .val (.int p4), .val (.int p5), .val (.long va), .second, .val (.long vb), .second, .val (.int vx), .unset, .unset, .unset, .unset] [])) (fun t k => XS.ifYes Xj68.here hx rfl (pc0 := 85) (pc' := 93) rfl (Jvm.hb hby at_85) rfl ((if0 _ _).trans (teq hc85_33).1) (by decide) (by decide) k) ?_
      refine own_go (B := Tj68.setTop (mkF m 94 #[.val (.long q1), .second, .val (.long q2), .second, .val (.int p3), .val (.int p4), .val (.int p5), .val (.long va), .second, .val (.long vb), .second, .val (.int vx), .unset, .unset, .unset, .unset] [(.int (1 : Int32))])) (fun t k => XS.iconst Xj68.here hx rfl (Jvm.hb hby at_93) k) ?_
      refine own_go (B := Tj68.setTop (mkF m 96 #[.val (.long q1), .second, .val (.long q2), .second, .val (.int p3), .val (.int p4), .val (.int p5), .val (.long va), .second, .val (.long vb), .second, .val (.int vx), .unset, .unset, .unset, .unset] [(.int p4), (.int (1 : Int32))])) (fun t k => XS.iload Xj68.here hx rfl (Jvm.hb hby at_94) rfl k) ?_
      refine own_go (B := Tj68.setTop (mkF m 98 #[.val (.long q1), .second, .val (.long q2), .second, .val (.int p3), .val (.int p4), .val (.int p5), .val (.long va), .second, .val (.long vb), .second, .val (.int vx), .unset, .unset, .unset, .unset] [(.int (2147483647 : Int32)), (.int p4), (.int (1 : Int32))])) (fun t k => Xj68.ldcInt hx hown (mvT hZ (own_w hw 5 rfl)) (g := (mkF m 96 #[.val (.long q1), .second, .val (.long q2), .second, .val (.int p3), .val (.int p4), .val (.int p5), .val (.long va), .second, .val (.long vb), .second, .val (.int vx), .unset, .unset, .unset, .unset] [(.int p4), (.int (1 : Int32))])) rfl (Jvm.hb hby at_96) _ k) ?_
      refine own_go (B := Tj68.setTop (mkF m 99 #[.val (.long q1), .second, .val (.long q2), .second, .val (.int p3), .val (.int p4), .val (.int p5), .val (.long va), .second, .val (.long vb), .second, .val (.int vx), .unset, .unset, .unset, .unset] [(.int (p4 &&& (2147483647 : Int32))), (.int (1 : Int32))])) (fun t k => XS.iand Xj68.here hx rfl (Jvm.hb hby at_98) rfl k) ?_
      refine own_go (B := Tj68.setTop (mkF m 102 #[.val (.long q1), .second, .val (.long q2), .second, .val (.int p3), .val (.int p4), .val (.int p5), .val (.long va), .second, .val (.long vb), .second, .val (.int vx), .unset, .unset, .unset, .unset] [(.int (255 : Int32)), (.int (p4 &&& (2147483647 : Int32))), (.int (1 : Int32))])) (fun t k => XS.sipush Xj68.here hx rfl (Jvm.hb hby at_99) k) ?_
      refine own_go (B := Tj68.setTop (mkF m 103 #[.val (.long q1), .second, .val (.long q2), .second, .val (.int p3), .val (.int p4), .val (.int p5), .val (.long va), .second, .val (.long vb), .second, .val (.int vx), .unset, .unset, .unset, .unset] [(.int ((p4 &&& (2147483647 : Int32)) % (255 : Int32))), (.int (1 : Int32))])) (fun t k => own_irem Xj68.here hx rfl (Jvm.hb hby at_102) rfl (by decide) k) ?_
      refine own_go (B := Tj68.setTop (mkF m 104 #[.val (.long q1), .second, .val (.long q2), .second, .val (.int p3), .val (.int p4), .val (.int p5), .val (.long va), .second, .val (.long vb), .second, .val (.int vx), .unset, .unset, .unset, .unset] [(.int ((1 : Int32) + ((p4 &&& (2147483647 : Int32)) % (255 : Int32))))])) (fun t k => XS.iadd Xj68.here hx rfl (Jvm.hb hby at_103) rfl k) ?_
      refine own_go (B := Tj68.setTop (mkF m 106 #[.val (.long q1), .second, .val (.long q2), .second, .val (.int p3), .val (.int p4), .val (.int p5), .val (.long va), .second, .val (.long vb), .second, .val (.int vx), .val (.int ((1 : Int32) + ((p4 &&& (2147483647 : Int32)) % (255 : Int32)))), .unset, .unset, .unset] [])) (fun t k => XS.istore Xj68.here hx rfl (Jvm.hb hby at_104) rfl (l' := #[.val (.long q1), .second, .val (.long q2), .second, .val (.int p3), .val (.int p4), .val (.int p5), .val (.long va), .second, .val (.long vb), .second, .val (.int vx), .val (.int ((1 : Int32) + ((p4 &&& (2147483647 : Int32)) % (255 : Int32)))), .unset, .unset, .unset]) rfl k) ?_
      exact J106 Tj68 _ Xj68 ej68 Nj68 ((1 : Int32) + ((p4 &&& (2147483647 : Int32)) % (255 : Int32))) (own_id _ _ rfl)
    · refine own_go (B := Tj68.setTop (mkF m 88 #[.val (.long q1), .second, .val (.long q2), .second, .val (.int p3), .val (.int p4), .val (.int p5), .val (.long va), .second, .val (.long vb), .second, .val (.int vx), .unset, .unset, .unset, .unset] [])) (fun t k => XS.ifNo Xj68.here hx rfl (Jvm.hb hby at_85) rfl ((if0 _ _).trans (feq hc85_33).1) k) ?_
      refine own_go (B := Tj68.setTop (mkF m 90 #[.val (.long q1), .second, .val (.long q2), .second, .val (.int p3), .val (.int p4), .val (.int p5), .val (.long va), .second, .val (.long vb), .second, .val (.int vx), .unset, .unset, .unset, .unset] [(.int vx)])) (fun t k => XS.iload Xj68.here hx rfl (Jvm.hb hby at_88) rfl k) ?_
      refine own_go (B := Tj68.setTop (mkF m 104 #[.val (.long q1), .second, .val (.long q2), .second, .val (.int p3), .val (.int p4), .val (.int p5), .val (.long va), .second, .val (.long vb), .second, .val (.int vx), .unset, .unset, .unset, .unset] [(.int vx)])) (fun t k => XS.goto Xj68.here hx rfl (pc0 := 90) (pc' := 104) rfl (Jvm.hb hby at_90) (by decide) (by decide) k) ?_
      refine own_go (B := Tj68.setTop (mkF m 106 #[.val (.long q1), .second, .val (.long q2), .second, .val (.int p3), .val (.int p4), .val (.int p5), .val (.long va), .second, .val (.long vb), .second, .val (.int vx), .val (.int vx), .unset, .unset, .unset] [])) (fun t k => XS.istore Xj68.here hx rfl (Jvm.hb hby at_104) rfl (l' := #[.val (.long q1), .second, .val (.long q2), .second, .val (.int p3), .val (.int p4), .val (.int p5), .val (.long va), .second, .val (.long vb), .second, .val (.int vx), .val (.int vx), .unset, .unset, .unset]) rfl k) ?_
      exact J106 Tj68 _ Xj68 ej68 Nj68 vx hidx
  refine own_go (B := T20.setTop (mkF m 13 #[.val (.long q1), .second, .val (.long q2), .second, .val (.int p3), .val (.int p4), .val (.int p5), .val (.long va), .second, .unset, .unset, .unset, .unset, .unset, .unset, .unset] [(.int p5)])) (fun t k => XS.iload X20.here hx rfl (Jvm.hb hby at_11) rfl k) ?_
  refine own_go (B := T20.setTop (mkF m 14 #[.val (.long q1), .second, .val (.long q2), .second, .val (.int p3), .val (.int p4), .val (.int p5), .val (.long va), .second, .unset, .unset, .unset, .unset, .unset, .unset, .unset] [(.int (1 : Int32)), (.int p5)])) (fun t k => XS.iconst X20.here hx rfl (Jvm.hb hby at_13) k) ?_
  refine own_go (B := T20.setTop (mkF m 15 #[.val (.long q1), .second, .val (.long q2), .second, .val (.int p3), .val (.int p4), .val (.int p5), .val (.long va), .second, .unset, .unset, .unset, .unset, .unset, .unset, .unset] [(.int (p5 &&& (1 : Int32)))])) (fun t k => XS.iand X20.here hx rfl (Jvm.hb hby at_14) rfl k) ?_
  by_cases hc15_34 : (p5 &&& (1 : Int32)) = (0 : Int32)
  · refine own_go (B := T20.setTop (mkF m 25 #[.val (.long q1), .second, .val (.long q2), .second, .val (.int p3), .val (.int p4), .val (.int p5), .val (.long va), .second, .unset, .unset, .unset, .unset, .unset, .unset, .unset] [])) (fun t k => XS.ifYes X20.here hx rfl (pc0 := 15) (pc' := 25) rfl (Jvm.hb hby at_15) rfl ((if0 _ _).trans (teq hc15_34).1) (by decide) (by decide) k) ?_
    refine own_go (B := T20.setTop (mkF m 27 #[.val (.long q1), .second, .val (.long q2), .second, .val (.int p3), .val (.int p4), .val (.int p5), .val (.long va), .second, .unset, .unset, .unset, .unset, .unset, .unset, .unset] [(.int p5)])) (fun t k => XS.iload X20.here hx rfl (Jvm.hb hby at_25) rfl k) ?_
    refine own_go (B := T20.setTop (mkF m 28 #[.val (.long q1), .second, .val (.long q2), .second, .val (.int p3), .val (.int p4), .val (.int p5), .val (.long va), .second, .unset, .unset, .unset, .unset, .unset, .unset, .unset] [(.int (4 : Int32)), (.int p5)])) (fun t k => XS.iconst X20.here hx rfl (Jvm.hb hby at_27) k) ?_
    refine own_go (B := T20.setTop (mkF m 29 #[.val (.long q1), .second, .val (.long q2), .second, .val (.int p3), .val (.int p4), .val (.int p5), .val (.long va), .second, .unset, .unset, .unset, .unset, .unset, .unset, .unset] [(.int (p5 &&& (4 : Int32)))])) (fun t k => XS.iand X20.here hx rfl (Jvm.hb hby at_28) rfl k) ?_
    by_cases hc29_35 : (p5 &&& (4 : Int32)) = (0 : Int32)
    · refine own_go (B := T20.setTop (mkF m 57 #[.val (.long q1), .second, .val (.long q2), .second, .val (.int p3), .val (.int p4), .val (.int p5), .val (.long va), .second, .unset, .unset, .unset, .unset, .unset, .unset, .unset] [])) (fun t k => XS.ifYes X20.here hx rfl (pc0 := 29) (pc' := 57) rfl (Jvm.hb hby at_29) rfl ((if0 _ _).trans (teq hc29_35).1) (by decide) (by decide) k) ?_
      refine own_go (B := T20.setTop (mkF m 58 #[.val (.long q1), .second, .val (.long q2), .second, .val (.int p3), .val (.int p4), .val (.int p5), .val (.long va), .second, .unset, .unset, .unset, .unset, .unset, .unset, .unset] [(.long (1 : Int64))])) (fun t k => XS.lconst X20.here hx rfl (Jvm.hb hby at_57) k) ?_
      refine own_go (B := T20.setTop (mkF m 59 #[.val (.long q1), .second, .val (.long q2), .second, .val (.int p3), .val (.int p4), .val (.int p5), .val (.long va), .second, .unset, .unset, .unset, .unset, .unset, .unset, .unset] [(.long q2), (.long (1 : Int64))])) (fun t k => XS.lloadN X20.here hx rfl (Jvm.hb hby at_58) rfl k) ?_
      refine own_go (B := T20.setTop (mkF m 62 #[.val (.long q1), .second, .val (.long q2), .second, .val (.int p3), .val (.int p4), .val (.int p5), .val (.long va), .second, .unset, .unset, .unset, .unset, .unset, .unset, .unset] [(.long (36028797018963967 : Int64)), (.long q2), (.long (1 : Int64))])) (fun t k => X20.ldc2Long hx hown (mvT hZ (own_w hw 0 rfl)) (g := (mkF m 59 #[.val (.long q1), .second, .val (.long q2), .second, .val (.int p3), .val (.int p4), .val (.int p5), .val (.long va), .second, .unset, .unset, .unset, .unset, .unset, .unset, .unset] [(.long q2), (.long (1 : Int64))])) rfl (Jvm.hb hby at_59) _ k) ?_
      refine own_go (B := T20.setTop (mkF m 63 #[.val (.long q1), .second, .val (.long q2), .second, .val (.int p3), .val (.int p4), .val (.int p5), .val (.long va), .second, .unset, .unset, .unset, .unset, .unset, .unset, .unset] [(.long (q2 &&& (36028797018963967 : Int64))), (.long (1 : Int64))])) (fun t k => XS.land X20.here hx rfl (Jvm.hb hby at_62) rfl k) ?_
      obtain ⟨_, _, ⟨T36, La36, ka36, na36⟩, -, X36, ⟨Lc36, hQ36, l36, y36, z36⟩, st36⟩ := Jvm.LawKit.callS X20 hx (y := (⟨"java/lang/Math", "max", "(JJ)J"⟩ : MethodName)) hown (mvT hZ (own_w hw 1 rfl)) (mvT hZ (own_w hw 2 rfl)) (mvT hZ (own_w hw 3 rfl)) (mvT hZ (own_w hw 4 rfl)) (by decide) (backOf (W := 0) (rm1 l Z a0 hw [] (1 : Int64) (q2 &&& (36028797018963967 : Int64)) h0 n0 Zs) hZ (own_w hw 4 rfl) (own_w hw 3 rfl) (by decide) (by decide)) (g := (mkF m 63 #[.val (.long q1), .second, .val (.long q2), .second, .val (.int p3), .val (.int p4), .val (.int p5), .val (.long va), .second, .unset, .unset, .unset, .unset, .unset, .unset, .unset] [(.long (q2 &&& (36028797018963967 : Int64))), (.long (1 : Int64))])) rfl (by rw [hml]; rfl) (argsL := [(.long (1 : Int64)), (.long (q2 &&& (36028797018963967 : Int64)))]) (rest := []) (lenOf pd_4 rfl) rfl (by show 2 * 0 + _ ≤ _; exact Nat.le_of_eq rfl) (Jvm.hb hby at_63) (fun _ _ => ⟨rfl, e20, (by decide : 0 + 0 ≤ _), (by decide : 0 + 0 ≤ _)⟩)
      dsimp only [Pt.U, Pt.locs, Pt.cells, Pt.slots] at X36 l36 y36 z36 st36 hQ36
      subst l36 y36 z36
      obtain ⟨rfl, N36q, e36⟩ := hQ36
      have N36 := Fr.app N20 N36q
      refine own_go (B := T36.setTop (mkF m 66 #[.val (.long q1), .second, .val (.long q2), .second, .val (.int p3), .val (.int p4), .val (.int p5), .val (.long va), .second, .unset, .unset, .unset, .unset, .unset, .unset, .unset] [(.long (own_f1 (1 : Int64) (q2 &&& (36028797018963967 : Int64))))])) (fun t k => st36 _ k) ?_
      refine own_go (B := T36.setTop (mkF m 68 #[.val (.long q1), .second, .val (.long q2), .second, .val (.int p3), .val (.int p4), .val (.int p5), .val (.long va), .second, .val (.long (own_f1 (1 : Int64) (q2 &&& (36028797018963967 : Int64)))), .second, .unset, .unset, .unset, .unset, .unset] [])) (fun t k => XS.lstore X36.here hx rfl (Jvm.hb hby at_66) rfl (l' := #[.val (.long q1), .second, .val (.long q2), .second, .val (.int p3), .val (.int p4), .val (.int p5), .val (.long va), .second, .val (.long (own_f1 (1 : Int64) (q2 &&& (36028797018963967 : Int64)))), .second, .unset, .unset, .unset, .unset, .unset]) rfl k) ?_
      exact J68 T36 _ X36 e36 N36 (own_f1 (1 : Int64) (q2 &&& (36028797018963967 : Int64))) (own_mx q2)
    · refine own_go (B := T20.setTop (mkF m 32 #[.val (.long q1), .second, .val (.long q2), .second, .val (.int p3), .val (.int p4), .val (.int p5), .val (.long va), .second, .unset, .unset, .unset, .unset, .unset, .unset, .unset] [])) (fun t k => XS.ifNo X20.here hx rfl (Jvm.hb hby at_29) rfl ((if0 _ _).trans (feq hc29_35).1) k) ?_
      refine own_go (B := T20.setTop (mkF m 34 #[.val (.long q1), .second, .val (.long q2), .second, .val (.int p3), .val (.int p4), .val (.int p5), .val (.long va), .second, .unset, .unset, .unset, .unset, .unset, .unset, .unset] [(.long va)])) (fun t k => XS.lload X20.here hx rfl (Jvm.hb hby at_32) rfl k) ?_
      refine own_go (B := T20.setTop (mkF m 37 #[.val (.long q1), .second, .val (.long q2), .second, .val (.int p3), .val (.int p4), .val (.int p5), .val (.long va), .second, .unset, .unset, .unset, .unset, .unset, .unset, .unset] [(.long (36028797018963967 : Int64)), (.long va)])) (fun t k => X20.ldc2Long hx hown (mvT hZ (own_w hw 0 rfl)) (g := (mkF m 34 #[.val (.long q1), .second, .val (.long q2), .second, .val (.int p3), .val (.int p4), .val (.int p5), .val (.long va), .second, .unset, .unset, .unset, .unset, .unset, .unset, .unset] [(.long va)])) rfl (Jvm.hb hby at_34) _ k) ?_
      refine own_go (B := T20.setTop (mkF m 38 #[.val (.long q1), .second, .val (.long q2), .second, .val (.int p3), .val (.int p4), .val (.int p5), .val (.long va), .second, .unset, .unset, .unset, .unset, .unset, .unset, .unset] [(.int (lcmpW va (36028797018963967 : Int64)))])) (fun t k => XS.lcmp X20.here hx rfl (Jvm.hb hby at_37) rfl k) ?_
      by_cases hc38_37 : va < (36028797018963967 : Int64)
      · refine own_go (B := T20.setTop (mkF m 41 #[.val (.long q1), .second, .val (.long q2), .second, .val (.int p3), .val (.int p4), .val (.int p5), .val (.long va), .second, .unset, .unset, .unset, .unset, .unset, .unset, .unset] [])) (fun t k => XS.ifNo X20.here hx rfl (Jvm.hb hby at_38) rfl ((if0 _ _).trans (tlt ((lw_lt va (36028797018963967 : Int64)).mpr hc38_37)).2.1) k) ?_
        refine own_go (B := T20.setTop (mkF m 43 #[.val (.long q1), .second, .val (.long q2), .second, .val (.int p3), .val (.int p4), .val (.int p5), .val (.long va), .second, .unset, .unset, .unset, .unset, .unset, .unset, .unset] [(.long va)])) (fun t k => XS.lload X20.here hx rfl (Jvm.hb hby at_41) rfl k) ?_
        refine own_go (B := T20.setTop (mkF m 44 #[.val (.long q1), .second, .val (.long q2), .second, .val (.int p3), .val (.int p4), .val (.int p5), .val (.long va), .second, .unset, .unset, .unset, .unset, .unset, .unset, .unset] [(.long (1 : Int64)), (.long va)])) (fun t k => XS.lconst X20.here hx rfl (Jvm.hb hby at_43) k) ?_
        refine own_go (B := T20.setTop (mkF m 45 #[.val (.long q1), .second, .val (.long q2), .second, .val (.int p3), .val (.int p4), .val (.int p5), .val (.long va), .second, .unset, .unset, .unset, .unset, .unset, .unset, .unset] [(.long (va + (1 : Int64)))])) (fun t k => XS.ladd X20.here hx rfl (Jvm.hb hby at_44) rfl k) ?_
        refine own_go (B := T20.setTop (mkF m 52 #[.val (.long q1), .second, .val (.long q2), .second, .val (.int p3), .val (.int p4), .val (.int p5), .val (.long va), .second, .unset, .unset, .unset, .unset, .unset, .unset, .unset] [(.long (va + (1 : Int64)))])) (fun t k => XS.goto X20.here hx rfl (pc0 := 45) (pc' := 52) rfl (Jvm.hb hby at_45) (by decide) (by decide) k) ?_
        refine own_go (B := T20.setTop (mkF m 54 #[.val (.long q1), .second, .val (.long q2), .second, .val (.int p3), .val (.int p4), .val (.int p5), .val (.long va), .second, .val (.long (va + (1 : Int64))), .second, .unset, .unset, .unset, .unset, .unset] [])) (fun t k => XS.lstore X20.here hx rfl (Jvm.hb hby at_52) rfl (l' := #[.val (.long q1), .second, .val (.long q2), .second, .val (.int p3), .val (.int p4), .val (.int p5), .val (.long va), .second, .val (.long (va + (1 : Int64))), .second, .unset, .unset, .unset, .unset, .unset]) rfl k) ?_
        refine own_go (B := T20.setTop (mkF m 68 #[.val (.long q1), .second, .val (.long q2), .second, .val (.int p3), .val (.int p4), .val (.int p5), .val (.long va), .second, .val (.long (va + (1 : Int64))), .second, .unset, .unset, .unset, .unset, .unset] [])) (fun t k => XS.goto X20.here hx rfl (pc0 := 54) (pc' := 68) rfl (Jvm.hb hby at_54) (by decide) (by decide) k) ?_
        exact J68 T20 _ X20 e20 N20 (va + (1 : Int64)) (by have e1 : (1 : Int64).toInt = 1 := rfl; have e2 : (36028797018963967 : Int64).toInt = 36028797018963967 := (by decide); rw [Int64.lt_iff_toInt_lt, e2] at hc38_37; have k1 := c_ladd va 1; have k2 := c_lsub va 1; have r1 := rng64 (va + 1); have r2 := rng64 (va - 1); rw [e1] at k1 k2; omega)
      · refine own_go (B := T20.setTop (mkF m 48 #[.val (.long q1), .second, .val (.long q2), .second, .val (.int p3), .val (.int p4), .val (.int p5), .val (.long va), .second, .unset, .unset, .unset, .unset, .unset, .unset, .unset] [])) (fun t k => XS.ifYes X20.here hx rfl (pc0 := 38) (pc' := 48) rfl (Jvm.hb hby at_38) rfl ((if0 _ _).trans (flt (mt (lw_lt va (36028797018963967 : Int64)).mp hc38_37)).2.1) (by decide) (by decide) k) ?_
        refine own_go (B := T20.setTop (mkF m 50 #[.val (.long q1), .second, .val (.long q2), .second, .val (.int p3), .val (.int p4), .val (.int p5), .val (.long va), .second, .unset, .unset, .unset, .unset, .unset, .unset, .unset] [(.long va)])) (fun t k => XS.lload X20.here hx rfl (Jvm.hb hby at_48) rfl k) ?_
        refine own_go (B := T20.setTop (mkF m 51 #[.val (.long q1), .second, .val (.long q2), .second, .val (.int p3), .val (.int p4), .val (.int p5), .val (.long va), .second, .unset, .unset, .unset, .unset, .unset, .unset, .unset] [(.long (1 : Int64)), (.long va)])) (fun t k => XS.lconst X20.here hx rfl (Jvm.hb hby at_50) k) ?_
        refine own_go (B := T20.setTop (mkF m 52 #[.val (.long q1), .second, .val (.long q2), .second, .val (.int p3), .val (.int p4), .val (.int p5), .val (.long va), .second, .unset, .unset, .unset, .unset, .unset, .unset, .unset] [(.long (va - (1 : Int64)))])) (fun t k => XS.lsub X20.here hx rfl (Jvm.hb hby at_51) rfl k) ?_
        refine own_go (B := T20.setTop (mkF m 54 #[.val (.long q1), .second, .val (.long q2), .second, .val (.int p3), .val (.int p4), .val (.int p5), .val (.long va), .second, .val (.long (va - (1 : Int64))), .second, .unset, .unset, .unset, .unset, .unset] [])) (fun t k => XS.lstore X20.here hx rfl (Jvm.hb hby at_52) rfl (l' := #[.val (.long q1), .second, .val (.long q2), .second, .val (.int p3), .val (.int p4), .val (.int p5), .val (.long va), .second, .val (.long (va - (1 : Int64))), .second, .unset, .unset, .unset, .unset, .unset]) rfl k) ?_
        refine own_go (B := T20.setTop (mkF m 68 #[.val (.long q1), .second, .val (.long q2), .second, .val (.int p3), .val (.int p4), .val (.int p5), .val (.long va), .second, .val (.long (va - (1 : Int64))), .second, .unset, .unset, .unset, .unset, .unset] [])) (fun t k => XS.goto X20.here hx rfl (pc0 := 54) (pc' := 68) rfl (Jvm.hb hby at_54) (by decide) (by decide) k) ?_
        exact J68 T20 _ X20 e20 N20 (va - (1 : Int64)) (by have e1 : (1 : Int64).toInt = 1 := rfl; have e2 : (36028797018963967 : Int64).toInt = 36028797018963967 := (by decide); rw [Int64.lt_iff_toInt_lt, e2] at hc38_37; have k1 := c_ladd va 1; have k2 := c_lsub va 1; have r1 := rng64 (va + 1); have r2 := rng64 (va - 1); rw [e1] at k1 k2; omega)
  · refine own_go (B := T20.setTop (mkF m 18 #[.val (.long q1), .second, .val (.long q2), .second, .val (.int p3), .val (.int p4), .val (.int p5), .val (.long va), .second, .unset, .unset, .unset, .unset, .unset, .unset, .unset] [])) (fun t k => XS.ifNo X20.here hx rfl (Jvm.hb hby at_15) rfl ((if0 _ _).trans (feq hc15_34).1) k) ?_
    refine own_go (B := T20.setTop (mkF m 20 #[.val (.long q1), .second, .val (.long q2), .second, .val (.int p3), .val (.int p4), .val (.int p5), .val (.long va), .second, .unset, .unset, .unset, .unset, .unset, .unset, .unset] [(.long va)])) (fun t k => XS.lload X20.here hx rfl (Jvm.hb hby at_18) rfl k) ?_
    refine own_go (B := T20.setTop (mkF m 22 #[.val (.long q1), .second, .val (.long q2), .second, .val (.int p3), .val (.int p4), .val (.int p5), .val (.long va), .second, .val (.long va), .second, .unset, .unset, .unset, .unset, .unset] [])) (fun t k => XS.lstore X20.here hx rfl (Jvm.hb hby at_20) rfl (l' := #[.val (.long q1), .second, .val (.long q2), .second, .val (.int p3), .val (.int p4), .val (.int p5), .val (.long va), .second, .val (.long va), .second, .unset, .unset, .unset, .unset, .unset]) rfl k) ?_
    refine own_go (B := T20.setTop (mkF m 68 #[.val (.long q1), .second, .val (.long q2), .second, .val (.int p3), .val (.int p4), .val (.int p5), .val (.long va), .second, .val (.long va), .second, .unset, .unset, .unset, .unset, .unset] [])) (fun t k => XS.goto X20.here hx rfl (pc0 := 22) (pc' := 68) rfl (Jvm.hb hby at_22) (by decide) (by decide) k) ?_
    exact J68 T20 _ X20 e20 N20 va ha
set_option maxRecDepth 65536 in
set_option maxHeartbeats 40000000 in
theorem comes_1 {Post : Tables → Env → Array Value → State → Outcome → State → Prop} (hpost : ∀ tb e args s v u, (limb_1_1.after args s (.returned v) u = true ∧ limb_1_2.after args s (.returned v) u = true ∧ True) → FrameEnd s (.returned v) u (Jvm.fieldLocs frame_1_writes args s ++ Jvm.arrayLocs frame_1_arrays args s ++ Jvm.staticLocs frame_1_statics s) 16 128 → Post tb e args s (.returned v) u) :
    ArmFor flags0 classFile x code maxLocals ret World_1 tables_1 room_1 Calls_1 rest_1 Pre_1 Post := by
  intro l hfl _ _ p e ha hc hk s m args below hf hA hF happ hP
  obtain ⟨hcalls, hrest, hpre⟩ := hP
  obtain ⟨-, -, -, hnamed, -, -, -, hat⟩ := (Spec.applies_iff hf).mp happ
  obtain ⟨hg, hn⟩ := and_e (Cond.before_iff.mp (show (Jvm.Cond.and given_1 narrow_1).before args s = true from hpre))
  obtain ⟨g1a, g1b⟩ := and_e hg
  obtain ⟨g2a, g2b⟩ := and_e g1b
  obtain ⟨g3a, g3b⟩ := and_e g2b
  obtain ⟨g4a, g4b⟩ := and_e g3b
  obtain ⟨g5a, g5b⟩ := and_e g4b
  obtain ⟨w0, w1, w2, w3, w4, rfl⟩ : ∃ w0 w1 w2 w3 w4 : Value, args = #[w0, w1, w2, w3, w4] := by
    have hs : args.size = 5 := by simpa [Cond.value, given_1] using g1a
    obtain ⟨L⟩ := args
    match L, hs with
    | [w0, w1, w2, w3, w4], _ => exact ⟨w0, w1, w2, w3, w4, rfl⟩
  have hw := fun d (hd : d ∈ tables_1) => atoms_spec (ws := Jvm.Cond.code x code maxLocals ret :: tables_1) hat d (List.mem_cons_of_mem _ hd)
  obtain ⟨i0, ei0⟩ := isL_v g2a
  obtain rfl : w0 = (.long i0) := Option.some.inj ei0
  obtain ⟨i1, ei1⟩ := isL_v g3a
  obtain rfl : w1 = (.long i1) := Option.some.inj ei1
  obtain ⟨i2, ei2⟩ := is_v g4a
  obtain rfl : w2 = (.int i2) := Option.some.inj ei2
  obtain ⟨i3, ei3⟩ := is_v g5a
  obtain rfl : w3 = (.int i3) := Option.some.inj ei3
  obtain ⟨i4, ei4⟩ := is_v g5b
  obtain rfl : w4 = (.int i4) := Option.some.inj ei4
  obtain ⟨n, o, h1, h2, h3, _, L, rfl, ⟨rfl, N⟩, hq⟩ := rm0 l s _ hw tables_1 i0 i1 i2 i3 i4 s.heap s.heap.size (Nat.le_refl _) p e ha hc hk s m _ below hf ((Spec.applies_iff_loose hf).mp happ).1 ⟨rfl, State.Warmed39.refl s, rfl⟩ trivial
  refine ⟨n, _, h1, h2, h3, hpost _ _ _ _ _ _ ⟨Cond.after_iff.mpr rfl, Cond.after_iff.mpr (eq_i res_at (Term.int_eval (1)) rfl), trivial⟩ ⟨hq.1, hq.2.1, (hq.2.2.sift fun y hy => Or.inr (N y hy)).mono (by decide) (by decide)⟩⟩
theorem main_1_1 : Claimed_1_1 := comes_1 fun _ _ _ _ _ _ h hF => ⟨h.1, hF⟩
theorem main_1_2 : Claimed_1_2 := comes_1 fun _ _ _ _ _ _ h hF => ⟨h.2.1, hF⟩
end Jvm.Pilot.@@N@@
namespace Jvm.Pilot.@@N@@
open Jvm Jvm.ClassFile Sem Op Lib Jvm.Free Jvm.Stand Jvm.Pilot.@@N@@.Jvm.D
/-! MADE BY PROGRAM (witnessworld.py) out of the Statement's table words and the real class files: 17 classes; the members and pool entries that the words name. The judged class is class 1, her method 1. -/
namespace start1
open Jvm.ClassFile
def u (s : String) : CpInfo := .utf8 (stringToUtf16 s)
/-- a pool by its gaps: so many unusable entries, then the entry; so many at the end -/
def gap : Nat → List CpInfo → List CpInfo
  | 0, r => r
  | n + 1, r => .unusable :: gap n r
def poolList (es : List (Nat × CpInfo)) (last : Nat) : List CpInfo := es.foldr (fun e r => gap e.1 (e.2 :: r)) (gap last [])
def pool (es : List (Nat × CpInfo)) (last : Nat) : Array CpInfo := ⟨poolList es last⟩
def fileOf (pool : Array CpInfo) (this : Nat) (attrs : Array Attribute := #[]) (ms : Array MethodInfo := #[]) (fl : Nat := 33) (sup : Nat := 0) (ifs : Array Nat := #[]) (fds : Array FieldInfo := #[]) : ClassFile where
  minorVersion := 0
  majorVersion := 65
  constantPool := pool
  accessFlags := fl
  thisClass := this
  superClass := sup
  interfaces := ifs
  fields := fds
  methods := ms
  attributes := attrs
def plain (name : String) (sup : Option ClassId) : Class where
  name := name
  kind := .ordinary
  loader := none
  accessFlags := 33
  super := sup
  interfaces := #[]
  cf := none
  fields := #[]
  methods := #[]
  instanceTypes := #[]
  staticTypes := #[]
  resolved := #[]
  callSites := []
  init := .initialized
  statics := none
  mirror := none

def pool0 : Array CpInfo := pool [(5, u "<init>"), (0, u "()V"), (1, .class_ 10), (1, u "java/lang/Object")] 113

def k0c0 : Code := { maxStack := 0, maxLocals := 1, code := object_method_1_code, exceptionTable := #[], attributes := #[] }
def k0m0 : Method := { name := "<init>", desc := "()V", sig := { parameters := [], returnType := none }, accessFlags := 1, code := some k0c0 }
/-- java/lang/Object -/
def k0 : Class := { plain "java/lang/Object" none with
  accessFlags := 33
  interfaces := #[]
  cf := some (fileOf pool0 8 #[] #[{ accessFlags := 1, nameIndex := 5, descriptorIndex := 6, attributes := #[] }] 33 0 #[] #[])
  fields := #[]
  methods := #[k0m0]
  instanceTypes := #[]
  staticTypes := #[]
  resolved := Array.replicate 124 none
  statics := none }

def pool1 : Array CpInfo := pool [(2, .class_ 4), (1, u "java/lang/Object"), (0, u "<init>"), (0, u "()V"), (0, .class_ 8), (0, u "com/example/vesta/vesta/protocol/Ticket"), (0, .long 36028797018963967), (1, .methodref 12 13), (0, .class_ 14), (0, .nameAndType 15 16), (0, u "java/lang/Math"), (0, u "max"), (0, u "(JJ)J"), (0, .integer 2147483647), (0, .methodref 7 19), (0, .nameAndType 5 20), (0, u "(JI)V"), (0, .methodref 7 22), (0, .nameAndType 23 24), (0, u "compareTo"), (0, u "(Lcom/example/vesta/vesta/protocol/Ticket;)I"), (0, .methodref 26 27), (0, .class_ 28), (0, .nameAndType 29 30), (0, u "com/example/vesta/vesta/protocol/TicketCompareToPinLaw"), (0, u "sign"), (0, u "(I)I"), (2, u "law"), (0, u "(JJIII)Z")] 3

def k1m0 : Method := { name := "<init>", desc := "()V", sig := { parameters := [], returnType := none }, accessFlags := 1, code := none }
def k1c1 : Code := { maxStack := 6, maxLocals := 16, code := code, exceptionTable := #[], attributes := #[] }
def k1m1 : Method := { name := "law", desc := "(JJIII)Z", sig := { parameters := [.long, .long, .int, .int, .int], returnType := some .boolean }, accessFlags := 9, code := some k1c1 }
def k1c2 : Code := { maxStack := 1, maxLocals := 1, code := method_3_code, exceptionTable := #[], attributes := #[] }
def k1m2 : Method := { name := "sign", desc := "(I)I", sig := { parameters := [.int], returnType := some .int }, accessFlags := 10, code := some k1c2 }
/-- com/example/vesta/vesta/protocol/TicketCompareToPinLaw -/
def k1 : Class := { plain "com/example/vesta/vesta/protocol/TicketCompareToPinLaw" (some 0) with
  accessFlags := 49
  interfaces := #[]
  cf := some (fileOf pool1 26 #[] #[{ accessFlags := 1, nameIndex := 5, descriptorIndex := 6, attributes := #[] }, { accessFlags := 9, nameIndex := 33, descriptorIndex := 34, attributes := #[] }, { accessFlags := 10, nameIndex := 29, descriptorIndex := 30, attributes := #[] }] 49 2 #[] #[])
  fields := #[]
  methods := #[k1m0, k1m1, k1m2]
  instanceTypes := #[]
  staticTypes := #[]
  resolved := Array.replicate 38 none
  statics := none }

def pool2 : Array CpInfo := pool [(1, .class_ 2), (0, u "java/lang/Math"), (1, .class_ 6), (1, u "java/lang/Object"), (0, u "<init>"), (0, u "()V"), (89, .class_ 100), (1, u "java/lang/Math$RandomNumberGeneratorHolder"), (20, u "(JJ)J"), (50, u "negativeZeroFloatBits"), (0, u "J"), (2, u "negativeZeroDoubleBits"), (21, u "max"), (46, u "$assertionsDisabled"), (0, u "Z"), (91, u "twoToTheDoubleScaleDown"), (0, u "D"), (4, u "twoToTheDoubleScaleUp"), (9, u "E"), (3, u "PI"), (2, u "TAU"), (2, u "DEGREES_TO_RADIANS"), (0, u "RADIANS_TO_DEGREES")] 94

def k2m0 : Method := { name := "<init>", desc := "()V", sig := { parameters := [], returnType := none }, accessFlags := 2, code := none }
def k2c1 : Code := { maxStack := 4, maxLocals := 4, code := jdk_29_method_66_code, exceptionTable := #[], attributes := #[] }
def k2m1 : Method := { name := "max", desc := "(JJ)J", sig := { parameters := [.long, .long], returnType := some .long }, accessFlags := 9, code := some k2c1 }
/-- java/lang/Math -/
def k2 : Class := { plain "java/lang/Math" (some 0) with
  accessFlags := 49
  interfaces := #[]
  cf := some (fileOf pool2 1 #[.nestMembers #[98]] #[{ accessFlags := 2, nameIndex := 7, descriptorIndex := 8, attributes := #[] }, { accessFlags := 9, nameIndex := 198, descriptorIndex := 121, attributes := #[] }] 49 4 #[] #[{ accessFlags := 25, nameIndex := 354, descriptorIndex := 339, attributes := #[] }, { accessFlags := 25, nameIndex := 358, descriptorIndex := 339, attributes := #[] }, { accessFlags := 25, nameIndex := 361, descriptorIndex := 339, attributes := #[] }, { accessFlags := 26, nameIndex := 364, descriptorIndex := 339, attributes := #[] }, { accessFlags := 26, nameIndex := 365, descriptorIndex := 339, attributes := #[] }, { accessFlags := 26, nameIndex := 172, descriptorIndex := 173, attributes := #[] }, { accessFlags := 26, nameIndex := 176, descriptorIndex := 173, attributes := #[] }, { accessFlags := 8, nameIndex := 344, descriptorIndex := 339, attributes := #[] }, { accessFlags := 8, nameIndex := 338, descriptorIndex := 339, attributes := #[] }, { accessFlags := 4120, nameIndex := 245, descriptorIndex := 246, attributes := #[] }])
  fields := #[{ name := "E", type := .double, accessFlags := 25, slot := 0, constantValue := 0 }, { name := "PI", type := .double, accessFlags := 25, slot := 1, constantValue := 0 }, { name := "TAU", type := .double, accessFlags := 25, slot := 2, constantValue := 0 }, { name := "DEGREES_TO_RADIANS", type := .double, accessFlags := 26, slot := 3, constantValue := 0 }, { name := "RADIANS_TO_DEGREES", type := .double, accessFlags := 26, slot := 4, constantValue := 0 }, { name := "negativeZeroFloatBits", type := .long, accessFlags := 26, slot := 5, constantValue := 0 }, { name := "negativeZeroDoubleBits", type := .long, accessFlags := 26, slot := 6, constantValue := 0 }, { name := "twoToTheDoubleScaleUp", type := .double, accessFlags := 8, slot := 7, constantValue := 0 }, { name := "twoToTheDoubleScaleDown", type := .double, accessFlags := 8, slot := 8, constantValue := 0 }, { name := "$assertionsDisabled", type := .boolean, accessFlags := 4120, slot := 9, constantValue := 0 }]
  methods := #[k2m0, k2m1]
  instanceTypes := #[]
  staticTypes := #[.double, .double, .double, .double, .double, .long, .long, .double, .double, .boolean]
  resolved := Array.replicate 460 none
  statics := none }

def pool3 : Array CpInfo := pool [(1, .methodref 2 3), (0, .class_ 4), (0, .nameAndType 5 6), (0, u "java/lang/Object"), (0, u "<init>"), (0, u "()V"), (0, .class_ 8), (0, u "java/lang/Record")] 13

def k3c0 : Code := { maxStack := 1, maxLocals := 1, code := jdk_30_method_1_code, exceptionTable := #[], attributes := #[] }
def k3m0 : Method := { name := "<init>", desc := "()V", sig := { parameters := [], returnType := none }, accessFlags := 4, code := some k3c0 }
/-- java/lang/Record -/
def k3 : Class := { plain "java/lang/Record" (some 0) with
  accessFlags := 1057
  interfaces := #[]
  cf := some (fileOf pool3 7 #[] #[{ accessFlags := 4, nameIndex := 5, descriptorIndex := 6, attributes := #[] }] 1057 2 #[] #[])
  fields := #[]
  methods := #[k3m0]
  instanceTypes := #[]
  staticTypes := #[]
  resolved := Array.replicate 22 none
  statics := none }

def pool4 : Array CpInfo := pool [(1, .class_ 2), (0, u "java/lang/Comparable"), (0, .class_ 4), (0, u "java/lang/Object")] 7

/-- java/lang/Comparable -/
def k4 : Class := { plain "java/lang/Comparable" (some 0) with
  accessFlags := 1537
  interfaces := #[]
  cf := some (fileOf pool4 1 #[] #[] 1537 3 #[] #[])
  fields := #[]
  methods := #[]
  instanceTypes := #[]
  staticTypes := #[]
  resolved := Array.replicate 12 none
  statics := none }

def pool5 : Array CpInfo := pool [(1, .class_ 2), (0, u "com/example/vesta/vesta/protocol/Ticket"), (0, .class_ 4), (0, u "java/lang/Long"), (0, .methodref 6 7), (0, .class_ 8), (0, .nameAndType 9 10), (0, u "java/lang/Record"), (0, u "<init>"), (0, u "()V"), (0, .long 36028797018963967), (10, .methodref 1 23), (0, .nameAndType 24 25), (0, u "checkMemberId"), (0, u "(I)I"), (0, .fieldref 1 27), (0, .nameAndType 28 29), (0, u "number"), (0, u "J"), (0, .fieldref 1 31), (0, .nameAndType 32 33), (0, u "memberId"), (0, u "I"), (7, u "(JI)V"), (0, .methodref 3 43), (0, .nameAndType 44 45), (0, u "compare"), (0, u "(JJ)I"), (0, .methodref 47 48), (0, .class_ 49), (0, .nameAndType 44 50), (0, u "java/lang/Integer"), (0, u "(II)I"), (2, u "compareTo"), (0, u "(Lcom/example/vesta/vesta/protocol/Ticket;)I"), (11, .class_ 67), (0, u "java/lang/Comparable"), (0, u "MIN_MEMBER_ID"), (2, u "MAX_MEMBER_ID"), (1, u "TOKEN_RADIX"), (1, u "MAX_NUMBER")] 45

def k5c0 : Code := { maxStack := 4, maxLocals := 4, code := prog_19_method_1_code, exceptionTable := #[], attributes := #[] }
def k5m0 : Method := { name := "<init>", desc := "(JI)V", sig := { parameters := [.long, .int], returnType := none }, accessFlags := 1, code := some k5c0 }
def k5c1 : Code := { maxStack := 3, maxLocals := 1, code := prog_19_method_2_code, exceptionTable := #[], attributes := #[] }
def k5m1 : Method := { name := "checkMemberId", desc := "(I)I", sig := { parameters := [.int], returnType := some .int }, accessFlags := 9, code := some k5c1 }
def k5c2 : Code := { maxStack := 4, maxLocals := 3, code := prog_19_method_5_code, exceptionTable := #[], attributes := #[] }
def k5m2 : Method := { name := "compareTo", desc := "(Lcom/example/vesta/vesta/protocol/Ticket;)I", sig := { parameters := [(.object "com/example/vesta/vesta/protocol/Ticket")], returnType := some .int }, accessFlags := 1, code := some k5c2 }
/-- com/example/vesta/vesta/protocol/Ticket -/
def k5 : Class := { plain "com/example/vesta/vesta/protocol/Ticket" (some 3) with
  accessFlags := 49
  interfaces := #[4]
  cf := some (fileOf pool5 1 #[] #[{ accessFlags := 1, nameIndex := 9, descriptorIndex := 41, attributes := #[] }, { accessFlags := 9, nameIndex := 24, descriptorIndex := 25, attributes := #[] }, { accessFlags := 1, nameIndex := 53, descriptorIndex := 54, attributes := #[] }] 49 6 #[66] #[{ accessFlags := 18, nameIndex := 28, descriptorIndex := 29, attributes := #[] }, { accessFlags := 18, nameIndex := 32, descriptorIndex := 33, attributes := #[] }, { accessFlags := 25, nameIndex := 68, descriptorIndex := 33, attributes := #[] }, { accessFlags := 25, nameIndex := 71, descriptorIndex := 33, attributes := #[] }, { accessFlags := 26, nameIndex := 73, descriptorIndex := 33, attributes := #[] }, { accessFlags := 25, nameIndex := 75, descriptorIndex := 29, attributes := #[] }])
  fields := #[{ name := "number", type := .long, accessFlags := 18, slot := 0, constantValue := 0 }, { name := "memberId", type := .int, accessFlags := 18, slot := 1, constantValue := 0 }, { name := "MIN_MEMBER_ID", type := .int, accessFlags := 25, slot := 0, constantValue := 0 }, { name := "MAX_MEMBER_ID", type := .int, accessFlags := 25, slot := 1, constantValue := 0 }, { name := "TOKEN_RADIX", type := .int, accessFlags := 26, slot := 2, constantValue := 0 }, { name := "MAX_NUMBER", type := .long, accessFlags := 25, slot := 3, constantValue := 0 }]
  methods := #[k5m0, k5m1, k5m2]
  instanceTypes := #[.long, .int]
  staticTypes := #[.int, .int, .int, .long]
  resolved := Array.replicate 121 none
  statics := none }

def pool6 : Array CpInfo := pool [(1, .class_ 2), (0, u "java/io/Serializable"), (0, .class_ 4), (0, u "java/lang/Object")] 2

/-- java/io/Serializable -/
def k6 : Class := { plain "java/io/Serializable" (some 0) with
  accessFlags := 1537
  interfaces := #[]
  cf := some (fileOf pool6 1 #[] #[] 1537 3 #[] #[])
  fields := #[]
  methods := #[]
  instanceTypes := #[]
  staticTypes := #[]
  resolved := Array.replicate 7 none
  statics := none }

def pool7 : Array CpInfo := pool [(2, .class_ 4), (1, u "java/lang/Object"), (0, u "<init>"), (0, u "()V"), (1, .class_ 10), (1, u "java/lang/Number"), (2, .class_ 14), (0, u "java/io/Serializable"), (0, u "serialVersionUID"), (0, u "J")] 20

def k7m0 : Method := { name := "<init>", desc := "()V", sig := { parameters := [], returnType := none }, accessFlags := 1, code := none }
/-- java/lang/Number -/
def k7 : Class := { plain "java/lang/Number" (some 0) with
  accessFlags := 1057
  interfaces := #[6]
  cf := some (fileOf pool7 8 #[] #[{ accessFlags := 1, nameIndex := 5, descriptorIndex := 6, attributes := #[] }] 1057 2 #[13] #[{ accessFlags := 26, nameIndex := 15, descriptorIndex := 16, attributes := #[] }])
  fields := #[{ name := "serialVersionUID", type := .long, accessFlags := 26, slot := 0, constantValue := 0 }]
  methods := #[k7m0]
  instanceTypes := #[]
  staticTypes := #[.long]
  resolved := Array.replicate 37 none
  statics := none }

def pool8 : Array CpInfo := pool [(1, .class_ 2), (0, u "java/lang/constant/Constable"), (0, .class_ 4), (0, u "java/lang/Object")] 6

/-- java/lang/constant/Constable -/
def k8 : Class := { plain "java/lang/constant/Constable" (some 0) with
  accessFlags := 1537
  interfaces := #[]
  cf := some (fileOf pool8 1 #[] #[] 1537 3 #[] #[])
  fields := #[]
  methods := #[]
  instanceTypes := #[]
  staticTypes := #[]
  resolved := Array.replicate 11 none
  statics := none }

def pool9 : Array CpInfo := pool [(1, .class_ 2), (0, u "java/lang/constant/ConstantDesc"), (0, .class_ 4), (0, u "java/lang/Object")] 32

/-- java/lang/constant/ConstantDesc -/
def k9 : Class := { plain "java/lang/constant/ConstantDesc" (some 0) with
  accessFlags := 1537
  interfaces := #[]
  cf := some (fileOf pool9 1 #[] #[] 1537 3 #[] #[])
  fields := #[]
  methods := #[]
  instanceTypes := #[]
  staticTypes := #[]
  resolved := Array.replicate 37 none
  statics := none }

def pool10 : Array CpInfo := pool [(1, .class_ 2), (0, u "java/lang/Long"), (232, .class_ 237), (1, u "java/lang/Long$LongCache"), (33, .class_ 272), (0, u "java/lang/Number"), (2, u "value"), (0, u "J"), (27, u "compare"), (0, u "(JJ)I"), (55, u "TYPE"), (0, u "Ljava/lang/Class;"), (0, .class_ 364), (0, u "java/lang/Comparable"), (0, .class_ 366), (0, u "java/lang/constant/Constable"), (0, .class_ 368), (0, u "java/lang/constant/ConstantDesc"), (0, u "MIN_VALUE"), (1, u "MAX_VALUE"), (4, u "SIZE"), (0, u "I"), (1, u "BYTES"), (1, u "serialVersionUID")] 142

def k10c0 : Code := { maxStack := 4, maxLocals := 4, code := jdk_35_method_42_code, exceptionTable := #[], attributes := #[] }
def k10m0 : Method := { name := "compare", desc := "(JJ)I", sig := { parameters := [.long, .long], returnType := some .int }, accessFlags := 9, code := some k10c0 }
/-- java/lang/Long -/
def k10 : Class := { plain "java/lang/Long" (some 7) with
  accessFlags := 49
  interfaces := #[4, 8, 9]
  cf := some (fileOf pool10 1 #[.nestMembers #[235]] #[{ accessFlags := 9, nameIndex := 304, descriptorIndex := 305, attributes := #[] }] 49 271 #[363, 365, 367] #[{ accessFlags := 25, nameIndex := 369, descriptorIndex := 276, attributes := #[] }, { accessFlags := 25, nameIndex := 371, descriptorIndex := 276, attributes := #[] }, { accessFlags := 25, nameIndex := 361, descriptorIndex := 362, attributes := #[] }, { accessFlags := 18, nameIndex := 275, descriptorIndex := 276, attributes := #[] }, { accessFlags := 25, nameIndex := 376, descriptorIndex := 377, attributes := #[] }, { accessFlags := 25, nameIndex := 379, descriptorIndex := 377, attributes := #[] }, { accessFlags := 26, nameIndex := 381, descriptorIndex := 276, attributes := #[] }])
  fields := #[{ name := "MIN_VALUE", type := .long, accessFlags := 25, slot := 0, constantValue := 0 }, { name := "MAX_VALUE", type := .long, accessFlags := 25, slot := 1, constantValue := 0 }, { name := "TYPE", type := (.object "java/lang/Class"), accessFlags := 25, slot := 2, constantValue := 0 }, { name := "value", type := .long, accessFlags := 18, slot := 0, constantValue := 0 }, { name := "SIZE", type := .int, accessFlags := 25, slot := 3, constantValue := 0 }, { name := "BYTES", type := .int, accessFlags := 25, slot := 4, constantValue := 0 }, { name := "serialVersionUID", type := .long, accessFlags := 26, slot := 5, constantValue := 0 }]
  methods := #[k10m0]
  instanceTypes := #[.long]
  staticTypes := #[.long, .long, (.object "java/lang/Class"), .int, .int, .long]
  resolved := Array.replicate 524 none
  statics := none }

def pool11 : Array CpInfo := pool [(1, .class_ 2), (0, u "java/lang/Integer"), (16, u "digits"), (0, u "[C"), (39, u "(II)I"), (24, u "DigitOnes"), (0, u "[B"), (2, u "DigitTens"), (99, .class_ 190), (0, u "java/lang/Integer$IntegerCache"), (3, u "I"), (8, .class_ 204), (0, u "java/lang/Number"), (2, u "value"), (53, u "compare"), (40, u "TYPE"), (0, u "Ljava/lang/Class;"), (0, .class_ 305), (0, u "java/lang/Comparable"), (0, .class_ 307), (0, u "java/lang/constant/Constable"), (0, .class_ 309), (0, u "java/lang/constant/ConstantDesc"), (0, u "MIN_VALUE"), (1, u "MAX_VALUE"), (3, u "SIZE"), (1, u "BYTES"), (1, u "serialVersionUID"), (0, u "J")] 131

def k11c0 : Code := { maxStack := 2, maxLocals := 2, code := jdk_33_method_40_code, exceptionTable := #[], attributes := #[] }
def k11m0 : Method := { name := "compare", desc := "(II)I", sig := { parameters := [.int, .int], returnType := some .int }, accessFlags := 9, code := some k11c0 }
/-- java/lang/Integer -/
def k11 : Class := { plain "java/lang/Integer" (some 7) with
  accessFlags := 49
  interfaces := #[4, 8, 9]
  cf := some (fileOf pool11 1 #[.nestMembers #[189]] #[{ accessFlags := 9, nameIndex := 261, descriptorIndex := 60, attributes := #[] }] 49 203 #[304, 306, 308] #[{ accessFlags := 25, nameIndex := 310, descriptorIndex := 194, attributes := #[] }, { accessFlags := 25, nameIndex := 312, descriptorIndex := 194, attributes := #[] }, { accessFlags := 25, nameIndex := 302, descriptorIndex := 303, attributes := #[] }, { accessFlags := 24, nameIndex := 19, descriptorIndex := 20, attributes := #[] }, { accessFlags := 24, nameIndex := 89, descriptorIndex := 86, attributes := #[] }, { accessFlags := 24, nameIndex := 85, descriptorIndex := 86, attributes := #[] }, { accessFlags := 18, nameIndex := 207, descriptorIndex := 194, attributes := #[] }, { accessFlags := 25, nameIndex := 316, descriptorIndex := 194, attributes := #[] }, { accessFlags := 25, nameIndex := 318, descriptorIndex := 194, attributes := #[] }, { accessFlags := 26, nameIndex := 320, descriptorIndex := 321, attributes := #[] }])
  fields := #[{ name := "MIN_VALUE", type := .int, accessFlags := 25, slot := 0, constantValue := 0 }, { name := "MAX_VALUE", type := .int, accessFlags := 25, slot := 1, constantValue := 0 }, { name := "TYPE", type := (.object "java/lang/Class"), accessFlags := 25, slot := 2, constantValue := 0 }, { name := "digits", type := (.array .char), accessFlags := 24, slot := 3, constantValue := 0 }, { name := "DigitTens", type := (.array .byte), accessFlags := 24, slot := 4, constantValue := 0 }, { name := "DigitOnes", type := (.array .byte), accessFlags := 24, slot := 5, constantValue := 0 }, { name := "value", type := .int, accessFlags := 18, slot := 0, constantValue := 0 }, { name := "SIZE", type := .int, accessFlags := 25, slot := 6, constantValue := 0 }, { name := "BYTES", type := .int, accessFlags := 25, slot := 7, constantValue := 0 }, { name := "serialVersionUID", type := .long, accessFlags := 26, slot := 8, constantValue := 0 }]
  methods := #[k11m0]
  instanceTypes := #[.int]
  staticTypes := #[.int, .int, (.object "java/lang/Class"), (.array .char), (.array .byte), (.array .byte), .int, .int, .long]
  resolved := Array.replicate 453 none
  statics := none }

def pool12 : Array CpInfo := pool [(1, u "java/lang/Cloneable"), (0, .class_ 1), (0, u "java/lang/Object"), (0, .class_ 3)] 3

/-- java/lang/Cloneable -/
def k12 : Class := { plain "java/lang/Cloneable" (some 0) with
  accessFlags := 1537
  interfaces := #[]
  cf := some (fileOf pool12 2 #[] #[] 1537 4 #[] #[])
  fields := #[]
  methods := #[]
  instanceTypes := #[]
  staticTypes := #[]
  resolved := Array.replicate 8 none
  statics := none }

/-- the primitive byte -/
def k13 : Class := { plain "byte" none with kind := .primitive 'B', accessFlags := 0x411 }
/-- [B -/
def k14 : Class := { plain "[B" (some 0) with kind := .array 13 .byte, interfaces := #[12, 6], accessFlags := 1041 }

/-- the primitive int -/
def k15 : Class := { plain "int" none with kind := .primitive 'I', accessFlags := 0x411 }
/-- [I -/
def k16 : Class := { plain "[I" (some 0) with kind := .array 15 .int, interfaces := #[12, 6], accessFlags := 1041 }

def heap : Heap := #[]
def classes : Array Class := #[k0, k1, k2, k3, k4, k5, k6, k7, k8, k9, k10, k11, k12, k13, k14, k15, k16]
def interned : List (Array UInt16 × Addr) := []
def slotsUsed : Nat := 0
def theMethod : MethodId := ⟨1, 1⟩
def args0 : Array Value := #[.long 5, .long 5, .int 5, .int 5, .int 5]
def aboutOver (below : List Frame) : State where
  vm := { classes := classes, interned := interned.toArray }
  heap := heap
  slotsUsed := slotsUsed
  threads := #[{ frames := .invoking theMethod args0 :: below }]
def below0 : List Frame := [.native { method := ⟨0, 0⟩, args := #[] }]
def about1 : State := aboutOver below0
def p0 : Program := .bare "" "" ""
def e0 : Env := launch0.env 0 0 0
theorem w_frames : about1.frames = Frame.invoking theMethod args0 :: below0 := rfl
set_option maxRecDepth 65536 in
theorem w_args : argsFit about1.vm theMethod args0 = true := by decide +kernel
set_option maxRecDepth 65536 in
theorem w_heap : heapFits about1 = true := by decide +kernel
set_option maxRecDepth 65536 in
theorem w_runnable : about1.curStatus? = some .runnable := by decide +kernel
set_option maxRecDepth 65536 in
theorem w_alone : about1.alone = true := by decide +kernel
set_option maxRecDepth 65536 in
theorem w_named : about1.methodNamed? x = some theMethod := by decide +kernel
set_option maxRecDepth 65536 in
theorem w_hears : about1.hears theMethod below0 = true := by decide +kernel
set_option maxRecDepth 65536 in
theorem w_ripe : about1.ripe theMethod args0 below0 = true := by decide +kernel
theorem w_running : about1.status = .running := rfl
set_option maxRecDepth 65536 in
theorem w_room : about1.hasRoom e0.platform room_1 = true :=
  launch0.hasRoom_least _ room_1 (by decide +kernel) (by decide +kernel) (by decide +kernel) (by decide +kernel) (by decide +kernel) (by decide +kernel)
theorem allAtoms_all (ts : List Jvm.Cond) (a : Array Jvm.Value) (st : Jvm.State) : (allAtoms ts).before a st = ts.all (fun c => c.before a st) := by
  induction ts with
  | nil => rfl
  | cons c t ih =>
    show (Jvm.Cond.and c (allAtoms t)).before a st = _
    rw [Jvm.Cond.before_and, ih, List.all_cons]
def words1 : List Jvm.Cond := Jvm.Cond.code x code maxLocals ret :: tables_1
/-- a 'code' word, met by the world's own term for the bytes: nothing is compared byte by byte -/
theorem code_word {y : MethodName} {bytes : ByteArray} {mx : Nat} {rt : Option FieldType} {a : Array Value} {s : State} {m : MethodId} {meth : Method} {c : Code} (h1 : s.methodNamed? y = some m) (h2 : s.vm.method? m = some meth) (h3 : meth.code = some c) (h4 : c.code = bytes)
    (h5 : (c.maxLocals == mx && c.exceptionTable.isEmpty && decide (c.maxStack ≤ mostOperands) && decide (meth.sig.returnType = rt) && !meth.locks && decide (parseMethodDescriptor y.desc = some meth.sig)) = true) : (Jvm.Cond.code y bytes mx rt).before a s = true := by
  simp only [Bool.and_eq_true, beq_iff_eq, Bool.not_eq_true', decide_eq_true_eq] at h5
  obtain ⟨⟨⟨⟨⟨g1, g2⟩, g3⟩, g4⟩, g5⟩, g6⟩ := h5
  simp [Cond.before, Cond.holds, Cond.value, h1, h2, h3, h4, g1, g2, g3, g4, g5, g6]
def isCode : Jvm.Cond → Bool
  | .code _ _ _ _ => true
  | _ => false
theorem all_split {L : List Jvm.Cond} {P : Jvm.Cond → Bool} (h1 : L.all (fun c => isCode c || P c) = true) (h2 : ∀ c ∈ L.filter isCode, P c = true) : L.all P = true := by
  refine List.all_eq_true.mpr fun c hc => ?_
  have h := List.all_eq_true.mp h1 c hc
  rcases Bool.eq_false_or_eq_true (isCode c) with hi | hi
  · exact h2 c (List.mem_filter.mpr ⟨hc, hi⟩)
  · simpa [hi] using h
set_option maxRecDepth 65536 in
theorem w_c0 : (Jvm.Cond.code x code maxLocals ret).before args0 about1 = true := code_word (m := ⟨1, 1⟩) (meth := k1m1) (c := k1c1) (by decide +kernel) rfl rfl rfl (by decide +kernel)
set_option maxRecDepth 65536 in
theorem w_c1 : (Jvm.Cond.code ({ cls := "java/lang/Math", name := "max", desc := "(JJ)J" } : Jvm.MethodName) jdk_29_method_66_code (4 : Nat) (Option.some Jvm.ClassFile.FieldType.long)).before args0 about1 = true := code_word (m := ⟨2, 1⟩) (meth := k2m1) (c := k2c1) (by decide +kernel) rfl rfl rfl (by decide +kernel)
set_option maxRecDepth 65536 in
theorem w_c2 : (Jvm.Cond.code ({ cls := "com/example/vesta/vesta/protocol/Ticket", name := "<init>", desc := "(JI)V" } : Jvm.MethodName) prog_19_method_1_code (4 : Nat) (Option.none : Option Jvm.ClassFile.FieldType)).before args0 about1 = true := code_word (m := ⟨5, 0⟩) (meth := k5m0) (c := k5c0) (by decide +kernel) rfl rfl rfl (by decide +kernel)
set_option maxRecDepth 65536 in
theorem w_c3 : (Jvm.Cond.code ({ cls := "java/lang/Record", name := "<init>", desc := "()V" } : Jvm.MethodName) jdk_30_method_1_code (1 : Nat) (Option.none : Option Jvm.ClassFile.FieldType)).before args0 about1 = true := code_word (m := ⟨3, 0⟩) (meth := k3m0) (c := k3c0) (by decide +kernel) rfl rfl rfl (by decide +kernel)
set_option maxRecDepth 65536 in
theorem w_c4 : (Jvm.Cond.code ({ cls := "java/lang/Object", name := "<init>", desc := "()V" } : Jvm.MethodName) object_method_1_code (1 : Nat) (Option.none : Option Jvm.ClassFile.FieldType)).before args0 about1 = true := code_word (m := ⟨0, 0⟩) (meth := k0m0) (c := k0c0) (by decide +kernel) rfl rfl rfl (by decide +kernel)
set_option maxRecDepth 65536 in
theorem w_c5 : (Jvm.Cond.code ({ cls := "com/example/vesta/vesta/protocol/Ticket", name := "checkMemberId", desc := "(I)I" } : Jvm.MethodName) prog_19_method_2_code (1 : Nat) (Option.some Jvm.ClassFile.FieldType.int)).before args0 about1 = true := code_word (m := ⟨5, 1⟩) (meth := k5m1) (c := k5c1) (by decide +kernel) rfl rfl rfl (by decide +kernel)
set_option maxRecDepth 65536 in
theorem w_c6 : (Jvm.Cond.code ({ cls := "com/example/vesta/vesta/protocol/Ticket", name := "compareTo", desc := "(Lcom/example/vesta/vesta/protocol/Ticket;)I" } : Jvm.MethodName) prog_19_method_5_code (3 : Nat) (Option.some Jvm.ClassFile.FieldType.int)).before args0 about1 = true := code_word (m := ⟨5, 2⟩) (meth := k5m2) (c := k5c2) (by decide +kernel) rfl rfl rfl (by decide +kernel)
set_option maxRecDepth 65536 in
theorem w_c7 : (Jvm.Cond.code ({ cls := "java/lang/Long", name := "compare", desc := "(JJ)I" } : Jvm.MethodName) jdk_35_method_42_code (4 : Nat) (Option.some Jvm.ClassFile.FieldType.int)).before args0 about1 = true := code_word (m := ⟨10, 0⟩) (meth := k10m0) (c := k10c0) (by decide +kernel) rfl rfl rfl (by decide +kernel)
set_option maxRecDepth 65536 in
theorem w_c8 : (Jvm.Cond.code ({ cls := "com/example/vesta/vesta/protocol/TicketCompareToPinLaw", name := "sign", desc := "(I)I" } : Jvm.MethodName) method_3_code (1 : Nat) (Option.some Jvm.ClassFile.FieldType.int)).before args0 about1 = true := code_word (m := ⟨1, 2⟩) (meth := k1m2) (c := k1c2) (by decide +kernel) rfl rfl rfl (by decide +kernel)
set_option maxRecDepth 65536 in
theorem w_c9 : (Jvm.Cond.code ({ cls := "java/lang/Integer", name := "compare", desc := "(II)I" } : Jvm.MethodName) jdk_33_method_40_code (2 : Nat) (Option.some Jvm.ClassFile.FieldType.int)).before args0 about1 = true := code_word (m := ⟨11, 0⟩) (meth := k11m0) (c := k11c0) (by decide +kernel) rfl rfl rfl (by decide +kernel)
def codes1 : List Jvm.Cond := [Jvm.Cond.code x code maxLocals ret, Jvm.Cond.code ({ cls := "java/lang/Math", name := "max", desc := "(JJ)J" } : Jvm.MethodName) jdk_29_method_66_code (4 : Nat) (Option.some Jvm.ClassFile.FieldType.long), Jvm.Cond.code ({ cls := "com/example/vesta/vesta/protocol/Ticket", name := "<init>", desc := "(JI)V" } : Jvm.MethodName) prog_19_method_1_code (4 : Nat) (Option.none : Option Jvm.ClassFile.FieldType), Jvm.Cond.code ({ cls := "java/lang/Record", name := "<init>", desc := "()V" } : Jvm.MethodName) jdk_30_method_1_code (1 : Nat) (Option.none : Option Jvm.ClassFile.FieldType), Jvm.Cond.code ({ cls := "java/lang/Object", name := "<init>", desc := "()V" } : Jvm.MethodName) object_method_1_code (1 : Nat) (Option.none : Option Jvm.ClassFile.FieldType), Jvm.Cond.code ({ cls := "com/example/vesta/vesta/protocol/Ticket", name := "checkMemberId", desc := "(I)I" } : Jvm.MethodName) prog_19_method_2_code (1 : Nat) (Option.some Jvm.ClassFile.FieldType.int), Jvm.Cond.code ({ cls := "com/example/vesta/vesta/protocol/Ticket", name := "compareTo", desc := "(Lcom/example/vesta/vesta/protocol/Ticket;)I" } : Jvm.MethodName) prog_19_method_5_code (3 : Nat) (Option.some Jvm.ClassFile.FieldType.int), Jvm.Cond.code ({ cls := "java/lang/Long", name := "compare", desc := "(JJ)I" } : Jvm.MethodName) jdk_35_method_42_code (4 : Nat) (Option.some Jvm.ClassFile.FieldType.int), Jvm.Cond.code ({ cls := "com/example/vesta/vesta/protocol/TicketCompareToPinLaw", name := "sign", desc := "(I)I" } : Jvm.MethodName) method_3_code (1 : Nat) (Option.some Jvm.ClassFile.FieldType.int), Jvm.Cond.code ({ cls := "java/lang/Integer", name := "compare", desc := "(II)I" } : Jvm.MethodName) jdk_33_method_40_code (2 : Nat) (Option.some Jvm.ClassFile.FieldType.int)]
set_option maxRecDepth 65536 in
theorem codes_eq : words1.filter isCode = codes1 := rfl
theorem w_codes : ∀ c ∈ words1.filter isCode, c.before args0 about1 = true := by
  rw [codes_eq]
  intro c hc
  simp only [codes1, List.mem_cons, List.not_mem_nil, or_false] at hc
  rcases hc with rfl | rfl | rfl | rfl | rfl | rfl | rfl | rfl | rfl | rfl
  · exact w_c0
  · exact w_c1
  · exact w_c2
  · exact w_c3
  · exact w_c4
  · exact w_c5
  · exact w_c6
  · exact w_c7
  · exact w_c8
  · exact w_c9
set_option maxRecDepth 65536 in
theorem w_t1 : (words1.take 24).all (fun c => isCode c || c.before args0 about1) = true := by decide +kernel
set_option maxRecDepth 65536 in
theorem w_t2 : (words1.drop 24).all (fun c => isCode c || c.before args0 about1) = true := by decide +kernel
theorem w_tables : (allAtoms (Jvm.Cond.code x code maxLocals ret :: tables_1)).before args0 about1 = true := by
  rw [allAtoms_all]
  show words1.all (fun c => c.before args0 about1) = true
  refine all_split ?_ w_codes
  rw [← List.take_append_drop 24 words1, List.all_append, w_t1, w_t2]
  rfl
set_option maxRecDepth 65536 in
theorem w_case : (Jvm.Cond.and given_1 narrow_1).before args0 about1 = true := by decide +kernel
theorem w_applies : (headSpec (Jvm.Cond.code x code maxLocals ret :: tables_1) room_1).applies x e0.platform about1 = true :=
  (Spec.applies_iff w_frames).mpr ⟨w_running, w_runnable, w_alone, w_named, w_hears, w_ripe, w_room, w_tables⟩
theorem atStart : AtStart classFile x code maxLocals ret World_1 tables_1 room_1 Calls_1 rest_1 Pre_1 launch0 p0 e0 about1 theMethod args0 below0 :=
  ⟨lists_1, trivial, launch0.admits_env _ _ _, launch0.least_env, fairChoices_fair.cas, fairChoices_fair.clock, w_frames, w_args, w_heap, w_applies, trivial, trivial, w_case⟩
end start1
theorem witness_1 : WitnessClaimed_1 := ⟨start1.p0, start1.e0, start1.about1, start1.theMethod, start1.args0, start1.below0, start1.atStart⟩
end Jvm.Pilot.@@N@@
