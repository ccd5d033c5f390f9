import JvmDerived
import JvmDerived.Pilot.@@N@@Statement
import JvmDerived.Pilot.@@N@@Code
set_option linter.unusedVariables false
set_option linter.unusedSimpArgs false
namespace Jvm.Pilot.@@N@@
open Jvm Jvm.ClassFile Sem Op Lib Jvm.Free Jvm.Stand Jvm.LawKit Jvm.RoadKit Bundle Jvm.Pilot.@@N@@.Jvm.D
section Own
variable {p : Program} {l : Launch} {e : Env} {R : Room} {s : State} {m : MethodId} {args : Array Value} {below : List Frame} {meth : Method} {c : Code} {T : State} {locs : List Loc} {cells slots : Nat} {Z : State} {h h' : Heap} {a b : Addr}
/-- from A the run comes to its return, and Q holds there -/
def own_Goes (p : Program) (e : Env) (below : List Frame) (s : State) (Q : Option Value → Heap → List Loc → Prop) (kc ks : Nat) (A : State) : Prop :=
  ∃ s₂ o, Steps p.tables e below A s₂ ∧ s₂.status = .running ∧ Ended s₂ below o ∧ ∃ v L, o = .returned v ∧ Q v s₂.heap L ∧ FrameEnd s o s₂ L kc ks
theorem own_go {Q : Option Value → Heap → List Loc → Prop} {kc ks : Nat} {A B : State} (st : ∀ t, Steps p.tables e below B t → Steps p.tables e below A t) (k : own_Goes p e below s Q kc ks B) : own_Goes p e below s Q kc ks A := by
  obtain ⟨s2, o, h1, h2⟩ := k
  exact ⟨s2, o, st _ h1, h2⟩
theorem own_w {a0 : Array Value} {Z : State} (hw : ∀ d ∈ tables_1, d.before a0 Z = true) (i : Nat) {d : Jvm.Cond} (h : tables_1[i]? = some d) : d.before a0 Z = true := hw d (List.mem_of_getElem? h)
theorem own_selP {y y' : MethodName} (hs : (Cond.selects y'.cls y' y').before args s = true) (he : y.cls = y'.cls) (hpriv : s.PrivateAt y) (hinst : (Cond.instanceMethod y).before args s = true) (hy : y.cls ≠ "java/lang/invoke/MethodHandle" ∧ y.cls ≠ "java/lang/invoke/VarHandle") : (Cond.selects y.cls y y).before args s = true := by
  obtain ⟨c2, r2, m2, q1, q2, q3, q4, kP, hkP, hkPi⟩ := Cond.selects_spec hs
  exact selects_self_of_private (by rw [he]; exact findClass_of_methodNamed q3) hkP hkPi hpriv hinst hy
theorem own_st {tb : Tables} {A B t : State} (h1 : Steps tb e below A B) (k : Steps tb e below B t) : Steps tb e below A t := h1.trans k
theorem own_out {Q : Option Value → Heap → List Loc → Prop} {kc ks : Nat} {A : State} (X : Stand p l e R s m args below meth c T locs cells slots) {v : Option Value} (hv : meth.sig.returnType = none → v = none) (hlk : meth.locks = false)
    (st : ∀ fs, (∀ (f : JFrame) (acts : List Action), f.method = m → f.locked = none → f.entered = [] → (doReturn e (T.setTop f) acts v).1 = T.setFrames fs) → Steps p.tables e below A (T.setFrames fs))
    (hq : Q v T.heap locs) (hc : cells ≤ kc) (hs : slots ≤ ks) : own_Goes p e below s Q kc ks A := by
  obtain ⟨fs, hr, hrun, hended, hW, hsame⟩ := X.leave hv hlk
  exact ⟨_, _, st fs hr, hrun, hended, _, _, rfl, hq, ⟨_, rfl⟩, hW, hsame.mono hc hs⟩
theorem own_irem {tb : Tables} [Ours tb] {T target : State} {g : JFrame} (h : At T m c below) (hx : tb.exec = Jvm.exec) (hg : g.method = m) {x y : Int32} {rest : List Value} (hd : decode c.code g.pc = .ok (.irem, 1)) (hs : g.stack = .int y :: .int x :: rest) (hy : y ≠ 0)
    (hr : Steps tb e below (T.setTop { g with pc := g.pc + 1, stack := .int (x % y) :: rest }) target) : Steps tb e below (T.setTop g) target := XS.irem h hx hg hd hs hy (by rw [irem_eq_mod]; exact hr)
theorem own_lrem {tb : Tables} [Ours tb] {T target : State} {g : JFrame} (h : At T m c below) (hx : tb.exec = Jvm.exec) (hg : g.method = m) {x y : Int64} {rest : List Value} (hd : decode c.code g.pc = .ok (.lrem, 1)) (hs : g.stack = .long y :: .long x :: rest) (hy : y ≠ 0)
    (hr : Steps tb e below (T.setTop { g with pc := g.pc + 1, stack := .long (x % y) :: rest }) target) : Steps tb e below (T.setTop g) target := XS.lrem h hx hg hd hs hy (by rw [lrem_mod]; exact hr)
/-- an array of ints (bytes, booleans): its length, and what each place holds -/
def own_IA (Z : State) (h : Heap) (a : Addr) (ty : FieldType) (n : Nat) (f : Nat → Int32) : Prop := ∃ c : Cell, Arr Z h a c ty ∧ c.slots.size = n ∧ ∀ i, i < n → c.slots[i]? = some (.int (f i))
/-- an array of longs -/
def own_LA (Z : State) (h : Heap) (a : Addr) (n : Nat) (f : Nat → Int64) : Prop := ∃ c : Cell, Arr Z h a c .long ∧ c.slots.size = n ∧ ∀ i, i < n → c.slots[i]? = some (.long (f i))
def own_upd {α : Type} (f : Nat → α) (j : Nat) (x : α) (i : Nat) : α := if i = j then x else f i
theorem own_upd_hit {α : Type} (f : Nat → α) (j : Nat) (x : α) : own_upd f j x j = x := if_pos rfl
theorem own_upd_miss {α : Type} (f : Nat → α) {i j : Nat} (x : α) (q : i ≠ j) : own_upd f j x i = f i := if_neg q
section Arrays
variable {ty : FieldType} {n : Nat} {f : Nat → Int32} {fl : Nat → Int64} {sl : Nat} {v : Value} {ws : List Addr}
theorem own_IA.lt (F : own_IA Z h a ty n f) : a < h.size := by obtain ⟨c, A, -⟩ := F; exact A.lt
theorem own_LA.lt (F : own_LA Z h a n fl) : a < h.size := by obtain ⟨c, A, -⟩ := F; exact A.lt
theorem own_IA.ext (F : own_IA Z h a ty n f) (E : Ext h h') : own_IA Z h' a ty n f := by obtain ⟨c, A, r⟩ := F; exact ⟨c, A.ext E, r⟩
theorem own_LA.ext (F : own_LA Z h a n fl) (E : Ext h h') : own_LA Z h' a n fl := by obtain ⟨c, A, r⟩ := F; exact ⟨c, A.ext E, r⟩
theorem own_IA.other (F : own_IA Z h b ty n f) (W : Wr h h' a sl v) (q : b ≠ a) : own_IA Z h' b ty n f := by obtain ⟨c, A, r⟩ := F; exact ⟨c, A.other W q, r⟩
theorem own_LA.other (F : own_LA Z h b n fl) (W : Wr h h' a sl v) (q : b ≠ a) : own_LA Z h' b n fl := by obtain ⟨c, A, r⟩ := F; exact ⟨c, A.other W q, r⟩
theorem own_IA.keep (F : own_IA Z h a ty n f) (K : Keep h h' ws) (q : a ∉ ws) : own_IA Z h' a ty n f := by obtain ⟨c, A, r⟩ := F; exact ⟨c, ⟨K.2.1 a c A.1 q, A.2⟩, r⟩
theorem own_LA.keep (F : own_LA Z h a n fl) (K : Keep h h' ws) (q : a ∉ ws) : own_LA Z h' a n fl := by obtain ⟨c, A, r⟩ := F; exact ⟨c, ⟨K.2.1 a c A.1 q, A.2⟩, r⟩
theorem own_IA.cong {g : Nat → Int32} (F : own_IA Z h a ty n f) (q : ∀ i, i < n → f i = g i) : own_IA Z h a ty n g := by obtain ⟨c, A, r, u⟩ := F; exact ⟨c, A, r, fun i hi => by rw [u i hi, q i hi]⟩
theorem own_LA.cong {g : Nat → Int64} (F : own_LA Z h a n fl) (q : ∀ i, i < n → fl i = g i) : own_LA Z h a n g := by obtain ⟨c, A, r, u⟩ := F; exact ⟨c, A, r, fun i hi => by rw [u i hi, q i hi]⟩
theorem own_in {cl : Cell} {j : Int32} {k : Nat} (S : cl.slots.size = n) (h1 : ¬ j < 0) (hk : j.toNatClampNeg = k) (h2 : k < n) : ¬ (j < 0 ∨ cl.slots.size ≤ j.toNatClampNeg) := by
  rintro (q | q)
  · exact h1 q
  · rw [S, hk] at q; exact absurd h2 (Nat.not_lt.mpr q)
theorem own_set {cl : Cell} {k : Nat} (S : cl.slots.size = n) (h2 : k < n) (v : Value) (i : Nat) : (cl.setSlot k v).slots[i]? = if i = k then some v else cl.slots[i]? := by
  by_cases q : i = k
  · subst q; rw [if_pos rfl]; exact Array.getElem?_setIfInBounds_self_of_lt (by rw [S]; exact h2)
  · rw [if_neg q]; exact Array.getElem?_setIfInBounds_ne (fun z => q z.symm)
theorem own_Inew {k : ClassId} {z : Int32} (A : Arr Z h a (newA k ty z) ty) (hz : z.toNatClampNeg = n) (hd : defaultValue ty = .int 0) : own_IA Z h a ty n (fun _ => 0) := by
  refine ⟨_, A, by rw [sz_new, hz], fun i hi => ?_⟩
  show (Array.replicate z.toNatClampNeg (defaultValue ty))[i]? = _
  rw [hz, hd, Array.getElem?_replicate, if_pos hi]
theorem own_Lnew {k : ClassId} {z : Int32} (A : Arr Z h a (newA k .long z) .long) (hz : z.toNatClampNeg = n) : own_LA Z h a n (fun _ => 0) := by
  refine ⟨_, A, by rw [sz_new, hz], fun i hi => ?_⟩
  show (Array.replicate z.toNatClampNeg (defaultValue .long))[i]? = _
  rw [hz, Array.getElem?_replicate, if_pos hi]; rfl
theorem own_iaload (X : Stand p l e R s m args below meth c T locs cells slots) (hx : p.tables.exec = Jvm.exec) (hZ : Z.Warmed39 s.vm) (eT : T.heap = h) (V : own_IA Z h a .int n f) {j : Int32} {k : Nat} (h1 : ¬ j < 0) (hk : j.toNatClampNeg = k) (h2 : k < n) {pc : Nat} {Ls : Array Slot} {rest : List Value} (hd : decode c.code pc = .ok (.iaload, 1)) (t : State)
    (kk : Steps p.tables e below (T.setTop (mkF m (pc + 1) Ls (.int (f k) :: rest))) t) : Steps p.tables e below (T.setTop (mkF m pc Ls (.int j :: .ref a :: rest))) t := by
  obtain ⟨cl, A, S, H⟩ := V
  exact X.iaload hx (j := j) (v := .int (f k)) (by rw [eT]; exact A.1) (State.isArrayOf_alike hZ.alike A.2.1) A.2.2 (own_in S h1 hk h2) (by rw [hk]; exact H _ h2) (g := mkF m pc Ls (.int j :: .ref a :: rest)) rfl rfl hd t kk
theorem own_baload (X : Stand p l e R s m args below meth c T locs cells slots) (hx : p.tables.exec = Jvm.exec) (hZ : Z.Warmed39 s.vm) (eT : T.heap = h) (V : own_IA Z h a .byte n f) {j : Int32} {k : Nat} (h1 : ¬ j < 0) (hk : j.toNatClampNeg = k) (h2 : k < n) {pc : Nat} {Ls : Array Slot} {rest : List Value} (hd : decode c.code pc = .ok (.baload, 1)) (t : State)
    (kk : Steps p.tables e below (T.setTop (mkF m (pc + 1) Ls (.int (f k) :: rest))) t) : Steps p.tables e below (T.setTop (mkF m pc Ls (.int j :: .ref a :: rest))) t := by
  obtain ⟨cl, A, S, H⟩ := V
  exact X.baloadBytes hx (j := j) (v := .int (f k)) (by rw [eT]; exact A.1) (State.isArrayOf_alike hZ.alike A.2.1) A.2.2 (own_in S h1 hk h2) (by rw [hk]; exact H _ h2) (g := mkF m pc Ls (.int j :: .ref a :: rest)) rfl rfl hd t kk
theorem own_laload (X : Stand p l e R s m args below meth c T locs cells slots) (hx : p.tables.exec = Jvm.exec) (hZ : Z.Warmed39 s.vm) (eT : T.heap = h) (V : own_LA Z h a n fl) {j : Int32} {k : Nat} (h1 : ¬ j < 0) (hk : j.toNatClampNeg = k) (h2 : k < n) {pc : Nat} {Ls : Array Slot} {rest : List Value} (hd : decode c.code pc = .ok (.laload, 1)) (t : State)
    (kk : Steps p.tables e below (T.setTop (mkF m (pc + 1) Ls (.long (fl k) :: rest))) t) : Steps p.tables e below (T.setTop (mkF m pc Ls (.int j :: .ref a :: rest))) t := by
  obtain ⟨cl, A, S, H⟩ := V
  exact X.laload hx (j := j) (v := .long (fl k)) (by rw [eT]; exact A.1) (State.isArrayOf_alike hZ.alike A.2.1) A.2.2 (own_in S h1 hk h2) (by rw [hk]; exact H _ h2) (g := mkF m pc Ls (.int j :: .ref a :: rest)) rfl rfl hd t kk
theorem own_alen (X : Stand p l e R s m args below meth c T locs cells slots) (hx : p.tables.exec = Jvm.exec) (hZ : Z.Warmed39 s.vm) (eT : T.heap = h) (V : own_IA Z h a ty n f) {z : Int32} (hl : n.toInt32 = z) {pc : Nat} {Ls : Array Slot} {rest : List Value} (hd : decode c.code pc = .ok (.arraylength, 1)) (t : State)
    (kk : Steps p.tables e below (T.setTop (mkF m (pc + 1) Ls (.int z :: rest))) t) : Steps p.tables e below (T.setTop (mkF m pc Ls (.ref a :: rest))) t := by
  obtain ⟨cl, A, S, H⟩ := V
  exact X.arraylength hx (by rw [eT]; exact A.1) (State.isArrayOf_alike hZ.alike A.2.1) (g := mkF m pc Ls (.ref a :: rest)) rfl rfl hd t (by rw [S, hl]; exact kk)
theorem own_alenL (X : Stand p l e R s m args below meth c T locs cells slots) (hx : p.tables.exec = Jvm.exec) (hZ : Z.Warmed39 s.vm) (eT : T.heap = h) (V : own_LA Z h a n fl) {z : Int32} (hl : n.toInt32 = z) {pc : Nat} {Ls : Array Slot} {rest : List Value} (hd : decode c.code pc = .ok (.arraylength, 1)) (t : State)
    (kk : Steps p.tables e below (T.setTop (mkF m (pc + 1) Ls (.int z :: rest))) t) : Steps p.tables e below (T.setTop (mkF m pc Ls (.ref a :: rest))) t := by
  obtain ⟨cl, A, S, H⟩ := V
  exact X.arraylength hx (by rw [eT]; exact A.1) (State.isArrayOf_alike hZ.alike A.2.1) (g := mkF m pc Ls (.ref a :: rest)) rfl rfl hd t (by rw [S, hl]; exact kk)
theorem own_iastore (X : Stand p l e R s m args below meth c T locs cells slots) (hx : p.tables.exec = Jvm.exec) (hZ : Z.Warmed39 s.vm) (eT : T.heap = h) (V : own_IA Z h a .int n f) {j x : Int32} {k : Nat} (h1 : ¬ j < 0) (hk : j.toNatClampNeg = k) (h2 : k < n) {g : JFrame} (hg : g.method = m) {rest : List Value} (hs : g.stack = .int x :: .int j :: .ref a :: rest) (hd : decode c.code g.pc = .ok (.iastore, 1)) :
    ∃ T' h', Stand p l e R s m args below meth c T' (locs ++ [⟨a, k⟩]) cells slots ∧ T'.heap = h' ∧ Wr h h' a k (.int x) ∧ own_IA Z h' a .int n (own_upd f k x) ∧ ∀ target, Steps p.tables e below (T'.setTop { g with pc := g.pc + 1, stack := rest }) target → Steps p.tables e below (T.setTop g) target := by
  obtain ⟨cl, A, S, H⟩ := V
  obtain ⟨T', h', X', e', W, st⟩ := stI X hx hZ eT A (own_in S h1 hk h2) hg hs hd
  rw [hk] at X' W
  refine ⟨T', h', X', e', W, ⟨_, A.same W, by rw [sz_set, S], fun i hi => ?_⟩, st⟩
  rw [own_set S h2]; unfold own_upd
  by_cases q : i = k
  · rw [if_pos q, if_pos q]
  · rw [if_neg q, if_neg q]; exact H i hi
theorem own_bastore (X : Stand p l e R s m args below meth c T locs cells slots) (hx : p.tables.exec = Jvm.exec) (hZ : Z.Warmed39 s.vm) (eT : T.heap = h) (V : own_IA Z h a .byte n f) {j x : Int32} {k : Nat} (h1 : ¬ j < 0) (hk : j.toNatClampNeg = k) (h2 : k < n) {g : JFrame} (hg : g.method = m) {rest : List Value} (hs : g.stack = .int x :: .int j :: .ref a :: rest) (hd : decode c.code g.pc = .ok (.bastore, 1)) :
    ∃ T' h', Stand p l e R s m args below meth c T' (locs ++ [⟨a, k⟩]) cells slots ∧ T'.heap = h' ∧ Wr h h' a k (.int x.toInt8.toInt32) ∧ own_IA Z h' a .byte n (own_upd f k x.toInt8.toInt32) ∧ ∀ target, Steps p.tables e below (T'.setTop { g with pc := g.pc + 1, stack := rest }) target → Steps p.tables e below (T.setTop g) target := by
  obtain ⟨cl, A, S, H⟩ := V
  obtain ⟨T', h', X', e', W, st⟩ := stB X hx hZ eT A (own_in S h1 hk h2) hg hs hd
  rw [hk] at X' W
  refine ⟨T', h', X', e', W, ⟨_, A.same W, by rw [sz_set, S], fun i hi => ?_⟩, st⟩
  rw [own_set S h2]; unfold own_upd
  by_cases q : i = k
  · rw [if_pos q, if_pos q]; rfl
  · rw [if_neg q, if_neg q]; exact H i hi
theorem own_lastore (X : Stand p l e R s m args below meth c T locs cells slots) (hx : p.tables.exec = Jvm.exec) (hZ : Z.Warmed39 s.vm) (eT : T.heap = h) (V : own_LA Z h a n fl) {j : Int32} {x : Int64} {k : Nat} (h1 : ¬ j < 0) (hk : j.toNatClampNeg = k) (h2 : k < n) {g : JFrame} (hg : g.method = m) {rest : List Value} (hs : g.stack = .long x :: .int j :: .ref a :: rest) (hd : decode c.code g.pc = .ok (.lastore, 1)) :
    ∃ T' h', Stand p l e R s m args below meth c T' (locs ++ [⟨a, k⟩]) cells slots ∧ T'.heap = h' ∧ Wr h h' a k (.long x) ∧ own_LA Z h' a n (own_upd fl k x) ∧ ∀ target, Steps p.tables e below (T'.setTop { g with pc := g.pc + 1, stack := rest }) target → Steps p.tables e below (T.setTop g) target := by
  obtain ⟨cl, A, S, H⟩ := V
  obtain ⟨T', h', X', e', W, st⟩ := stJ X hx hZ eT A (own_in S h1 hk h2) hg hs hd
  rw [hk] at X' W
  refine ⟨T', h', X', e', W, ⟨_, A.same W, by rw [sz_set, S], fun i hi => ?_⟩, st⟩
  rw [own_set S h2]; unfold own_upd
  by_cases q : i = k
  · rw [if_pos q, if_pos q]
  · rw [if_neg q, if_neg q]; exact H i hi
theorem own_clone (X : Stand p l e R s m args below meth c T locs cells slots) (hx : p.tables.exec = Jvm.exec) (hZ : Z.Warmed39 s.vm) {a0 : Array Value} {own ad : String} {index : Nat} (hown : s.vm.findClass own = some m.cls)
    (w1 : (Cond.methodLink own index ⟨ad, "clone", "()Ljava/lang/Object;"⟩).before a0 Z = true) (w2 : (Cond.sameMethod ad "java/lang/Object" "clone" "()Ljava/lang/Object;").before a0 Z = true) (w3 : (Cond.native ⟨"java/lang/Object", "clone", "()Ljava/lang/Object;"⟩).before a0 Z = true)
    (w4 : (Cond.instanceMethod ⟨"java/lang/Object", "clone", "()Ljava/lang/Object;"⟩).before a0 Z = true) (w5 : (Cond.selects ad ⟨ad, "clone", "()Ljava/lang/Object;"⟩ ⟨"java/lang/Object", "clone", "()Ljava/lang/Object;"⟩).before a0 Z = true) (w6 : (Cond.castable ad "java/lang/Cloneable").before a0 Z = true)
    (eT : T.heap = h) (V : own_IA Z h a .int n f) (E : Exa Z h a ad) {g : JFrame} (hg : g.method = m) (hsize : g.locals.size = c.maxLocals) {rest : List Value} (hst : g.stack = .ref a :: rest) (hd : decode c.code g.pc = .ok (.invokevirtual index, 3))
    (hf : 1 ≤ R.frames) {W cap : Nat} (hW : 2 * g.monitorRoom + (rest.map fun v => v.category).sum ≤ W) (hl : W + 14 ≤ R.locals) (hcap : n ≤ cap) (hc : cells + 1 ≤ R.cells) (hsl : slots + cap ≤ R.slots) :
    ∃ T' h', Stand p l e R s m args below meth c T' locs (cells + 1) (slots + cap) ∧ T'.heap = h' ∧ Ext h h' ∧ own_IA Z h' h.size .int n f ∧ Exa Z h' h.size ad ∧
      ∀ target, Steps p.tables e below (T'.setTop { g with pc := g.pc + 3, stack := .ref h.size :: rest }) target → Steps p.tables e below (T.setTop g) target := by
  obtain ⟨cl, A, S, H⟩ := V
  have FC : FitC Z cl := fitC_of A fun i hi v hv => by rw [H i (by rw [← S]; exact hi)] at hv; cases hv; rfl
  obtain ⟨T', h', X', e', ex, A', E', st⟩ := cloneA X hx hZ hown w1 w2 w3 w4 w5 w6 eT A E FC hg hsize hst hd hf hW hl (by rw [S]; exact hcap) hc hsl
  exact ⟨T', h', X', e', ex, ⟨cloneOf cl, A', S, H⟩, E', st⟩
end Arrays
end Own
theorem own_id (x n : Int32) (hn : n = ((x &&& (2147483647 : Int32)) % (255 : Int32)) + (1 : Int32)) : ¬ (n < (1 : Int32)) ∧ ¬ ((255 : Int32) < n) := by
  have h := c_and x 2147483647 (by decide)
  have h2 := (c_irem (x &&& (2147483647 : Int32)) 255 255 rfl).1 h.1
  have h3 := c_iadd ((x &&& (2147483647 : Int32)) % 255) 1
  rw [← hn] at h3
  have r := rng32 n
  simp only [Int32.lt_iff_toInt_lt]
  have e1 : (1 : Int32).toInt = 1 := rfl
  have e2 : (255 : Int32).toInt = 255 := rfl
  rw [e1, e2]; rw [e1] at h3; omega
theorem own_nm (x : Int64) : 0 ≤ (x &&& (36028797018963967 : Int64)).toInt ∧ (x &&& (36028797018963967 : Int64)).toInt ≤ 36028797018963967 := by
  have h1 := c_maskL x 36028797018963967 55 (by decide) (by decide)
  have e : ((2 ^ 55 : Nat) : Int) = 36028797018963968 := by decide
  rw [e] at h1; omega
theorem own_num (v : Int64) : (1 ≤ v.toInt ∧ v.toInt ≤ 36028797018963967) → ¬ (v < (1 : Int64)) ∧ ¬ ((36028797018963967 : Int64) < v) := by
  have e1 : (1 : Int64).toInt = 1 := rfl
  have e2 : (36028797018963967 : Int64).toInt = 36028797018963967 := by decide
  intro h; rw [Int64.lt_iff_toInt_lt, Int64.lt_iff_toInt_lt, e1, e2]; omega
def own_chk (p : Int32) : Int32 := p
theorem own_tok (n : Int64) (i : Int32) (h1 : ¬ (n < (1 : Int64)) ∧ ¬ ((36028797018963967 : Int64) < n)) (h2 : ¬ (i < (1 : Int32)) ∧ ¬ ((255 : Int32) < i)) : (n * (256 : Int64)) + (i.toInt64) = (n <<< ((8 : Int32) &&& 0x3f).toInt64) ||| (i.toInt64) := by
  have e1 : (1 : Int64).toInt = 1 := rfl
  have e2 : (36028797018963967 : Int64).toInt = 36028797018963967 := by decide
  have e3 : (1 : Int32).toInt = 1 := rfl
  have e4 : (255 : Int32).toInt = 255 := rfl
  have e5 : (256 : Int64).toInt = 256 := rfl
  simp only [Int64.lt_iff_toInt_lt, Int32.lt_iff_toInt_lt, e1, e2, e3, e4] at h1 h2
  have a1 := c_lmul n 256
  have a2 := c_ladd (n * 256) i.toInt64
  have a3 := c_lshl n 8 8 (by decide)
  have p8 : ((2 ^ 8 : Nat) : Int) = 256 := by decide
  rw [e5] at a1; rw [p8] at a3; rw [c_i2l] at a2
  have r1 := rng64 (n * 256); have r2 := rng64 (n * 256 + i.toInt64); have r3 := rng64 (n <<< ((8 : Int32) &&& 0x3f).toInt64)
  have a4 := c_orL (n <<< ((8 : Int32) &&& 0x3f).toInt64) i.toInt64 8 (by decide) 256 (by decide) (by omega) (by rw [c_i2l]; omega) (by rw [c_i2l]; omega)
  rw [c_i2l] at a4
  have r4 := rng64 (n <<< ((8 : Int32) &&& 0x3f).toInt64 ||| i.toInt64)
  apply Int64.toInt_inj.mp
  omega
theorem pn_java_lang_Record : plainName "java/lang/Record" = true := by first | (simp [plainName, overriddenIn]; done) | decide +kernel
theorem d2_0 : decode jdk_30_method_1_code 0 = .ok (.aload_n 0, 1) := by decide +kernel
theorem d2_1 : decode jdk_30_method_1_code 1 = .ok (.invokespecial 1, 3) := by decide +kernel
theorem d2_4 : decode jdk_30_method_1_code 4 = .ok (.return_, 1) := by decide +kernel
theorem ef_2 (m : MethodId) (x0 : Addr) : entryFrame m #[(.ref x0)] 1 = mkF m 0 #[.val (.ref x0)] [] := by first | (simp [entryFrame, mkF, argsToLocals, Value.category]; done) | rfl
def own_Q2 (Z : State) (za : Addr) (h0 : Heap) (n0 : Nat) (v : Option Value) (h : Heap) (L : List Loc) : Prop := v = none ∧ Fr n0 L ∧ h = h0
set_option maxRecDepth 65536 in
set_option maxHeartbeats 40000000 in
theorem rm2 (l : Launch) (Z : State) (a0 : Array Value) (hw : ∀ d ∈ tables_1, d.before a0 Z = true) (ws : List Jvm.Cond) (za : Addr) (h0 : Heap) (n0 : Nat) (Z0 : n0 ≤ h0.size)  :
    MetFree l (⟨"java/lang/Record", "<init>", "()V"⟩ : MethodName) (head1 (Jvm.Cond.code (⟨"java/lang/Record", "<init>", "()V"⟩ : MethodName) jdk_30_method_1_code 1 none :: ws) ({ frames := 1, cells := 0, slots := 0, locals := 12 } : Room)) (fun a U => a = #[(.ref za)] ∧ Z.Warmed39 U.vm ∧ U.heap = h0) (fun _ _ _ _ _ => True) (fun _ U o U' => ∃ v L, o = .returned v ∧ own_Q2 Z za h0 n0 v U'.heap L ∧ FrameEnd U o U' L ({ frames := 1, cells := 0, slots := 0, locals := 12 } : Room).cells ({ frames := 1, cells := 0, slots := 0, locals := 12 } : Room).slots) := by
  refine MetFree.of_bodySF (plainFor_of_name pn_java_lang_Record) hisR ?_
  intro p e s m args below meth c s₁ Bd hml0 hP hK
  obtain ⟨rfl, hZ, hh⟩ := hP
  have hx := Bd.exec
  have hby := Bd.bytes
  have hml : c.maxLocals = 1 := hml0
  have hown : s.vm.findClass "java/lang/Record" = some m.cls := findClass_of_methodNamed Bd.named
  have hnm := (name_of_methodNamed Bd.named Bd.method).1
  have X0 : Stand p l e ({ frames := 1, cells := 0, slots := 0, locals := 12 } : Room) s m #[(.ref za)] below meth c s₁ [] 0 0 := Stand.of_body Bd
  have e0 : s₁.heap = h0 := by rw [← hh, Bd.state]; rfl
  have N0 := Fr.nil n0
  have Zs := Z0
  show own_Goes p e below s (own_Q2 Z za h0 n0) ({ frames := 1, cells := 0, slots := 0, locals := 12 } : Room).cells ({ frames := 1, cells := 0, slots := 0, locals := 12 } : Room).slots _
  refine own_go (B := s₁.setTop (mkF m 0 #[.val (.ref za)] [])) (fun t k => castTop (ef_2 m za) k) ?_
  refine own_go (B := s₁.setTop (mkF m 1 #[.val (.ref za)] [(.ref za)])) (fun t k => XS.aloadN X0.here hx rfl (hb hby d2_0) rfl rfl k) ?_
  obtain ⟨T1, X1, e1, st1⟩ := initO X0 hx hZ hown (own_w hw 13 rfl) (own_w hw 14 rfl) (own_w hw 15 rfl) e0 (g := (mkF m 1 #[.val (.ref za)] [(.ref za)])) rfl (by rw [hml]; rfl) rfl (hb hby d2_1) (by decide) (W := 0) (by show 2 * 0 + _ ≤ _; exact Nat.le_of_eq rfl) (by decide)
  refine own_go (B := T1.setTop (mkF m 4 #[.val (.ref za)] [])) (fun t k => st1 _ k) ?_
  refine own_out X1 (v := none) (fun _ => rfl) Bd.notSynchronized (fun fs hr => X1.returnOut hx Bd.returns (hb hby d2_4) hr) ?_ (by decide) (by decide)
  show own_Q2 Z za h0 n0 none T1.heap _
  rw [e1]
  exact ⟨rfl, N0, rfl⟩
theorem pn_com_example_vesta_vesta_protocol_Ticket : plainName "com/example/vesta/vesta/protocol/Ticket" = true := by first | (simp [plainName, overriddenIn]; done) | decide +kernel
theorem d4_0 : decode prog_19_method_2_code 0 = .ok (.iload_n 0, 1) := by decide +kernel
theorem d4_1 : decode prog_19_method_2_code 1 = .ok (.iconst 1, 1) := by decide +kernel
theorem d4_2 : decode prog_19_method_2_code 2 = .ok (.if_icmp .lt 10, 3) := by decide +kernel
theorem d4_5 : decode prog_19_method_2_code 5 = .ok (.iload_n 0, 1) := by decide +kernel
theorem d4_6 : decode prog_19_method_2_code 6 = .ok (.sipush 255, 3) := by decide +kernel
theorem d4_9 : decode prog_19_method_2_code 9 = .ok (.if_icmp .le 17, 3) := by decide +kernel
theorem d4_26 : decode prog_19_method_2_code 26 = .ok (.iload_n 0, 1) := by decide +kernel
theorem d4_27 : decode prog_19_method_2_code 27 = .ok (.ireturn, 1) := by decide +kernel
theorem ef_4 (m : MethodId) (x0 : Int32) : entryFrame m #[(.int x0)] 1 = mkF m 0 #[.val (.int x0)] [] := by first | (simp [entryFrame, mkF, argsToLocals, Value.category]; done) | rfl
def own_Q4 (Z : State) (p1 : Int32) (h0 : Heap) (n0 : Nat) (v : Option Value) (h : Heap) (L : List Loc) : Prop := v = some (.int (own_chk p1)) ∧ Fr n0 L ∧ h = h0
set_option maxRecDepth 65536 in
set_option maxHeartbeats 40000000 in
theorem rm4 (l : Launch) (Z : State) (a0 : Array Value) (hw : ∀ d ∈ tables_1, d.before a0 Z = true) (ws : List Jvm.Cond) (p1 : Int32) (h0 : Heap) (n0 : Nat) (Z0 : n0 ≤ h0.size) (hp : ¬ (p1 < (1 : Int32))) (hq : ¬ ((255 : Int32) < p1)) :
    MetFree l (⟨"com/example/vesta/vesta/protocol/Ticket", "checkMemberId", "(I)I"⟩ : MethodName) (head1 (Jvm.Cond.code (⟨"com/example/vesta/vesta/protocol/Ticket", "checkMemberId", "(I)I"⟩ : MethodName) prog_19_method_2_code 1 (some .int) :: ws) ({ frames := 0, cells := 0, slots := 0, locals := 0 } : Room)) (fun a U => a = #[(.int p1)] ∧ Z.Warmed39 U.vm ∧ U.heap = h0) (fun _ _ _ _ _ => True) (fun _ U o U' => ∃ v L, o = .returned v ∧ own_Q4 Z p1 h0 n0 v U'.heap L ∧ FrameEnd U o U' L ({ frames := 0, cells := 0, slots := 0, locals := 0 } : Room).cells ({ frames := 0, cells := 0, slots := 0, locals := 0 } : Room).slots) := by
  refine MetFree.of_bodySF (plainFor_of_name pn_com_example_vesta_vesta_protocol_Ticket) hisR ?_
  intro p e s m args below meth c s₁ Bd hml0 hP hK
  obtain ⟨rfl, hZ, hh⟩ := hP
  have hx := Bd.exec
  have hby := Bd.bytes
  have hml : c.maxLocals = 1 := hml0
  have hown : s.vm.findClass "com/example/vesta/vesta/protocol/Ticket" = some m.cls := findClass_of_methodNamed Bd.named
  have hnm := (name_of_methodNamed Bd.named Bd.method).1
  have X0 : Stand p l e ({ frames := 0, cells := 0, slots := 0, locals := 0 } : Room) s m #[(.int p1)] below meth c s₁ [] 0 0 := Stand.of_body Bd
  have e0 : s₁.heap = h0 := by rw [← hh, Bd.state]; rfl
  have N0 := Fr.nil n0
  have Zs := Z0
  show own_Goes p e below s (own_Q4 Z p1 h0 n0) ({ frames := 0, cells := 0, slots := 0, locals := 0 } : Room).cells ({ frames := 0, cells := 0, slots := 0, locals := 0 } : Room).slots _
  refine own_go (B := s₁.setTop (mkF m 0 #[.val (.int p1)] [])) (fun t k => castTop (ef_4 m p1) k) ?_
  refine own_go (B := s₁.setTop (mkF m 1 #[.val (.int p1)] [(.int p1)])) (fun t k => XS.iloadN X0.here hx rfl (hb hby d4_0) rfl k) ?_
  refine own_go (B := s₁.setTop (mkF m 2 #[.val (.int p1)] [(.int (1 : Int32)), (.int p1)])) (fun t k => XS.iconst X0.here hx rfl (hb hby d4_1) k) ?_
  refine own_go (B := s₁.setTop (mkF m 5 #[.val (.int p1)] [])) (fun t k => XS.icmpNo X0.here hx rfl (hb hby d4_2) rfl (flt hp).1 k) ?_
  refine own_go (B := s₁.setTop (mkF m 6 #[.val (.int p1)] [(.int p1)])) (fun t k => XS.iloadN X0.here hx rfl (hb hby d4_5) rfl k) ?_
  refine own_go (B := s₁.setTop (mkF m 9 #[.val (.int p1)] [(.int (255 : Int32)), (.int p1)])) (fun t k => XS.sipush X0.here hx rfl (hb hby d4_6) k) ?_
  refine own_go (B := s₁.setTop (mkF m 26 #[.val (.int p1)] [])) (fun t k => XS.icmpYes X0.here hx rfl (pc0 := 9) (pc' := 26) rfl (hb hby d4_9) rfl (flt hq).2.2.2 (by decide) (by decide) k) ?_
  refine own_go (B := s₁.setTop (mkF m 27 #[.val (.int p1)] [(.int p1)])) (fun t k => XS.iloadN X0.here hx rfl (hb hby d4_26) rfl k) ?_
  refine own_out X0 (v := (some (.int p1))) (fun h => by rw [Bd.returns] at h; cases h) Bd.notSynchronized (fun fs hr => retOut X0 hx (t := .int) Bd.returns rfl (Or.inl ⟨rfl, Or.inl rfl, _, rfl⟩) (hb hby d4_27) hr) ?_ (by decide) (by decide)
  show own_Q4 Z p1 h0 n0 (some (.int p1)) s₁.heap _
  rw [e0]
  exact ⟨congrArg (fun z => some (Value.int z)) (rfl), N0, rfl⟩
theorem d1_0 : decode prog_19_method_1_code 0 = .ok (.aload_n 0, 1) := by decide +kernel
theorem d1_1 : decode prog_19_method_1_code 1 = .ok (.invokespecial 5, 3) := by decide +kernel
theorem d1_4 : decode prog_19_method_1_code 4 = .ok (.lload_n 1, 1) := by decide +kernel
theorem d1_5 : decode prog_19_method_1_code 5 = .ok (.lconst 1, 1) := by decide +kernel
theorem d1_6 : decode prog_19_method_1_code 6 = .ok (.lcmp, 1) := by decide +kernel
theorem d1_7 : decode prog_19_method_1_code 7 = .ok (.ifCond .lt 11, 3) := by decide +kernel
theorem d1_10 : decode prog_19_method_1_code 10 = .ok (.lload_n 1, 1) := by decide +kernel
theorem d1_11 : decode prog_19_method_1_code 11 = .ok (.ldc2_w 11, 3) := by decide +kernel
theorem d1_14 : decode prog_19_method_1_code 14 = .ok (.lcmp, 1) := by decide +kernel
theorem d1_15 : decode prog_19_method_1_code 15 = .ok (.ifCond .le 17, 3) := by decide +kernel
theorem d1_32 : decode prog_19_method_1_code 32 = .ok (.iload_n 3, 1) := by decide +kernel
theorem d1_33 : decode prog_19_method_1_code 33 = .ok (.invokestatic 22, 3) := by decide +kernel
theorem d1_36 : decode prog_19_method_1_code 36 = .ok (.pop, 1) := by decide +kernel
theorem d1_37 : decode prog_19_method_1_code 37 = .ok (.aload_n 0, 1) := by decide +kernel
theorem d1_38 : decode prog_19_method_1_code 38 = .ok (.lload_n 1, 1) := by decide +kernel
theorem d1_39 : decode prog_19_method_1_code 39 = .ok (.putfield 26, 3) := by decide +kernel
theorem d1_42 : decode prog_19_method_1_code 42 = .ok (.aload_n 0, 1) := by decide +kernel
theorem d1_43 : decode prog_19_method_1_code 43 = .ok (.iload_n 3, 1) := by decide +kernel
theorem d1_44 : decode prog_19_method_1_code 44 = .ok (.putfield 30, 3) := by decide +kernel
theorem d1_47 : decode prog_19_method_1_code 47 = .ok (.return_, 1) := by decide +kernel
theorem pd_0 : parseMethodDescriptor "()V" = some ⟨[], none⟩ := by decide +kernel
theorem pd_1 : parseMethodDescriptor "(I)I" = some ⟨[.int], some .int⟩ := by decide +kernel
theorem ef_1 (m : MethodId) (x0 : Addr) (x1 : Int64) (x2 : Int32) : entryFrame m #[(.ref x0), (.long x1), (.int x2)] 4 = mkF m 0 #[.val (.ref x0), .val (.long x1), .second, .val (.int x2)] [] := by first | (simp [entryFrame, mkF, argsToLocals, Value.category]; done) | rfl
def own_Q1 (Z : State) (za : Addr) (zn : Int64) (zi : Int32) (h0 : Heap) (n0 : Nat) (v : Option Value) (h : Heap) (L : List Loc) : Prop := v = none ∧ Fr n0 L ∧ Keep h0 h [za] ∧ Exa Z h za "com/example/vesta/vesta/protocol/Ticket" ∧ Fld Z h za "com/example/vesta/vesta/protocol/Ticket" "number" "J" (.long zn) ∧ Fld Z h za "com/example/vesta/vesta/protocol/Ticket" "memberId" "I" (.int zi)
set_option maxRecDepth 65536 in
set_option maxHeartbeats 40000000 in
theorem rm1 (l : Launch) (Z : State) (a0 : Array Value) (hw : ∀ d ∈ tables_1, d.before a0 Z = true) (ws : List Jvm.Cond) (za : Addr) (zn : Int64) (zi : Int32) (h0 : Heap) (n0 : Nat) (Z0 : n0 ≤ h0.size) (E_za : Exa Z h0 za "com/example/vesta/vesta/protocol/Ticket") (F_za_number : Fld Z h0 za "com/example/vesta/vesta/protocol/Ticket" "number" "J" (.long (0 : Int64))) (F_za_memberId : Fld Z h0 za "com/example/vesta/vesta/protocol/Ticket" "memberId" "I" (.int (0 : Int32))) (g_za : n0 ≤ za) (hn : ¬ (zn < (1 : Int64)) ∧ ¬ ((36028797018963967 : Int64) < zn)) (hi : ¬ (zi < (1 : Int32)) ∧ ¬ ((255 : Int32) < zi)) :
    MetFree l (⟨"com/example/vesta/vesta/protocol/Ticket", "<init>", "(JI)V"⟩ : MethodName) (head1 (Jvm.Cond.code (⟨"com/example/vesta/vesta/protocol/Ticket", "<init>", "(JI)V"⟩ : MethodName) prog_19_method_1_code 4 none :: ws) ({ frames := 2, cells := 0, slots := 0, locals := 24 } : Room)) (fun a U => a = #[(.ref za), (.long zn), (.int zi)] ∧ Z.Warmed39 U.vm ∧ U.heap = h0) (fun _ _ _ _ _ => True) (fun _ U o U' => ∃ v L, o = .returned v ∧ own_Q1 Z za zn zi h0 n0 v U'.heap L ∧ FrameEnd U o U' L ({ frames := 2, cells := 0, slots := 0, locals := 24 } : Room).cells ({ frames := 2, cells := 0, slots := 0, locals := 24 } : Room).slots) := by
  refine MetFree.of_bodySF (plainFor_of_name pn_com_example_vesta_vesta_protocol_Ticket) hisR ?_
  intro p e s m args below meth c s₁ Bd hml0 hP hK
  obtain ⟨rfl, hZ, hh⟩ := hP
  have hx := Bd.exec
  have hby := Bd.bytes
  have hml : c.maxLocals = 4 := hml0
  have hown : s.vm.findClass "com/example/vesta/vesta/protocol/Ticket" = some m.cls := findClass_of_methodNamed Bd.named
  have hnm := (name_of_methodNamed Bd.named Bd.method).1
  have X0 : Stand p l e ({ frames := 2, cells := 0, slots := 0, locals := 24 } : Room) s m #[(.ref za), (.long zn), (.int zi)] below meth c s₁ [] 0 0 := Stand.of_body Bd
  have e0 : s₁.heap = h0 := by rw [← hh, Bd.state]; rfl
  have N0 := Fr.nil n0
  have Zs := Z0
  have K : Keep h0 h0 [za] := Keep.refl _ _
  show own_Goes p e below s (own_Q1 Z za zn zi h0 n0) ({ frames := 2, cells := 0, slots := 0, locals := 24 } : Room).cells ({ frames := 2, cells := 0, slots := 0, locals := 24 } : Room).slots _
  refine own_go (B := s₁.setTop (mkF m 0 #[.val (.ref za), .val (.long zn), .second, .val (.int zi)] [])) (fun t k => castTop (ef_1 m za zn zi) k) ?_
  refine own_go (B := s₁.setTop (mkF m 1 #[.val (.ref za), .val (.long zn), .second, .val (.int zi)] [(.ref za)])) (fun t k => XS.aloadN X0.here hx rfl (hb hby d1_0) rfl rfl k) ?_
  obtain ⟨_, _, ⟨T2, La2, ka2, na2⟩, -, X2, ⟨Lc2, hQ2, l2, y2, z2⟩, st2⟩ := X0.specialBack hx (y := (⟨"java/lang/Record", "<init>", "()V"⟩ : MethodName)) rfl hown (mvT hZ (own_w hw 8 rfl)) (mvT hZ (own_w hw 9 rfl)) (mvT hZ (own_w hw 12 rfl)) (by decide) (backOf (W := 0) (rm2 l Z a0 hw [] za h0 n0 Zs ) hZ (own_w hw 12 rfl) (own_w hw 11 rfl) (by decide) (by decide)) (g := (mkF m 1 #[.val (.ref za), .val (.long zn), .second, .val (.int zi)] [(.ref za)])) rfl (by rw [hml]; rfl) (Steps.refl _) (a := za) (argsL := []) (rest := []) (lenOf pd_0 rfl) rfl (by show 2 * 0 + _ ≤ _; exact Nat.le_of_eq rfl) (hb hby d1_1) (fun _ _ => ⟨rfl, e0, (by decide : 0 + 0 ≤ _), (by decide : 0 + 0 ≤ _)⟩)
  dsimp only [Pt.U, Pt.locs, Pt.cells, Pt.slots] at X2 l2 y2 z2 st2 hQ2
  subst l2 y2 z2
  obtain ⟨rfl, N2q, e2⟩ := hQ2
  have N2 := Fr.app N0 N2q
  refine own_go (B := T2.setTop (mkF m 4 #[.val (.ref za), .val (.long zn), .second, .val (.int zi)] [])) (fun t k => own_st st2 k) ?_
  refine own_go (B := T2.setTop (mkF m 5 #[.val (.ref za), .val (.long zn), .second, .val (.int zi)] [(.long zn)])) (fun t k => XS.lloadN X2.here hx rfl (hb hby d1_4) rfl k) ?_
  refine own_go (B := T2.setTop (mkF m 6 #[.val (.ref za), .val (.long zn), .second, .val (.int zi)] [(.long (1 : Int64)), (.long zn)])) (fun t k => XS.lconst X2.here hx rfl (hb hby d1_5) k) ?_
  refine own_go (B := T2.setTop (mkF m 7 #[.val (.ref za), .val (.long zn), .second, .val (.int zi)] [(.int (lcmpW zn (1 : Int64)))])) (fun t k => XS.lcmp X2.here hx rfl (hb hby d1_6) rfl k) ?_
  refine own_go (B := T2.setTop (mkF m 10 #[.val (.ref za), .val (.long zn), .second, .val (.int zi)] [])) (fun t k => XS.ifNo X2.here hx rfl (hb hby d1_7) rfl ((if0 _ _).trans (flt (mt (lw_lt zn (1 : Int64)).mp hn.1)).1) k) ?_
  refine own_go (B := T2.setTop (mkF m 11 #[.val (.ref za), .val (.long zn), .second, .val (.int zi)] [(.long zn)])) (fun t k => XS.lloadN X2.here hx rfl (hb hby d1_10) rfl k) ?_
  refine own_go (B := T2.setTop (mkF m 14 #[.val (.ref za), .val (.long zn), .second, .val (.int zi)] [(.long (36028797018963967 : Int64)), (.long zn)])) (fun t k => X2.ldc2Long hx hown (mvT hZ (own_w hw 16 rfl)) (g := (mkF m 11 #[.val (.ref za), .val (.long zn), .second, .val (.int zi)] [(.long zn)])) rfl (hb hby d1_11) _ k) ?_
  refine own_go (B := T2.setTop (mkF m 15 #[.val (.ref za), .val (.long zn), .second, .val (.int zi)] [(.int (lcmpW zn (36028797018963967 : Int64)))])) (fun t k => XS.lcmp X2.here hx rfl (hb hby d1_14) rfl k) ?_
  refine own_go (B := T2.setTop (mkF m 32 #[.val (.ref za), .val (.long zn), .second, .val (.int zi)] [])) (fun t k => XS.ifYes X2.here hx rfl (pc0 := 15) (pc' := 32) rfl (hb hby d1_15) rfl ((if0 _ _).trans (flt (mt (lw_gt zn (36028797018963967 : Int64)).mp hn.2)).2.2.2) (by decide) (by decide) k) ?_
  refine own_go (B := T2.setTop (mkF m 33 #[.val (.ref za), .val (.long zn), .second, .val (.int zi)] [(.int zi)])) (fun t k => XS.iloadN X2.here hx rfl (hb hby d1_32) rfl k) ?_
  obtain ⟨_, _, ⟨T3, La3, ka3, na3⟩, -, X3, ⟨Lc3, hQ3, l3, y3, z3⟩, st3⟩ := Jvm.LawKit.callS X2 hx (y := (⟨"com/example/vesta/vesta/protocol/Ticket", "checkMemberId", "(I)I"⟩ : MethodName)) hown (mvT hZ (own_w hw 17 rfl)) (mvT hZ (own_w hw 18 rfl)) (mvT hZ (own_w hw 4 rfl)) (mvT hZ (own_w hw 19 rfl)) (by decide) (backOf (W := 0) (rm4 l Z a0 hw [] zi h0 n0 Zs hi.1 hi.2) hZ (own_w hw 19 rfl) (own_w hw 4 rfl) (by decide) (by decide)) (g := (mkF m 33 #[.val (.ref za), .val (.long zn), .second, .val (.int zi)] [(.int zi)])) rfl (by rw [hml]; rfl) (argsL := [(.int zi)]) (rest := []) (lenOf pd_1 rfl) rfl (by show 2 * 0 + _ ≤ _; exact Nat.le_of_eq rfl) (hb hby d1_33) (fun _ _ => ⟨rfl, e2, (by decide : 0 + 0 ≤ _), (by decide : 0 + 0 ≤ _)⟩)
  dsimp only [Pt.U, Pt.locs, Pt.cells, Pt.slots] at X3 l3 y3 z3 st3 hQ3
  subst l3 y3 z3
  obtain ⟨rfl, N3q, e3⟩ := hQ3
  have N3 := Fr.app N2 N3q
  refine own_go (B := T3.setTop (mkF m 36 #[.val (.ref za), .val (.long zn), .second, .val (.int zi)] [(.int (own_chk zi))])) (fun t k => st3 _ k) ?_
  refine own_go (B := T3.setTop (mkF m 37 #[.val (.ref za), .val (.long zn), .second, .val (.int zi)] [])) (fun t k => XS.pop X3.here hx rfl (hb hby d1_36) rfl rfl k) ?_
  refine own_go (B := T3.setTop (mkF m 38 #[.val (.ref za), .val (.long zn), .second, .val (.int zi)] [(.ref za)])) (fun t k => XS.aloadN X3.here hx rfl (hb hby d1_37) rfl rfl k) ?_
  refine own_go (B := T3.setTop (mkF m 39 #[.val (.ref za), .val (.long zn), .second, .val (.int zi)] [(.long zn), (.ref za)])) (fun t k => XS.lloadN X3.here hx rfl (hb hby d1_38) rfl k) ?_
  obtain ⟨T4, h4, X4, e4, W4, st4⟩ := putF X3 hx hZ hown (host := "") (Or.inl (own_w hw 20 rfl)) Via.refl e3 F_za_number E_za (Or.inr ⟨(own_w hw 21 rfl), rfl, hnm⟩) (own_w hw 3 rfl) (ty := .long) (by decide) rfl rfl (g := (mkF m 39 #[.val (.ref za), .val (.long zn), .second, .val (.int zi)] [(.long zn), (.ref za)])) rfl rfl (hb hby d1_39)
  have N4 := Fr.snoc X4 N3 g_za
  have E_za := E_za.wr W4
  have F_za_number := F_za_number.same W4
  have F_za_memberId := F_za_memberId.other W4 (Or.inr (slot_ne (Or.inr (own_w hw 23 rfl)) (Or.inr (own_w hw 21 rfl)) (by decide) (t := .int) (t' := .long) (by decide) (by decide)))
  have K := K.wr W4 (Or.inl (List.mem_of_getElem? (i := 0) rfl))
  have Zs := Nat.le_trans Zs (Keep.of_wr W4).1
  refine own_go (B := T4.setTop (mkF m 42 #[.val (.ref za), .val (.long zn), .second, .val (.int zi)] [])) (fun t k => st4 _ k) ?_
  refine own_go (B := T4.setTop (mkF m 43 #[.val (.ref za), .val (.long zn), .second, .val (.int zi)] [(.ref za)])) (fun t k => XS.aloadN X4.here hx rfl (hb hby d1_42) rfl rfl k) ?_
  refine own_go (B := T4.setTop (mkF m 44 #[.val (.ref za), .val (.long zn), .second, .val (.int zi)] [(.int zi), (.ref za)])) (fun t k => XS.iloadN X4.here hx rfl (hb hby d1_43) rfl k) ?_
  obtain ⟨T5, h5, X5, e5, W5, st5⟩ := putF X4 hx hZ hown (host := "") (Or.inl (own_w hw 22 rfl)) Via.refl e4 F_za_memberId E_za (Or.inr ⟨(own_w hw 23 rfl), rfl, hnm⟩) (own_w hw 3 rfl) (ty := .int) (by decide) rfl rfl (g := (mkF m 44 #[.val (.ref za), .val (.long zn), .second, .val (.int zi)] [(.int zi), (.ref za)])) rfl rfl (hb hby d1_44)
  have N5 := Fr.snoc X5 N4 g_za
  have E_za := E_za.wr W5
  have F_za_number := F_za_number.other W5 (Or.inr (slot_ne (Or.inr (own_w hw 21 rfl)) (Or.inr (own_w hw 23 rfl)) (by decide) (t := .long) (t' := .int) (by decide) (by decide)))
  have F_za_memberId := F_za_memberId.same W5
  have K := K.wr W5 (Or.inl (List.mem_of_getElem? (i := 0) rfl))
  have Zs := Nat.le_trans Zs (Keep.of_wr W5).1
  refine own_go (B := T5.setTop (mkF m 47 #[.val (.ref za), .val (.long zn), .second, .val (.int zi)] [])) (fun t k => st5 _ k) ?_
  refine own_out X5 (v := none) (fun _ => rfl) Bd.notSynchronized (fun fs hr => X5.returnOut hx Bd.returns (hb hby d1_47) hr) ?_ (by decide) (by decide)
  show own_Q1 Z za zn zi h0 n0 none T5.heap _
  rw [e5]
  exact ⟨rfl, N5, K, E_za, F_za_number, F_za_memberId⟩
theorem d5_0 : decode prog_19_method_3_code 0 = .ok (.aload_n 0, 1) := by decide +kernel
theorem d5_1 : decode prog_19_method_3_code 1 = .ok (.getfield 26, 3) := by decide +kernel
theorem d5_4 : decode prog_19_method_3_code 4 = .ok (.ldc2_w 37, 3) := by decide +kernel
theorem d5_7 : decode prog_19_method_3_code 7 = .ok (.lmul, 1) := by decide +kernel
theorem d5_8 : decode prog_19_method_3_code 8 = .ok (.aload_n 0, 1) := by decide +kernel
theorem d5_9 : decode prog_19_method_3_code 9 = .ok (.getfield 30, 3) := by decide +kernel
theorem d5_12 : decode prog_19_method_3_code 12 = .ok (.i2l, 1) := by decide +kernel
theorem d5_13 : decode prog_19_method_3_code 13 = .ok (.ladd, 1) := by decide +kernel
theorem d5_14 : decode prog_19_method_3_code 14 = .ok (.lreturn, 1) := by decide +kernel
theorem ef_5 (m : MethodId) (x0 : Addr) : entryFrame m #[(.ref x0)] 1 = mkF m 0 #[.val (.ref x0)] [] := by first | (simp [entryFrame, mkF, argsToLocals, Value.category]; done) | rfl
def own_Q5 (Z : State) (za : Addr) (zn : Int64) (zi : Int32) (h0 : Heap) (n0 : Nat) (v : Option Value) (h : Heap) (L : List Loc) : Prop := v = some (.long ((zn * (256 : Int64)) + (zi.toInt64))) ∧ Fr n0 L ∧ h = h0
set_option maxRecDepth 65536 in
set_option maxHeartbeats 40000000 in
theorem rm5 (l : Launch) (Z : State) (a0 : Array Value) (hw : ∀ d ∈ tables_1, d.before a0 Z = true) (ws : List Jvm.Cond) (za : Addr) (zn : Int64) (zi : Int32) (h0 : Heap) (n0 : Nat) (Z0 : n0 ≤ h0.size) (F_za_number : Fld Z h0 za "com/example/vesta/vesta/protocol/Ticket" "number" "J" (.long zn)) (F_za_memberId : Fld Z h0 za "com/example/vesta/vesta/protocol/Ticket" "memberId" "I" (.int zi)) :
    MetFree l (⟨"com/example/vesta/vesta/protocol/Ticket", "fencingToken", "()J"⟩ : MethodName) (head1 (Jvm.Cond.code (⟨"com/example/vesta/vesta/protocol/Ticket", "fencingToken", "()J"⟩ : MethodName) prog_19_method_3_code 1 (some .long) :: ws) ({ frames := 0, cells := 0, slots := 0, locals := 0 } : Room)) (fun a U => a = #[(.ref za)] ∧ Z.Warmed39 U.vm ∧ U.heap = h0) (fun _ _ _ _ _ => True) (fun _ U o U' => ∃ v L, o = .returned v ∧ own_Q5 Z za zn zi h0 n0 v U'.heap L ∧ FrameEnd U o U' L ({ frames := 0, cells := 0, slots := 0, locals := 0 } : Room).cells ({ frames := 0, cells := 0, slots := 0, locals := 0 } : Room).slots) := by
  refine MetFree.of_bodySF (plainFor_of_name pn_com_example_vesta_vesta_protocol_Ticket) hisR ?_
  intro p e s m args below meth c s₁ Bd hml0 hP hK
  obtain ⟨rfl, hZ, hh⟩ := hP
  have hx := Bd.exec
  have hby := Bd.bytes
  have hml : c.maxLocals = 1 := hml0
  have hown : s.vm.findClass "com/example/vesta/vesta/protocol/Ticket" = some m.cls := findClass_of_methodNamed Bd.named
  have hnm := (name_of_methodNamed Bd.named Bd.method).1
  have X0 : Stand p l e ({ frames := 0, cells := 0, slots := 0, locals := 0 } : Room) s m #[(.ref za)] below meth c s₁ [] 0 0 := Stand.of_body Bd
  have e0 : s₁.heap = h0 := by rw [← hh, Bd.state]; rfl
  have N0 := Fr.nil n0
  have Zs := Z0
  show own_Goes p e below s (own_Q5 Z za zn zi h0 n0) ({ frames := 0, cells := 0, slots := 0, locals := 0 } : Room).cells ({ frames := 0, cells := 0, slots := 0, locals := 0 } : Room).slots _
  refine own_go (B := s₁.setTop (mkF m 0 #[.val (.ref za)] [])) (fun t k => castTop (ef_5 m za) k) ?_
  refine own_go (B := s₁.setTop (mkF m 1 #[.val (.ref za)] [(.ref za)])) (fun t k => XS.aloadN X0.here hx rfl (hb hby d5_0) rfl rfl k) ?_
  obtain ⟨T6, X6, e6, st6⟩ := getF X0 hx hZ hown (host := "") (Or.inl (own_w hw 20 rfl)) Via.refl e0 F_za_number (g := (mkF m 1 #[.val (.ref za)] [(.ref za)])) rfl rfl (hb hby d5_1)
  refine own_go (B := T6.setTop (mkF m 4 #[.val (.ref za)] [(.long zn)])) (fun t k => st6 _ k) ?_
  refine own_go (B := T6.setTop (mkF m 7 #[.val (.ref za)] [(.long (256 : Int64)), (.long zn)])) (fun t k => X6.ldc2Long hx hown (mvT hZ (own_w hw 29 rfl)) (g := (mkF m 4 #[.val (.ref za)] [(.long zn)])) rfl (hb hby d5_4) _ k) ?_
  refine own_go (B := T6.setTop (mkF m 8 #[.val (.ref za)] [(.long (zn * (256 : Int64)))])) (fun t k => XS.lmul X6.here hx rfl (hb hby d5_7) rfl k) ?_
  refine own_go (B := T6.setTop (mkF m 9 #[.val (.ref za)] [(.ref za), (.long (zn * (256 : Int64)))])) (fun t k => XS.aloadN X6.here hx rfl (hb hby d5_8) rfl rfl k) ?_
  obtain ⟨T7, X7, e7, st7⟩ := getF X6 hx hZ hown (host := "") (Or.inl (own_w hw 22 rfl)) Via.refl e6 F_za_memberId (g := (mkF m 9 #[.val (.ref za)] [(.ref za), (.long (zn * (256 : Int64)))])) rfl rfl (hb hby d5_9)
  refine own_go (B := T7.setTop (mkF m 12 #[.val (.ref za)] [(.int zi), (.long (zn * (256 : Int64)))])) (fun t k => st7 _ k) ?_
  refine own_go (B := T7.setTop (mkF m 13 #[.val (.ref za)] [(.long (zi.toInt64)), (.long (zn * (256 : Int64)))])) (fun t k => XS.i2l X7.here hx rfl (hb hby d5_12) rfl k) ?_
  refine own_go (B := T7.setTop (mkF m 14 #[.val (.ref za)] [(.long ((zn * (256 : Int64)) + (zi.toInt64)))])) (fun t k => XS.ladd X7.here hx rfl (hb hby d5_13) rfl k) ?_
  refine own_out X7 (v := (some (.long ((zn * (256 : Int64)) + (zi.toInt64))))) (fun h => by rw [Bd.returns] at h; cases h) Bd.notSynchronized (fun fs hr => retOut X7 hx (t := .long) Bd.returns rfl (Or.inr (Or.inl ⟨rfl, rfl, _, rfl⟩)) (hb hby d5_14) hr) ?_ (by decide) (by decide)
  show own_Q5 Z za zn zi h0 n0 (some (.long ((zn * (256 : Int64)) + (zi.toInt64)))) T7.heap _
  rw [e7]
  exact ⟨rfl, N0, rfl⟩
theorem pn_com_example_vesta_vesta_protocol_TicketFencingTokenPinLaw : plainName "com/example/vesta/vesta/protocol/TicketFencingTokenPinLaw" = true := by first | (simp [plainName, overriddenIn]; done) | decide +kernel
theorem pd_2 : parseMethodDescriptor "(JI)V" = some ⟨[.long, .int], none⟩ := by decide +kernel
theorem pd_3 : parseMethodDescriptor "()J" = some ⟨[], some .long⟩ := by decide +kernel
theorem ef_0 (m : MethodId) (x0 : Int64) (x1 : Int32) : entryFrame m #[(.long x0), (.int x1)] maxLocals = mkF m 0 #[.val (.long x0), .second, .val (.int x1), .unset, .unset, .unset, .unset, .unset, .unset, .unset, .unset] [] := by first | (simp [entryFrame, mkF, argsToLocals, Value.category, maxLocals]; done) | rfl
def own_Q0 (Z : State) (q1 : Int64) (p2 : Int32) (h0 : Heap) (n0 : Nat) (v : Option Value) (h : Heap) (L : List Loc) : Prop := v = some (.int 1) ∧ Fr n0 L
set_option maxRecDepth 65536 in
set_option maxHeartbeats 40000000 in
theorem rm0 (l : Launch) (Z : State) (a0 : Array Value) (hw : ∀ d ∈ tables_1, d.before a0 Z = true) (ws : List Jvm.Cond) (q1 : Int64) (p2 : Int32) (h0 : Heap) (n0 : Nat) (Z0 : n0 ≤ h0.size)  :
    MetFree l x (head1 (Jvm.Cond.code x code maxLocals ret :: ws) room_1) (fun a U => a = #[(.long q1), (.int p2)] ∧ Z.Warmed39 U.vm ∧ U.heap = h0) (fun _ _ _ _ _ => True) (fun _ U o U' => ∃ v L, o = .returned v ∧ own_Q0 Z q1 p2 h0 n0 v U'.heap L ∧ FrameEnd U o U' L room_1.cells room_1.slots) := by
  refine MetFree.of_bodySF (plainFor_of_name pn_com_example_vesta_vesta_protocol_TicketFencingTokenPinLaw) hisR ?_
  intro p e s m args below meth c s₁ Bd hml0 hP hK
  obtain ⟨rfl, hZ, hh⟩ := hP
  have hx := Bd.exec
  have hby := Bd.bytes
  have hml : c.maxLocals = 11 := hml0
  have hown : s.vm.findClass "com/example/vesta/vesta/protocol/TicketFencingTokenPinLaw" = some m.cls := findClass_of_methodNamed Bd.named
  have hnm := (name_of_methodNamed Bd.named Bd.method).1
  have X0 : Stand p l e room_1 s m #[(.long q1), (.int p2)] below meth c s₁ [] 0 0 := Stand.of_body Bd
  have e0 : s₁.heap = h0 := by rw [← hh, Bd.state]; rfl
  have N0 := Fr.nil n0
  have Zs := Z0
  show own_Goes p e below s (own_Q0 Z q1 p2 h0 n0) room_1.cells room_1.slots _
  refine own_go (B := s₁.setTop (mkF m 0 #[.val (.long q1), .second, .val (.int p2), .unset, .unset, .unset, .unset, .unset, .unset, .unset, .unset] [])) (fun t k => castTop (ef_0 m q1 p2) k) ?_
  refine own_go (B := s₁.setTop (mkF m 1 #[.val (.long q1), .second, .val (.int p2), .unset, .unset, .unset, .unset, .unset, .unset, .unset, .unset] [(.long q1)])) (fun t k => XS.lloadN X0.here hx rfl (hb hby at_0) rfl k) ?_
  refine own_go (B := s₁.setTop (mkF m 4 #[.val (.long q1), .second, .val (.int p2), .unset, .unset, .unset, .unset, .unset, .unset, .unset, .unset] [(.long (36028797018963967 : Int64)), (.long q1)])) (fun t k => X0.ldc2Long hx hown (mvT hZ (own_w hw 0 rfl)) (g := (mkF m 1 #[.val (.long q1), .second, .val (.int p2), .unset, .unset, .unset, .unset, .unset, .unset, .unset, .unset] [(.long q1)])) rfl (hb hby at_1) _ k) ?_
  refine own_go (B := s₁.setTop (mkF m 5 #[.val (.long q1), .second, .val (.int p2), .unset, .unset, .unset, .unset, .unset, .unset, .unset, .unset] [(.long (q1 &&& (36028797018963967 : Int64)))])) (fun t k => XS.land X0.here hx rfl (hb hby at_4) rfl k) ?_
  refine own_go (B := s₁.setTop (mkF m 6 #[.val (.long q1), .second, .val (.int p2), .val (.long (q1 &&& (36028797018963967 : Int64))), .second, .unset, .unset, .unset, .unset, .unset, .unset] [])) (fun t k => XS.lstoreN X0.here hx rfl (hb hby at_5) rfl (l' := #[.val (.long q1), .second, .val (.int p2), .val (.long (q1 &&& (36028797018963967 : Int64))), .second, .unset, .unset, .unset, .unset, .unset, .unset]) rfl k) ?_
  have J14 : ∀ (Tj14 : State) (Lj14 : List Loc) (Xj14 : Stand p l e room_1 s m #[(.long q1), (.int p2)] below meth c Tj14 Lj14 0 0) (ej14 : Tj14.heap = h0) (Nj14 : Fr n0 Lj14) (vn : Int64) (hnum : ¬ (vn < (1 : Int64)) ∧ ¬ ((36028797018963967 : Int64) < vn)), own_Goes p e below s (own_Q0 Z q1 p2 h0 n0) room_1.cells room_1.slots (Tj14.setTop (mkF m 14 #[.val (.long q1), .second, .val (.int p2), .val (.long vn), .second, .unset, .unset, .unset, .unset, .unset, .unset] [])) := by
    intro Tj14 Lj14 Xj14 ej14 Nj14 vn hnum
    refine own_go (B := Tj14.setTop (mkF m 15 #[.val (.long q1), .second, .val (.int p2), .val (.long vn), .second, .unset, .unset, .unset, .unset, .unset, .unset] [(.int p2)])) (fun t k => XS.iloadN Xj14.here hx rfl (hb hby at_14) rfl k) ?_
    refine own_go (B := Tj14.setTop (mkF m 17 #[.val (.long q1), .second, .val (.int p2), .val (.long vn), .second, .unset, .unset, .unset, .unset, .unset, .unset] [(.int (2147483647 : Int32)), (.int p2)])) (fun t k => Xj14.ldcInt hx hown (mvT hZ (own_w hw 1 rfl)) (g := (mkF m 15 #[.val (.long q1), .second, .val (.int p2), .val (.long vn), .second, .unset, .unset, .unset, .unset, .unset, .unset] [(.int p2)])) rfl (hb hby at_15) _ k) ?_
    refine own_go (B := Tj14.setTop (mkF m 18 #[.val (.long q1), .second, .val (.int p2), .val (.long vn), .second, .unset, .unset, .unset, .unset, .unset, .unset] [(.int (p2 &&& (2147483647 : Int32)))])) (fun t k => XS.iand Xj14.here hx rfl (hb hby at_17) rfl k) ?_
    refine own_go (B := Tj14.setTop (mkF m 21 #[.val (.long q1), .second, .val (.int p2), .val (.long vn), .second, .unset, .unset, .unset, .unset, .unset, .unset] [(.int (255 : Int32)), (.int (p2 &&& (2147483647 : Int32)))])) (fun t k => XS.sipush Xj14.here hx rfl (hb hby at_18) k) ?_
    refine own_go (B := Tj14.setTop (mkF m 22 #[.val (.long q1), .second, .val (.int p2), .val (.long vn), .second, .unset, .unset, .unset, .unset, .unset, .unset] [(.int ((p2 &&& (2147483647 : Int32)) % (255 : Int32)))])) (fun t k => own_irem Xj14.here hx rfl (hb hby at_21) rfl (by decide) k) ?_
    refine own_go (B := Tj14.setTop (mkF m 23 #[.val (.long q1), .second, .val (.int p2), .val (.long vn), .second, .unset, .unset, .unset, .unset, .unset, .unset] [(.int (1 : Int32)), (.int ((p2 &&& (2147483647 : Int32)) % (255 : Int32)))])) (fun t k => XS.iconst Xj14.here hx rfl (hb hby at_22) k) ?_
    refine own_go (B := Tj14.setTop (mkF m 24 #[.val (.long q1), .second, .val (.int p2), .val (.long vn), .second, .unset, .unset, .unset, .unset, .unset, .unset] [(.int (((p2 &&& (2147483647 : Int32)) % (255 : Int32)) + (1 : Int32)))])) (fun t k => XS.iadd Xj14.here hx rfl (hb hby at_23) rfl k) ?_
    obtain ⟨vi, hvi⟩ : ∃ z : Int32, z = (((p2 &&& (2147483647 : Int32)) % (255 : Int32)) + (1 : Int32)) := ⟨_, rfl⟩
    rw [← hvi]
    have hid := own_id _ vi hvi
    refine own_go (B := Tj14.setTop (mkF m 26 #[.val (.long q1), .second, .val (.int p2), .val (.long vn), .second, .val (.int vi), .unset, .unset, .unset, .unset, .unset] [])) (fun t k => XS.istore Xj14.here hx rfl (hb hby at_24) rfl (l' := #[.val (.long q1), .second, .val (.int p2), .val (.long vn), .second, .val (.int vi), .unset, .unset, .unset, .unset, .unset]) rfl k) ?_
    obtain ⟨T8, h8, X8, e8, E8, A8, D8, -, st8⟩ := newO Xj14 hx hZ hown (own_w hw 2 rfl) (own_w hw 3 rfl) (own_w hw 4 rfl) ej14 (g := (mkF m 26 #[.val (.long q1), .second, .val (.int p2), .val (.long vn), .second, .val (.int vi), .unset, .unset, .unset, .unset, .unset] [])) rfl (hb hby at_26) (by decide) (by decide)
    obtain ⟨b8, g8⟩ : ∃ z, z = h0.size := ⟨_, rfl⟩
    rw [← g8] at A8 D8 st8
    have g_b8 : n0 ≤ b8 := Nat.le_trans Zs (Nat.le_of_eq g8.symm)
    have Zs := Nat.le_trans Zs E8.1
    have E_b8 := A8
    have F_b8_number : Fld Z h8 b8 "com/example/vesta/vesta/protocol/Ticket" "number" "J" (.long (0 : Int64)) := D8 (Or.inr (own_w hw 21 rfl)) (ty := .long) (by decide)
    have F_b8_memberId : Fld Z h8 b8 "com/example/vesta/vesta/protocol/Ticket" "memberId" "I" (.int (0 : Int32)) := D8 (Or.inr (own_w hw 23 rfl)) (ty := .int) (by decide)
    refine own_go (B := T8.setTop (mkF m 29 #[.val (.long q1), .second, .val (.int p2), .val (.long vn), .second, .val (.int vi), .unset, .unset, .unset, .unset, .unset] [(.ref b8)])) (fun t k => st8 _ k) ?_
    refine own_go (B := T8.setTop (mkF m 30 #[.val (.long q1), .second, .val (.int p2), .val (.long vn), .second, .val (.int vi), .unset, .unset, .unset, .unset, .unset] [(.ref b8), (.ref b8)])) (fun t k => XS.dup X8.here hx rfl (hb hby at_29) rfl rfl k) ?_
    refine own_go (B := T8.setTop (mkF m 31 #[.val (.long q1), .second, .val (.int p2), .val (.long vn), .second, .val (.int vi), .unset, .unset, .unset, .unset, .unset] [(.long vn), (.ref b8), (.ref b8)])) (fun t k => XS.lloadN X8.here hx rfl (hb hby at_30) rfl k) ?_
    refine own_go (B := T8.setTop (mkF m 33 #[.val (.long q1), .second, .val (.int p2), .val (.long vn), .second, .val (.int vi), .unset, .unset, .unset, .unset, .unset] [(.int vi), (.long vn), (.ref b8), (.ref b8)])) (fun t k => XS.iload X8.here hx rfl (hb hby at_31) rfl k) ?_
    obtain ⟨_, _, ⟨T9, La9, ka9, na9⟩, -, X9, ⟨Lc9, hQ9, l9, y9, z9⟩, st9⟩ := X8.specialBack hx (y := (⟨"com/example/vesta/vesta/protocol/Ticket", "<init>", "(JI)V"⟩ : MethodName)) rfl hown (mvT hZ (own_w hw 5 rfl)) (mvT hZ (own_w hw 6 rfl)) (mvT hZ (own_w hw 7 rfl)) (by decide) (backOf (W := 1) (rm1 l Z a0 hw [] b8 vn vi h8 n0 Zs E_b8 F_b8_number F_b8_memberId g_b8 hnum hid) hZ (own_w hw 7 rfl) (own_w hw 4 rfl) (by decide) (by decide)) (g := (mkF m 33 #[.val (.long q1), .second, .val (.int p2), .val (.long vn), .second, .val (.int vi), .unset, .unset, .unset, .unset, .unset] [(.int vi), (.long vn), (.ref b8), (.ref b8)])) rfl (by rw [hml]; rfl) (Steps.refl _) (a := b8) (argsL := [(.long vn), (.int vi)]) (rest := [(.ref b8)]) (lenOf pd_2 rfl) rfl (by show 2 * 0 + _ ≤ _; exact Nat.le_of_eq rfl) (hb hby at_33) (fun _ _ => ⟨rfl, e8, (by decide : 1 + 0 ≤ _), (by decide : 2 + 0 ≤ _)⟩)
    dsimp only [Pt.U, Pt.locs, Pt.cells, Pt.slots] at X9 l9 y9 z9 st9 hQ9
    subst l9 y9 z9
    obtain ⟨rfl, N9q, Kc9, E_b8_q, F_b8_number_q, F_b8_memberId_q⟩ := hQ9
    have N9 := Fr.app Nj14 N9q
    have Zs := Nat.le_trans Zs Kc9.1
    have E_b8 := E_b8_q
    have F_b8_number := F_b8_number_q
    have F_b8_memberId := F_b8_memberId_q
    refine own_go (B := T9.setTop (mkF m 36 #[.val (.long q1), .second, .val (.int p2), .val (.long vn), .second, .val (.int vi), .unset, .unset, .unset, .unset, .unset] [(.ref b8)])) (fun t k => own_st st9 k) ?_
    refine own_go (B := T9.setTop (mkF m 38 #[.val (.long q1), .second, .val (.int p2), .val (.long vn), .second, .val (.int vi), .val (.ref b8), .unset, .unset, .unset, .unset] [])) (fun t k => XS.astore X9.here hx rfl (hb hby at_36) rfl rfl (l' := #[.val (.long q1), .second, .val (.int p2), .val (.long vn), .second, .val (.int vi), .val (.ref b8), .unset, .unset, .unset, .unset]) rfl k) ?_
    refine own_go (B := T9.setTop (mkF m 40 #[.val (.long q1), .second, .val (.int p2), .val (.long vn), .second, .val (.int vi), .val (.ref b8), .unset, .unset, .unset, .unset] [(.ref b8)])) (fun t k => XS.aload X9.here hx rfl (hb hby at_38) rfl rfl k) ?_
    obtain ⟨cq10, kq10, q10a, q10b, q10c⟩ := isOf hZ rfl E_b8
    obtain ⟨_, _, ⟨T10, La10, ka10, na10⟩, -, X10, ⟨Lc10, hQ10, l10, y10, z10⟩, st10⟩ := X9.virtualBack hx (y := (⟨"com/example/vesta/vesta/protocol/Ticket", "fencingToken", "()J"⟩ : MethodName)) (z := (⟨"com/example/vesta/vesta/protocol/Ticket", "fencingToken", "()J"⟩ : MethodName)) hown (mvT hZ (own_w hw 24 rfl)) (mvT hZ (own_w hw 25 rfl)) (notFace_of_selects (args := #[]) (mvT hZ (own_w hw 27 rfl))) (mvT hZ (own_w hw 27 rfl)) (mvT hZ (own_w hw 26 rfl)) (by decide) (backOf (W := 0) (rm5 l Z a0 hw [] b8 vn vi T9.heap n0 Zs F_b8_number F_b8_memberId) hZ (own_w hw 28 rfl) (own_w hw 4 rfl) (by decide) (by decide)) q10a q10c (g := (mkF m 40 #[.val (.long q1), .second, .val (.int p2), .val (.long vn), .second, .val (.int vi), .val (.ref b8), .unset, .unset, .unset, .unset] [(.ref b8)])) rfl (by rw [hml]; rfl) (Steps.refl _) (argsL := []) (rest := []) (lenOf pd_3 rfl) rfl (by show 2 * 0 + _ ≤ _; exact Nat.le_of_eq rfl) (hb hby at_40) (fun _ _ => ⟨rfl, rfl, (by decide : 1 + 0 ≤ _), (by decide : 2 + 0 ≤ _)⟩)
    dsimp only [Pt.U, Pt.locs, Pt.cells, Pt.slots] at X10 l10 y10 z10 st10 hQ10
    subst l10 y10 z10
    obtain ⟨rfl, N10q, e10⟩ := hQ10
    have N10 := Fr.app N9 N10q
    refine own_go (B := T10.setTop (mkF m 43 #[.val (.long q1), .second, .val (.int p2), .val (.long vn), .second, .val (.int vi), .val (.ref b8), .unset, .unset, .unset, .unset] [(.long ((vn * (256 : Int64)) + (vi.toInt64)))])) (fun t k => own_st st10 k) ?_
    refine own_go (B := T10.setTop (mkF m 45 #[.val (.long q1), .second, .val (.int p2), .val (.long vn), .second, .val (.int vi), .val (.ref b8), .val (.long ((vn * (256 : Int64)) + (vi.toInt64))), .second, .unset, .unset] [])) (fun t k => XS.lstore X10.here hx rfl (hb hby at_43) rfl (l' := #[.val (.long q1), .second, .val (.int p2), .val (.long vn), .second, .val (.int vi), .val (.ref b8), .val (.long ((vn * (256 : Int64)) + (vi.toInt64))), .second, .unset, .unset]) rfl k) ?_
    refine own_go (B := T10.setTop (mkF m 46 #[.val (.long q1), .second, .val (.int p2), .val (.long vn), .second, .val (.int vi), .val (.ref b8), .val (.long ((vn * (256 : Int64)) + (vi.toInt64))), .second, .unset, .unset] [(.long vn)])) (fun t k => XS.lloadN X10.here hx rfl (hb hby at_45) rfl k) ?_
    refine own_go (B := T10.setTop (mkF m 48 #[.val (.long q1), .second, .val (.int p2), .val (.long vn), .second, .val (.int vi), .val (.ref b8), .val (.long ((vn * (256 : Int64)) + (vi.toInt64))), .second, .unset, .unset] [(.int (8 : Int32)), (.long vn)])) (fun t k => XS.bipush X10.here hx rfl (hb hby at_46) k) ?_
    refine own_go (B := T10.setTop (mkF m 49 #[.val (.long q1), .second, .val (.int p2), .val (.long vn), .second, .val (.int vi), .val (.ref b8), .val (.long ((vn * (256 : Int64)) + (vi.toInt64))), .second, .unset, .unset] [(.long (vn <<< ((8 : Int32) &&& 0x3f).toInt64))])) (fun t k => XS.lshl X10.here hx rfl (hb hby at_48) rfl k) ?_
    refine own_go (B := T10.setTop (mkF m 51 #[.val (.long q1), .second, .val (.int p2), .val (.long vn), .second, .val (.int vi), .val (.ref b8), .val (.long ((vn * (256 : Int64)) + (vi.toInt64))), .second, .unset, .unset] [(.int vi), (.long (vn <<< ((8 : Int32) &&& 0x3f).toInt64))])) (fun t k => XS.iload X10.here hx rfl (hb hby at_49) rfl k) ?_
    refine own_go (B := T10.setTop (mkF m 52 #[.val (.long q1), .second, .val (.int p2), .val (.long vn), .second, .val (.int vi), .val (.ref b8), .val (.long ((vn * (256 : Int64)) + (vi.toInt64))), .second, .unset, .unset] [(.long (vi.toInt64)), (.long (vn <<< ((8 : Int32) &&& 0x3f).toInt64))])) (fun t k => XS.i2l X10.here hx rfl (hb hby at_51) rfl k) ?_
    refine own_go (B := T10.setTop (mkF m 53 #[.val (.long q1), .second, .val (.int p2), .val (.long vn), .second, .val (.int vi), .val (.ref b8), .val (.long ((vn * (256 : Int64)) + (vi.toInt64))), .second, .unset, .unset] [(.long ((vn <<< ((8 : Int32) &&& 0x3f).toInt64) ||| (vi.toInt64)))])) (fun t k => XS.lor X10.here hx rfl (hb hby at_52) rfl k) ?_
    refine own_go (B := T10.setTop (mkF m 55 #[.val (.long q1), .second, .val (.int p2), .val (.long vn), .second, .val (.int vi), .val (.ref b8), .val (.long ((vn * (256 : Int64)) + (vi.toInt64))), .second, .val (.long ((vn <<< ((8 : Int32) &&& 0x3f).toInt64) ||| (vi.toInt64))), .second] [])) (fun t k => XS.lstore X10.here hx rfl (hb hby at_53) rfl (l' := #[.val (.long q1), .second, .val (.int p2), .val (.long vn), .second, .val (.int vi), .val (.ref b8), .val (.long ((vn * (256 : Int64)) + (vi.toInt64))), .second, .val (.long ((vn <<< ((8 : Int32) &&& 0x3f).toInt64) ||| (vi.toInt64))), .second]) rfl k) ?_
    refine own_go (B := T10.setTop (mkF m 57 #[.val (.long q1), .second, .val (.int p2), .val (.long vn), .second, .val (.int vi), .val (.ref b8), .val (.long ((vn * (256 : Int64)) + (vi.toInt64))), .second, .val (.long ((vn <<< ((8 : Int32) &&& 0x3f).toInt64) ||| (vi.toInt64))), .second] [(.long ((vn * (256 : Int64)) + (vi.toInt64)))])) (fun t k => XS.lload X10.here hx rfl (hb hby at_55) rfl k) ?_
    refine own_go (B := T10.setTop (mkF m 59 #[.val (.long q1), .second, .val (.int p2), .val (.long vn), .second, .val (.int vi), .val (.ref b8), .val (.long ((vn * (256 : Int64)) + (vi.toInt64))), .second, .val (.long ((vn <<< ((8 : Int32) &&& 0x3f).toInt64) ||| (vi.toInt64))), .second] [(.long ((vn <<< ((8 : Int32) &&& 0x3f).toInt64) ||| (vi.toInt64))), (.long ((vn * (256 : Int64)) + (vi.toInt64)))])) (fun t k => XS.lload X10.here hx rfl (hb hby at_57) rfl k) ?_
    refine own_go (B := T10.setTop (mkF m 60 #[.val (.long q1), .second, .val (.int p2), .val (.long vn), .second, .val (.int vi), .val (.ref b8), .val (.long ((vn * (256 : Int64)) + (vi.toInt64))), .second, .val (.long ((vn <<< ((8 : Int32) &&& 0x3f).toInt64) ||| (vi.toInt64))), .second] [(.int (lcmpW ((vn * (256 : Int64)) + (vi.toInt64)) ((vn <<< ((8 : Int32) &&& 0x3f).toInt64) ||| (vi.toInt64))))])) (fun t k => XS.lcmp X10.here hx rfl (hb hby at_59) rfl k) ?_
    refine own_go (B := T10.setTop (mkF m 63 #[.val (.long q1), .second, .val (.int p2), .val (.long vn), .second, .val (.int vi), .val (.ref b8), .val (.long ((vn * (256 : Int64)) + (vi.toInt64))), .second, .val (.long ((vn <<< ((8 : Int32) &&& 0x3f).toInt64) ||| (vi.toInt64))), .second] [])) (fun t k => XS.ifNo X10.here hx rfl (hb hby at_60) rfl ((if0 _ _).trans (teq ((lw_eq ((vn * (256 : Int64)) + (vi.toInt64)) ((vn <<< ((8 : Int32) &&& 0x3f).toInt64) ||| (vi.toInt64))).mpr (own_tok vn vi hnum hid))).2) k) ?_
    refine own_go (B := T10.setTop (mkF m 64 #[.val (.long q1), .second, .val (.int p2), .val (.long vn), .second, .val (.int vi), .val (.ref b8), .val (.long ((vn * (256 : Int64)) + (vi.toInt64))), .second, .val (.long ((vn <<< ((8 : Int32) &&& 0x3f).toInt64) ||| (vi.toInt64))), .second] [(.int (1 : Int32))])) (fun t k => XS.iconst X10.here hx rfl (hb hby at_63) k) ?_
    refine own_go (B := T10.setTop (mkF m 68 #[.val (.long q1), .second, .val (.int p2), .val (.long vn), .second, .val (.int vi), .val (.ref b8), .val (.long ((vn * (256 : Int64)) + (vi.toInt64))), .second, .val (.long ((vn <<< ((8 : Int32) &&& 0x3f).toInt64) ||| (vi.toInt64))), .second] [(.int (1 : Int32))])) (fun t k => XS.goto X10.here hx rfl (pc0 := 64) (pc' := 68) rfl (hb hby at_64) (by decide) (by decide) k) ?_
    refine own_out X10 (v := (some (.int (1 : Int32)))) (fun h => by rw [Bd.returns] at h; cases h) Bd.notSynchronized (fun fs hr => retOut X10 hx (t := .boolean) Bd.returns rfl (by first | exact Or.inl ⟨rfl, by simp, _, rfl⟩) (hb hby at_68) hr) ?_ (by decide) (by decide)
    show own_Q0 Z q1 p2 h0 n0 (some (.int (1 : Int32))) T10.heap _
    rw [e10]
    exact ⟨rfl, N10⟩
  refine own_go (B := s₁.setTop (mkF m 7 #[.val (.long q1), .second, .val (.int p2), .val (.long (q1 &&& (36028797018963967 : Int64))), .second, .unset, .unset, .unset, .unset, .unset, .unset] [(.long (q1 &&& (36028797018963967 : Int64)))])) (fun t k => XS.lloadN X0.here hx rfl (hb hby at_6) rfl k) ?_
  refine own_go (B := s₁.setTop (mkF m 8 #[.val (.long q1), .second, .val (.int p2), .val (.long (q1 &&& (36028797018963967 : Int64))), .second, .unset, .unset, .unset, .unset, .unset, .unset] [(.long (0 : Int64)), (.long (q1 &&& (36028797018963967 : Int64)))])) (fun t k => XS.lconst X0.here hx rfl (hb hby at_7) k) ?_
  refine own_go (B := s₁.setTop (mkF m 9 #[.val (.long q1), .second, .val (.int p2), .val (.long (q1 &&& (36028797018963967 : Int64))), .second, .unset, .unset, .unset, .unset, .unset, .unset] [(.int (lcmpW (q1 &&& (36028797018963967 : Int64)) (0 : Int64)))])) (fun t k => XS.lcmp X0.here hx rfl (hb hby at_8) rfl k) ?_
  by_cases hc9_11 : (q1 &&& (36028797018963967 : Int64)) = (0 : Int64)
  · refine own_go (B := s₁.setTop (mkF m 12 #[.val (.long q1), .second, .val (.int p2), .val (.long (q1 &&& (36028797018963967 : Int64))), .second, .unset, .unset, .unset, .unset, .unset, .unset] [])) (fun t k => XS.ifNo X0.here hx rfl (hb hby at_9) rfl ((if0 _ _).trans (teq ((lw_eq (q1 &&& (36028797018963967 : Int64)) (0 : Int64)).mpr hc9_11)).2) k) ?_
    refine own_go (B := s₁.setTop (mkF m 13 #[.val (.long q1), .second, .val (.int p2), .val (.long (q1 &&& (36028797018963967 : Int64))), .second, .unset, .unset, .unset, .unset, .unset, .unset] [(.long (1 : Int64))])) (fun t k => XS.lconst X0.here hx rfl (hb hby at_12) k) ?_
    refine own_go (B := s₁.setTop (mkF m 14 #[.val (.long q1), .second, .val (.int p2), .val (.long (1 : Int64)), .second, .unset, .unset, .unset, .unset, .unset, .unset] [])) (fun t k => XS.lstoreN X0.here hx rfl (hb hby at_13) rfl (l' := #[.val (.long q1), .second, .val (.int p2), .val (.long (1 : Int64)), .second, .unset, .unset, .unset, .unset, .unset, .unset]) rfl k) ?_
    exact J14 s₁ _ X0 e0 N0 (1 : Int64) (own_num _ (by decide))
  · refine own_go (B := s₁.setTop (mkF m 14 #[.val (.long q1), .second, .val (.int p2), .val (.long (q1 &&& (36028797018963967 : Int64))), .second, .unset, .unset, .unset, .unset, .unset, .unset] [])) (fun t k => XS.ifYes X0.here hx rfl (pc0 := 9) (pc' := 14) rfl (hb hby at_9) rfl ((if0 _ _).trans (feq (mt (lw_eq (q1 &&& (36028797018963967 : Int64)) (0 : Int64)).mp hc9_11)).2) (by decide) (by decide) k) ?_
    exact J14 s₁ _ X0 e0 N0 (q1 &&& (36028797018963967 : Int64)) (own_num _ (by have := own_nm q1; have e : ¬ ((q1 &&& (36028797018963967 : Int64)).toInt = 0) := fun z => hc9_11 (Int64.toInt_inj.mp z); omega))
set_option maxRecDepth 65536 in
set_option maxHeartbeats 40000000 in
theorem comes_1 {Post : Tables → Env → Array Value → State → Outcome → State → Prop} (hpost : ∀ tb e args s v u, (limb_1_1.after args s (.returned v) u = true ∧ limb_1_2.after args s (.returned v) u = true ∧ True) → FrameEnd s (.returned v) u (Jvm.fieldLocs frame_1_writes args s ++ Jvm.arrayLocs frame_1_arrays args s ++ Jvm.staticLocs frame_1_statics s) 16 128 → Post tb e args s (.returned v) u) :
    ArmFor flags0 classFile x code maxLocals ret World_1 tables_1 room_1 Calls_1 rest_1 Pre_1 Post := by
  intro l hfl _ _ p e ha hc hk s m args below hf hA hF happ hP
  obtain ⟨hcalls, hrest, hpre⟩ := hP
  obtain ⟨-, -, -, hnamed, -, -, -, hat⟩ := (Spec.applies_iff hf).mp happ
  obtain ⟨hg, hn⟩ := and_e (Cond.before_iff.mp (show (Jvm.Cond.and given_1 narrow_1).before args s = true from hpre))
  obtain ⟨g1a, g1b⟩ := and_e hg
  obtain ⟨g2a, g2b⟩ := and_e g1b
  obtain ⟨w0, w1, rfl⟩ : ∃ w0 w1 : Value, args = #[w0, w1] := by
    have hs : args.size = 2 := by simpa [Cond.value, given_1] using g1a
    obtain ⟨L⟩ := args
    match L, hs with
    | [w0, w1], _ => exact ⟨w0, w1, rfl⟩
  have hw := fun d (hd : d ∈ tables_1) => atoms_spec (ws := Jvm.Cond.code x code maxLocals ret :: tables_1) hat d (List.mem_cons_of_mem _ hd)
  obtain ⟨i0, ei0⟩ := isL_v g2a
  obtain rfl : w0 = (.long i0) := Option.some.inj ei0
  obtain ⟨i1, ei1⟩ := is_v g2b
  obtain rfl : w1 = (.int i1) := Option.some.inj ei1
  obtain ⟨n, o, h1, h2, h3, _, L, rfl, ⟨rfl, N⟩, hq⟩ := rm0 l s _ hw tables_1 i0 i1 s.heap s.heap.size (Nat.le_refl _) p e ha hc hk s m _ below hf ((Spec.applies_iff_loose hf).mp happ).1 ⟨rfl, State.Warmed39.refl s, rfl⟩ trivial
  refine ⟨n, _, h1, h2, h3, hpost _ _ _ _ _ _ ⟨Cond.after_iff.mpr rfl, Cond.after_iff.mpr (eq_i res_at (Term.int_eval (1)) rfl), trivial⟩ ⟨hq.1, hq.2.1, (hq.2.2.sift fun y hy => Or.inr (N y hy)).mono (by decide) (by decide)⟩⟩
theorem main_1_1 : Claimed_1_1 := comes_1 fun _ _ _ _ _ _ h hF => ⟨h.1, hF⟩
theorem main_1_2 : Claimed_1_2 := comes_1 fun _ _ _ _ _ _ h hF => ⟨h.2.1, hF⟩
end Jvm.Pilot.@@N@@
namespace Jvm.Pilot.@@N@@
open Jvm Jvm.ClassFile Sem Op Lib Jvm.Free Jvm.Stand Jvm.Pilot.@@N@@.Jvm.D
/-! MADE BY PROGRAM (witnessworld.py) out of the Statement's table words and the real class files: 11 classes; the members and pool entries that the words name. The judged class is class 1, her method 1. -/
namespace start1
open Jvm.ClassFile
def u (s : String) : CpInfo := .utf8 (stringToUtf16 s)
/-- a pool by its gaps: so many unusable entries, then the entry; so many at the end -/
def gap : Nat → List CpInfo → List CpInfo
  | 0, r => r
  | n + 1, r => .unusable :: gap n r
def poolList (es : List (Nat × CpInfo)) (last : Nat) : List CpInfo := es.foldr (fun e r => gap e.1 (e.2 :: r)) (gap last [])
def pool (es : List (Nat × CpInfo)) (last : Nat) : Array CpInfo := ⟨poolList es last⟩
def fileOf (pool : Array CpInfo) (this : Nat) (attrs : Array Attribute := #[]) (ms : Array MethodInfo := #[]) (fl : Nat := 33) (sup : Nat := 0) (ifs : Array Nat := #[]) (fds : Array FieldInfo := #[]) : ClassFile where
  minorVersion := 0
  majorVersion := 65
  constantPool := pool
  accessFlags := fl
  thisClass := this
  superClass := sup
  interfaces := ifs
  fields := fds
  methods := ms
  attributes := attrs
def plain (name : String) (sup : Option ClassId) : Class where
  name := name
  kind := .ordinary
  loader := none
  accessFlags := 33
  super := sup
  interfaces := #[]
  cf := none
  fields := #[]
  methods := #[]
  instanceTypes := #[]
  staticTypes := #[]
  resolved := #[]
  callSites := []
  init := .initialized
  statics := none
  mirror := none

def pool0 : Array CpInfo := pool [(5, u "<init>"), (0, u "()V"), (1, .class_ 10), (1, u "java/lang/Object")] 113

def k0c0 : Code := { maxStack := 0, maxLocals := 1, code := object_method_1_code, exceptionTable := #[], attributes := #[] }
def k0m0 : Method := { name := "<init>", desc := "()V", sig := { parameters := [], returnType := none }, accessFlags := 1, code := some k0c0 }
/-- java/lang/Object -/
def k0 : Class := { plain "java/lang/Object" none with
  accessFlags := 33
  interfaces := #[]
  cf := some (fileOf pool0 8 #[] #[{ accessFlags := 1, nameIndex := 5, descriptorIndex := 6, attributes := #[] }] 33 0 #[] #[])
  fields := #[]
  methods := #[k0m0]
  instanceTypes := #[]
  staticTypes := #[]
  resolved := Array.replicate 124 none
  statics := none }

def pool1 : Array CpInfo := pool [(2, .class_ 4), (1, u "java/lang/Object"), (0, u "<init>"), (0, u "()V"), (0, .class_ 8), (0, u "com/example/vesta/vesta/protocol/Ticket"), (0, .long 36028797018963967), (1, .integer 2147483647), (0, .methodref 7 13), (0, .nameAndType 5 14), (0, u "(JI)V"), (0, .methodref 7 16), (0, .nameAndType 17 18), (0, u "fencingToken"), (0, u "()J"), (0, .class_ 20), (0, u "com/example/vesta/vesta/protocol/TicketFencingTokenPinLaw"), (2, u "law"), (0, u "(JI)Z")] 3

def k1m0 : Method := { name := "<init>", desc := "()V", sig := { parameters := [], returnType := none }, accessFlags := 1, code := none }
def k1c1 : Code := { maxStack := 5, maxLocals := 11, code := code, exceptionTable := #[], attributes := #[] }
def k1m1 : Method := { name := "law", desc := "(JI)Z", sig := { parameters := [.long, .int], returnType := some .boolean }, accessFlags := 9, code := some k1c1 }
/-- com/example/vesta/vesta/protocol/TicketFencingTokenPinLaw -/
def k1 : Class := { plain "com/example/vesta/vesta/protocol/TicketFencingTokenPinLaw" (some 0) with
  accessFlags := 49
  interfaces := #[]
  cf := some (fileOf pool1 19 #[] #[{ accessFlags := 1, nameIndex := 5, descriptorIndex := 6, attributes := #[] }, { accessFlags := 9, nameIndex := 23, descriptorIndex := 24, attributes := #[] }] 49 2 #[] #[])
  fields := #[]
  methods := #[k1m0, k1m1]
  instanceTypes := #[]
  staticTypes := #[]
  resolved := Array.replicate 28 none
  statics := none }

def pool2 : Array CpInfo := pool [(1, .methodref 2 3), (0, .class_ 4), (0, .nameAndType 5 6), (0, u "java/lang/Object"), (0, u "<init>"), (0, u "()V"), (0, .class_ 8), (0, u "java/lang/Record")] 13

def k2c0 : Code := { maxStack := 1, maxLocals := 1, code := jdk_30_method_1_code, exceptionTable := #[], attributes := #[] }
def k2m0 : Method := { name := "<init>", desc := "()V", sig := { parameters := [], returnType := none }, accessFlags := 4, code := some k2c0 }
/-- java/lang/Record -/
def k2 : Class := { plain "java/lang/Record" (some 0) with
  accessFlags := 1057
  interfaces := #[]
  cf := some (fileOf pool2 7 #[] #[{ accessFlags := 4, nameIndex := 5, descriptorIndex := 6, attributes := #[] }] 1057 2 #[] #[])
  fields := #[]
  methods := #[k2m0]
  instanceTypes := #[]
  staticTypes := #[]
  resolved := Array.replicate 22 none
  statics := none }

def pool3 : Array CpInfo := pool [(1, .class_ 2), (0, u "java/lang/Comparable"), (0, .class_ 4), (0, u "java/lang/Object")] 7

/-- java/lang/Comparable -/
def k3 : Class := { plain "java/lang/Comparable" (some 0) with
  accessFlags := 1537
  interfaces := #[]
  cf := some (fileOf pool3 1 #[] #[] 1537 3 #[] #[])
  fields := #[]
  methods := #[]
  instanceTypes := #[]
  staticTypes := #[]
  resolved := Array.replicate 12 none
  statics := none }

def pool4 : Array CpInfo := pool [(1, .class_ 2), (0, u "com/example/vesta/vesta/protocol/Ticket"), (2, .methodref 6 7), (0, .class_ 8), (0, .nameAndType 9 10), (0, u "java/lang/Record"), (0, u "<init>"), (0, u "()V"), (0, .long 36028797018963967), (10, .methodref 1 23), (0, .nameAndType 24 25), (0, u "checkMemberId"), (0, u "(I)I"), (0, .fieldref 1 27), (0, .nameAndType 28 29), (0, u "number"), (0, u "J"), (0, .fieldref 1 31), (0, .nameAndType 32 33), (0, u "memberId"), (0, u "I"), (3, .long 256), (3, u "(JI)V"), (24, .class_ 67), (0, u "java/lang/Comparable"), (0, u "MIN_MEMBER_ID"), (2, u "MAX_MEMBER_ID"), (1, u "TOKEN_RADIX"), (1, u "MAX_NUMBER"), (4, u "fencingToken"), (0, u "()J")] 39

def k4c0 : Code := { maxStack := 4, maxLocals := 4, code := prog_19_method_1_code, exceptionTable := #[], attributes := #[] }
def k4m0 : Method := { name := "<init>", desc := "(JI)V", sig := { parameters := [.long, .int], returnType := none }, accessFlags := 1, code := some k4c0 }
def k4c1 : Code := { maxStack := 3, maxLocals := 1, code := prog_19_method_2_code, exceptionTable := #[], attributes := #[] }
def k4m1 : Method := { name := "checkMemberId", desc := "(I)I", sig := { parameters := [.int], returnType := some .int }, accessFlags := 9, code := some k4c1 }
def k4c2 : Code := { maxStack := 4, maxLocals := 1, code := prog_19_method_3_code, exceptionTable := #[], attributes := #[] }
def k4m2 : Method := { name := "fencingToken", desc := "()J", sig := { parameters := [], returnType := some .long }, accessFlags := 1, code := some k4c2 }
/-- com/example/vesta/vesta/protocol/Ticket -/
def k4 : Class := { plain "com/example/vesta/vesta/protocol/Ticket" (some 2) with
  accessFlags := 49
  interfaces := #[3]
  cf := some (fileOf pool4 1 #[] #[{ accessFlags := 1, nameIndex := 9, descriptorIndex := 41, attributes := #[] }, { accessFlags := 9, nameIndex := 24, descriptorIndex := 25, attributes := #[] }, { accessFlags := 1, nameIndex := 80, descriptorIndex := 81, attributes := #[] }] 49 6 #[66] #[{ accessFlags := 18, nameIndex := 28, descriptorIndex := 29, attributes := #[] }, { accessFlags := 18, nameIndex := 32, descriptorIndex := 33, attributes := #[] }, { accessFlags := 25, nameIndex := 68, descriptorIndex := 33, attributes := #[] }, { accessFlags := 25, nameIndex := 71, descriptorIndex := 33, attributes := #[] }, { accessFlags := 26, nameIndex := 73, descriptorIndex := 33, attributes := #[] }, { accessFlags := 25, nameIndex := 75, descriptorIndex := 29, attributes := #[] }])
  fields := #[{ name := "number", type := .long, accessFlags := 18, slot := 0, constantValue := 0 }, { name := "memberId", type := .int, accessFlags := 18, slot := 1, constantValue := 0 }, { name := "MIN_MEMBER_ID", type := .int, accessFlags := 25, slot := 0, constantValue := 0 }, { name := "MAX_MEMBER_ID", type := .int, accessFlags := 25, slot := 1, constantValue := 0 }, { name := "TOKEN_RADIX", type := .int, accessFlags := 26, slot := 2, constantValue := 0 }, { name := "MAX_NUMBER", type := .long, accessFlags := 25, slot := 3, constantValue := 0 }]
  methods := #[k4m0, k4m1, k4m2]
  instanceTypes := #[.long, .int]
  staticTypes := #[.int, .int, .int, .long]
  resolved := Array.replicate 121 none
  statics := none }

def pool5 : Array CpInfo := pool [(1, u "java/lang/Cloneable"), (0, .class_ 1), (0, u "java/lang/Object"), (0, .class_ 3)] 3

/-- java/lang/Cloneable -/
def k5 : Class := { plain "java/lang/Cloneable" (some 0) with
  accessFlags := 1537
  interfaces := #[]
  cf := some (fileOf pool5 2 #[] #[] 1537 4 #[] #[])
  fields := #[]
  methods := #[]
  instanceTypes := #[]
  staticTypes := #[]
  resolved := Array.replicate 8 none
  statics := none }

def pool6 : Array CpInfo := pool [(1, u "java/io/Serializable"), (0, .class_ 1), (0, u "java/lang/Object"), (0, .class_ 3)] 3

/-- java/io/Serializable -/
def k6 : Class := { plain "java/io/Serializable" (some 0) with
  accessFlags := 1537
  interfaces := #[]
  cf := some (fileOf pool6 2 #[] #[] 1537 4 #[] #[])
  fields := #[]
  methods := #[]
  instanceTypes := #[]
  staticTypes := #[]
  resolved := Array.replicate 8 none
  statics := none }

/-- the primitive byte -/
def k7 : Class := { plain "byte" none with kind := .primitive 'B', accessFlags := 0x411 }
/-- [B -/
def k8 : Class := { plain "[B" (some 0) with kind := .array 7 .byte, interfaces := #[5, 6], accessFlags := 1041 }

/-- the primitive int -/
def k9 : Class := { plain "int" none with kind := .primitive 'I', accessFlags := 0x411 }
/-- [I -/
def k10 : Class := { plain "[I" (some 0) with kind := .array 9 .int, interfaces := #[5, 6], accessFlags := 1041 }

def heap : Heap := #[]
def classes : Array Class := #[k0, k1, k2, k3, k4, k5, k6, k7, k8, k9, k10]
def interned : List (Array UInt16 × Addr) := []
def slotsUsed : Nat := 0
def theMethod : MethodId := ⟨1, 1⟩
def args0 : Array Value := #[.long 5, .int 5]
def aboutOver (below : List Frame) : State where
  vm := { classes := classes, interned := interned.toArray }
  heap := heap
  slotsUsed := slotsUsed
  threads := #[{ frames := .invoking theMethod args0 :: below }]
def below0 : List Frame := [.native { method := ⟨0, 0⟩, args := #[] }]
def about1 : State := aboutOver below0
def p0 : Program := .bare "" "" ""
def e0 : Env := launch0.env 0 0 0
theorem w_frames : about1.frames = Frame.invoking theMethod args0 :: below0 := rfl
set_option maxRecDepth 65536 in
theorem w_args : argsFit about1.vm theMethod args0 = true := by decide +kernel
set_option maxRecDepth 65536 in
theorem w_heap : heapFits about1 = true := by decide +kernel
set_option maxRecDepth 65536 in
theorem w_runnable : about1.curStatus? = some .runnable := by decide +kernel
set_option maxRecDepth 65536 in
theorem w_alone : about1.alone = true := by decide +kernel
set_option maxRecDepth 65536 in
theorem w_named : about1.methodNamed? x = some theMethod := by decide +kernel
set_option maxRecDepth 65536 in
theorem w_hears : about1.hears theMethod below0 = true := by decide +kernel
set_option maxRecDepth 65536 in
theorem w_ripe : about1.ripe theMethod args0 below0 = true := by decide +kernel
theorem w_running : about1.status = .running := rfl
set_option maxRecDepth 65536 in
theorem w_room : about1.hasRoom e0.platform room_1 = true :=
  launch0.hasRoom_least _ room_1 (by decide +kernel) (by decide +kernel) (by decide +kernel) (by decide +kernel) (by decide +kernel) (by decide +kernel)
theorem allAtoms_all (ts : List Jvm.Cond) (a : Array Jvm.Value) (st : Jvm.State) : (allAtoms ts).before a st = ts.all (fun c => c.before a st) := by
  induction ts with
  | nil => rfl
  | cons c t ih =>
    show (Jvm.Cond.and c (allAtoms t)).before a st = _
    rw [Jvm.Cond.before_and, ih, List.all_cons]
def words1 : List Jvm.Cond := Jvm.Cond.code x code maxLocals ret :: tables_1
/-- a 'code' word, met by the world's own term for the bytes: nothing is compared byte by byte -/
theorem code_word {y : MethodName} {bytes : ByteArray} {mx : Nat} {rt : Option FieldType} {a : Array Value} {s : State} {m : MethodId} {meth : Method} {c : Code} (h1 : s.methodNamed? y = some m) (h2 : s.vm.method? m = some meth) (h3 : meth.code = some c) (h4 : c.code = bytes)
    (h5 : (c.maxLocals == mx && c.exceptionTable.isEmpty && decide (c.maxStack ≤ mostOperands) && decide (meth.sig.returnType = rt) && !meth.locks && decide (parseMethodDescriptor y.desc = some meth.sig)) = true) : (Jvm.Cond.code y bytes mx rt).before a s = true := by
  simp only [Bool.and_eq_true, beq_iff_eq, Bool.not_eq_true', decide_eq_true_eq] at h5
  obtain ⟨⟨⟨⟨⟨g1, g2⟩, g3⟩, g4⟩, g5⟩, g6⟩ := h5
  simp [Cond.before, Cond.holds, Cond.value, h1, h2, h3, h4, g1, g2, g3, g4, g5, g6]
def isCode : Jvm.Cond → Bool
  | .code _ _ _ _ => true
  | _ => false
theorem all_split {L : List Jvm.Cond} {P : Jvm.Cond → Bool} (h1 : L.all (fun c => isCode c || P c) = true) (h2 : ∀ c ∈ L.filter isCode, P c = true) : L.all P = true := by
  refine List.all_eq_true.mpr fun c hc => ?_
  have h := List.all_eq_true.mp h1 c hc
  rcases Bool.eq_false_or_eq_true (isCode c) with hi | hi
  · exact h2 c (List.mem_filter.mpr ⟨hc, hi⟩)
  · simpa [hi] using h
set_option maxRecDepth 65536 in
theorem w_c0 : (Jvm.Cond.code x code maxLocals ret).before args0 about1 = true := code_word (m := ⟨1, 1⟩) (meth := k1m1) (c := k1c1) (by decide +kernel) rfl rfl rfl (by decide +kernel)
set_option maxRecDepth 65536 in
theorem w_c1 : (Jvm.Cond.code ({ cls := "com/example/vesta/vesta/protocol/Ticket", name := "<init>", desc := "(JI)V" } : Jvm.MethodName) prog_19_method_1_code (4 : Nat) (Option.none : Option Jvm.ClassFile.FieldType)).before args0 about1 = true := code_word (m := ⟨4, 0⟩) (meth := k4m0) (c := k4c0) (by decide +kernel) rfl rfl rfl (by decide +kernel)
set_option maxRecDepth 65536 in
theorem w_c2 : (Jvm.Cond.code ({ cls := "java/lang/Record", name := "<init>", desc := "()V" } : Jvm.MethodName) jdk_30_method_1_code (1 : Nat) (Option.none : Option Jvm.ClassFile.FieldType)).before args0 about1 = true := code_word (m := ⟨2, 0⟩) (meth := k2m0) (c := k2c0) (by decide +kernel) rfl rfl rfl (by decide +kernel)
set_option maxRecDepth 65536 in
theorem w_c3 : (Jvm.Cond.code ({ cls := "java/lang/Object", name := "<init>", desc := "()V" } : Jvm.MethodName) object_method_1_code (1 : Nat) (Option.none : Option Jvm.ClassFile.FieldType)).before args0 about1 = true := code_word (m := ⟨0, 0⟩) (meth := k0m0) (c := k0c0) (by decide +kernel) rfl rfl rfl (by decide +kernel)
set_option maxRecDepth 65536 in
theorem w_c4 : (Jvm.Cond.code ({ cls := "com/example/vesta/vesta/protocol/Ticket", name := "checkMemberId", desc := "(I)I" } : Jvm.MethodName) prog_19_method_2_code (1 : Nat) (Option.some Jvm.ClassFile.FieldType.int)).before args0 about1 = true := code_word (m := ⟨4, 1⟩) (meth := k4m1) (c := k4c1) (by decide +kernel) rfl rfl rfl (by decide +kernel)
set_option maxRecDepth 65536 in
theorem w_c5 : (Jvm.Cond.code ({ cls := "com/example/vesta/vesta/protocol/Ticket", name := "fencingToken", desc := "()J" } : Jvm.MethodName) prog_19_method_3_code (1 : Nat) (Option.some Jvm.ClassFile.FieldType.long)).before args0 about1 = true := code_word (m := ⟨4, 2⟩) (meth := k4m2) (c := k4c2) (by decide +kernel) rfl rfl rfl (by decide +kernel)
def codes1 : List Jvm.Cond := [Jvm.Cond.code x code maxLocals ret, Jvm.Cond.code ({ cls := "com/example/vesta/vesta/protocol/Ticket", name := "<init>", desc := "(JI)V" } : Jvm.MethodName) prog_19_method_1_code (4 : Nat) (Option.none : Option Jvm.ClassFile.FieldType), Jvm.Cond.code ({ cls := "java/lang/Record", name := "<init>", desc := "()V" } : Jvm.MethodName) jdk_30_method_1_code (1 : Nat) (Option.none : Option Jvm.ClassFile.FieldType), Jvm.Cond.code ({ cls := "java/lang/Object", name := "<init>", desc := "()V" } : Jvm.MethodName) object_method_1_code (1 : Nat) (Option.none : Option Jvm.ClassFile.FieldType), Jvm.Cond.code ({ cls := "com/example/vesta/vesta/protocol/Ticket", name := "checkMemberId", desc := "(I)I" } : Jvm.MethodName) prog_19_method_2_code (1 : Nat) (Option.some Jvm.ClassFile.FieldType.int), Jvm.Cond.code ({ cls := "com/example/vesta/vesta/protocol/Ticket", name := "fencingToken", desc := "()J" } : Jvm.MethodName) prog_19_method_3_code (1 : Nat) (Option.some Jvm.ClassFile.FieldType.long)]
set_option maxRecDepth 65536 in
theorem codes_eq : words1.filter isCode = codes1 := rfl
theorem w_codes : ∀ c ∈ words1.filter isCode, c.before args0 about1 = true := by
  rw [codes_eq]
  intro c hc
  simp only [codes1, List.mem_cons, List.not_mem_nil, or_false] at hc
  rcases hc with rfl | rfl | rfl | rfl | rfl | rfl
  · exact w_c0
  · exact w_c1
  · exact w_c2
  · exact w_c3
  · exact w_c4
  · exact w_c5
set_option maxRecDepth 65536 in
theorem w_t1 : (words1.take 24).all (fun c => isCode c || c.before args0 about1) = true := by decide +kernel
set_option maxRecDepth 65536 in
theorem w_t2 : (words1.drop 24).all (fun c => isCode c || c.before args0 about1) = true := by decide +kernel
theorem w_tables : (allAtoms (Jvm.Cond.code x code maxLocals ret :: tables_1)).before args0 about1 = true := by
  rw [allAtoms_all]
  show words1.all (fun c => c.before args0 about1) = true
  refine all_split ?_ w_codes
  rw [← List.take_append_drop 24 words1, List.all_append, w_t1, w_t2]
  rfl
set_option maxRecDepth 65536 in
theorem w_case : (Jvm.Cond.and given_1 narrow_1).before args0 about1 = true := by decide +kernel
theorem w_applies : (headSpec (Jvm.Cond.code x code maxLocals ret :: tables_1) room_1).applies x e0.platform about1 = true :=
  (Spec.applies_iff w_frames).mpr ⟨w_running, w_runnable, w_alone, w_named, w_hears, w_ripe, w_room, w_tables⟩
theorem atStart : AtStart classFile x code maxLocals ret World_1 tables_1 room_1 Calls_1 rest_1 Pre_1 launch0 p0 e0 about1 theMethod args0 below0 :=
  ⟨lists_1, trivial, launch0.admits_env _ _ _, launch0.least_env, fairChoices_fair.cas, fairChoices_fair.clock, w_frames, w_args, w_heap, w_applies, trivial, trivial, w_case⟩
end start1
theorem witness_1 : WitnessClaimed_1 := ⟨start1.p0, start1.e0, start1.about1, start1.theMethod, start1.args0, start1.below0, start1.atStart⟩
end Jvm.Pilot.@@N@@
