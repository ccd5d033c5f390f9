import JvmDerived
import JvmDerived.Pilot.@@N@@Statement
import JvmDerived.Pilot.@@N@@Code
set_option linter.unusedVariables false
set_option linter.unusedSimpArgs false
namespace Jvm.Pilot.@@N@@
open Jvm Jvm.ClassFile Sem Op Lib Jvm.Free Jvm.Stand Jvm.LawKit Jvm.RoadKit Bundle Jvm.Pilot.@@N@@.Jvm.D
section Own
variable {p : Program} {l : Launch} {e : Env} {R : Room} {s : State} {m : MethodId} {args : Array Value} {below : List Frame} {meth : Method} {c : Code} {T : State} {locs : List Loc} {cells slots : Nat} {Z : State} {h h' : Heap} {a b : Addr}
/-- from A the run comes to its return, and Q holds there -/
def own_Goes (p : Program) (e : Env) (below : List Frame) (s : State) (Q : Option Value → Heap → List Loc → Prop) (kc ks : Nat) (A : State) : Prop :=
  ∃ s₂ o, Steps p.tables e below A s₂ ∧ s₂.status = .running ∧ Ended s₂ below o ∧ ∃ v L, o = .returned v ∧ Q v s₂.heap L ∧ FrameEnd s o s₂ L kc ks
theorem own_go {Q : Option Value → Heap → List Loc → Prop} {kc ks : Nat} {A B : State} (st : ∀ t, Steps p.tables e below B t → Steps p.tables e below A t) (k : own_Goes p e below s Q kc ks B) : own_Goes p e below s Q kc ks A := by
  obtain ⟨s2, o, h1, h2⟩ := k
  exact ⟨s2, o, st _ h1, h2⟩
theorem own_w {a0 : Array Value} {Z : State} (hw : ∀ d ∈ tables_1, d.before a0 Z = true) (i : Nat) {d : Jvm.Cond} (h : tables_1[i]? = some d) : d.before a0 Z = true := hw d (List.mem_of_getElem? h)
theorem own_selP {y y' : MethodName} (hs : (Cond.selects y'.cls y' y').before args s = true) (he : y.cls = y'.cls) (hpriv : s.PrivateAt y) (hinst : (Cond.instanceMethod y).before args s = true) (hy : y.cls ≠ "java/lang/invoke/MethodHandle" ∧ y.cls ≠ "java/lang/invoke/VarHandle") : (Cond.selects y.cls y y).before args s = true := by
  obtain ⟨c2, r2, m2, q1, q2, q3, q4, kP, hkP, hkPi⟩ := Cond.selects_spec hs
  exact selects_self_of_private (by rw [he]; exact findClass_of_methodNamed q3) hkP hkPi hpriv hinst hy
theorem own_st {tb : Tables} {A B t : State} (h1 : Steps tb e below A B) (k : Steps tb e below B t) : Steps tb e below A t := h1.trans k
theorem own_out {Q : Option Value → Heap → List Loc → Prop} {kc ks : Nat} {A : State} (X : Stand p l e R s m args below meth c T locs cells slots) {v : Option Value} (hv : meth.sig.returnType = none → v = none) (hlk : meth.locks = false)
    (st : ∀ fs, (∀ (f : JFrame) (acts : List Action), f.method = m → f.locked = none → f.entered = [] → (doReturn e (T.setTop f) acts v).1 = T.setFrames fs) → Steps p.tables e below A (T.setFrames fs))
    (hq : Q v T.heap locs) (hc : cells ≤ kc) (hs : slots ≤ ks) : own_Goes p e below s Q kc ks A := by
  obtain ⟨fs, hr, hrun, hended, hW, hsame⟩ := X.leave hv hlk
  exact ⟨_, _, st fs hr, hrun, hended, _, _, rfl, hq, ⟨_, rfl⟩, hW, hsame.mono hc hs⟩
theorem own_irem {tb : Tables} [Ours tb] {T target : State} {g : JFrame} (h : At T m c below) (hx : tb.exec = Jvm.exec) (hg : g.method = m) {x y : Int32} {rest : List Value} (hd : decode c.code g.pc = .ok (.irem, 1)) (hs : g.stack = .int y :: .int x :: rest) (hy : y ≠ 0)
    (hr : Steps tb e below (T.setTop { g with pc := g.pc + 1, stack := .int (x % y) :: rest }) target) : Steps tb e below (T.setTop g) target := XS.irem h hx hg hd hs hy (by rw [irem_eq_mod]; exact hr)
theorem own_lrem {tb : Tables} [Ours tb] {T target : State} {g : JFrame} (h : At T m c below) (hx : tb.exec = Jvm.exec) (hg : g.method = m) {x y : Int64} {rest : List Value} (hd : decode c.code g.pc = .ok (.lrem, 1)) (hs : g.stack = .long y :: .long x :: rest) (hy : y ≠ 0)
    (hr : Steps tb e below (T.setTop { g with pc := g.pc + 1, stack := .long (x % y) :: rest }) target) : Steps tb e below (T.setTop g) target := XS.lrem h hx hg hd hs hy (by rw [lrem_mod]; exact hr)
/-- an array of ints (bytes, booleans): its length, and what each place holds -/
def own_IA (Z : State) (h : Heap) (a : Addr) (ty : FieldType) (n : Nat) (f : Nat → Int32) : Prop := ∃ c : Cell, Arr Z h a c ty ∧ c.slots.size = n ∧ ∀ i, i < n → c.slots[i]? = some (.int (f i))
/-- an array of longs -/
def own_LA (Z : State) (h : Heap) (a : Addr) (n : Nat) (f : Nat → Int64) : Prop := ∃ c : Cell, Arr Z h a c .long ∧ c.slots.size = n ∧ ∀ i, i < n → c.slots[i]? = some (.long (f i))
def own_upd {α : Type} (f : Nat → α) (j : Nat) (x : α) (i : Nat) : α := if i = j then x else f i
theorem own_upd_hit {α : Type} (f : Nat → α) (j : Nat) (x : α) : own_upd f j x j = x := if_pos rfl
theorem own_upd_miss {α : Type} (f : Nat → α) {i j : Nat} (x : α) (q : i ≠ j) : own_upd f j x i = f i := if_neg q
section Arrays
variable {ty : FieldType} {n : Nat} {f : Nat → Int32} {fl : Nat → Int64} {sl : Nat} {v : Value} {ws : List Addr}
theorem own_IA.lt (F : own_IA Z h a ty n f) : a < h.size := by obtain ⟨c, A, -⟩ := F; exact A.lt
theorem own_LA.lt (F : own_LA Z h a n fl) : a < h.size := by obtain ⟨c, A, -⟩ := F; exact A.lt
theorem own_IA.ext (F : own_IA Z h a ty n f) (E : Ext h h') : own_IA Z h' a ty n f := by obtain ⟨c, A, r⟩ := F; exact ⟨c, A.ext E, r⟩
theorem own_LA.ext (F : own_LA Z h a n fl) (E : Ext h h') : own_LA Z h' a n fl := by obtain ⟨c, A, r⟩ := F; exact ⟨c, A.ext E, r⟩
theorem own_IA.other (F : own_IA Z h b ty n f) (W : Wr h h' a sl v) (q : b ≠ a) : own_IA Z h' b ty n f := by obtain ⟨c, A, r⟩ := F; exact ⟨c, A.other W q, r⟩
theorem own_LA.other (F : own_LA Z h b n fl) (W : Wr h h' a sl v) (q : b ≠ a) : own_LA Z h' b n fl := by obtain ⟨c, A, r⟩ := F; exact ⟨c, A.other W q, r⟩
theorem own_IA.keep (F : own_IA Z h a ty n f) (K : Keep h h' ws) (q : a ∉ ws) : own_IA Z h' a ty n f := by obtain ⟨c, A, r⟩ := F; exact ⟨c, ⟨K.2.1 a c A.1 q, A.2⟩, r⟩
theorem own_LA.keep (F : own_LA Z h a n fl) (K : Keep h h' ws) (q : a ∉ ws) : own_LA Z h' a n fl := by obtain ⟨c, A, r⟩ := F; exact ⟨c, ⟨K.2.1 a c A.1 q, A.2⟩, r⟩
theorem own_IA.cong {g : Nat → Int32} (F : own_IA Z h a ty n f) (q : ∀ i, i < n → f i = g i) : own_IA Z h a ty n g := by obtain ⟨c, A, r, u⟩ := F; exact ⟨c, A, r, fun i hi => by rw [u i hi, q i hi]⟩
theorem own_LA.cong {g : Nat → Int64} (F : own_LA Z h a n fl) (q : ∀ i, i < n → fl i = g i) : own_LA Z h a n g := by obtain ⟨c, A, r, u⟩ := F; exact ⟨c, A, r, fun i hi => by rw [u i hi, q i hi]⟩
theorem own_in {cl : Cell} {j : Int32} {k : Nat} (S : cl.slots.size = n) (h1 : ¬ j < 0) (hk : j.toNatClampNeg = k) (h2 : k < n) : ¬ (j < 0 ∨ cl.slots.size ≤ j.toNatClampNeg) := by
  rintro (q | q)
  · exact h1 q
  · rw [S, hk] at q; exact absurd h2 (Nat.not_lt.mpr q)
theorem own_set {cl : Cell} {k : Nat} (S : cl.slots.size = n) (h2 : k < n) (v : Value) (i : Nat) : (cl.setSlot k v).slots[i]? = if i = k then some v else cl.slots[i]? := by
  by_cases q : i = k
  · subst q; rw [if_pos rfl]; exact Array.getElem?_setIfInBounds_self_of_lt (by rw [S]; exact h2)
  · rw [if_neg q]; exact Array.getElem?_setIfInBounds_ne (fun z => q z.symm)
theorem own_Inew {k : ClassId} {z : Int32} (A : Arr Z h a (newA k ty z) ty) (hz : z.toNatClampNeg = n) (hd : defaultValue ty = .int 0) : own_IA Z h a ty n (fun _ => 0) := by
  refine ⟨_, A, by rw [sz_new, hz], fun i hi => ?_⟩
  show (Array.replicate z.toNatClampNeg (defaultValue ty))[i]? = _
  rw [hz, hd, Array.getElem?_replicate, if_pos hi]
theorem own_Lnew {k : ClassId} {z : Int32} (A : Arr Z h a (newA k .long z) .long) (hz : z.toNatClampNeg = n) : own_LA Z h a n (fun _ => 0) := by
  refine ⟨_, A, by rw [sz_new, hz], fun i hi => ?_⟩
  show (Array.replicate z.toNatClampNeg (defaultValue .long))[i]? = _
  rw [hz, Array.getElem?_replicate, if_pos hi]; rfl
theorem own_iaload (X : Stand p l e R s m args below meth c T locs cells slots) (hx : p.tables.exec = Jvm.exec) (hZ : Z.Warmed39 s.vm) (eT : T.heap = h) (V : own_IA Z h a .int n f) {j : Int32} {k : Nat} (h1 : ¬ j < 0) (hk : j.toNatClampNeg = k) (h2 : k < n) {pc : Nat} {Ls : Array Slot} {rest : List Value} (hd : decode c.code pc = .ok (.iaload, 1)) (t : State)
    (kk : Steps p.tables e below (T.setTop (mkF m (pc + 1) Ls (.int (f k) :: rest))) t) : Steps p.tables e below (T.setTop (mkF m pc Ls (.int j :: .ref a :: rest))) t := by
  obtain ⟨cl, A, S, H⟩ := V
  exact X.iaload hx (j := j) (v := .int (f k)) (by rw [eT]; exact A.1) (State.isArrayOf_alike hZ.alike A.2.1) A.2.2 (own_in S h1 hk h2) (by rw [hk]; exact H _ h2) (g := mkF m pc Ls (.int j :: .ref a :: rest)) rfl rfl hd t kk
theorem own_baload (X : Stand p l e R s m args below meth c T locs cells slots) (hx : p.tables.exec = Jvm.exec) (hZ : Z.Warmed39 s.vm) (eT : T.heap = h) (V : own_IA Z h a .byte n f) {j : Int32} {k : Nat} (h1 : ¬ j < 0) (hk : j.toNatClampNeg = k) (h2 : k < n) {pc : Nat} {Ls : Array Slot} {rest : List Value} (hd : decode c.code pc = .ok (.baload, 1)) (t : State)
    (kk : Steps p.tables e below (T.setTop (mkF m (pc + 1) Ls (.int (f k) :: rest))) t) : Steps p.tables e below (T.setTop (mkF m pc Ls (.int j :: .ref a :: rest))) t := by
  obtain ⟨cl, A, S, H⟩ := V
  exact X.baloadBytes hx (j := j) (v := .int (f k)) (by rw [eT]; exact A.1) (State.isArrayOf_alike hZ.alike A.2.1) A.2.2 (own_in S h1 hk h2) (by rw [hk]; exact H _ h2) (g := mkF m pc Ls (.int j :: .ref a :: rest)) rfl rfl hd t kk
theorem own_laload (X : Stand p l e R s m args below meth c T locs cells slots) (hx : p.tables.exec = Jvm.exec) (hZ : Z.Warmed39 s.vm) (eT : T.heap = h) (V : own_LA Z h a n fl) {j : Int32} {k : Nat} (h1 : ¬ j < 0) (hk : j.toNatClampNeg = k) (h2 : k < n) {pc : Nat} {Ls : Array Slot} {rest : List Value} (hd : decode c.code pc = .ok (.laload, 1)) (t : State)
    (kk : Steps p.tables e below (T.setTop (mkF m (pc + 1) Ls (.long (fl k) :: rest))) t) : Steps p.tables e below (T.setTop (mkF m pc Ls (.int j :: .ref a :: rest))) t := by
  obtain ⟨cl, A, S, H⟩ := V
  exact X.laload hx (j := j) (v := .long (fl k)) (by rw [eT]; exact A.1) (State.isArrayOf_alike hZ.alike A.2.1) A.2.2 (own_in S h1 hk h2) (by rw [hk]; exact H _ h2) (g := mkF m pc Ls (.int j :: .ref a :: rest)) rfl rfl hd t kk
theorem own_alen (X : Stand p l e R s m args below meth c T locs cells slots) (hx : p.tables.exec = Jvm.exec) (hZ : Z.Warmed39 s.vm) (eT : T.heap = h) (V : own_IA Z h a ty n f) {z : Int32} (hl : n.toInt32 = z) {pc : Nat} {Ls : Array Slot} {rest : List Value} (hd : decode c.code pc = .ok (.arraylength, 1)) (t : State)
    (kk : Steps p.tables e below (T.setTop (mkF m (pc + 1) Ls (.int z :: rest))) t) : Steps p.tables e below (T.setTop (mkF m pc Ls (.ref a :: rest))) t := by
  obtain ⟨cl, A, S, H⟩ := V
  exact X.arraylength hx (by rw [eT]; exact A.1) (State.isArrayOf_alike hZ.alike A.2.1) (g := mkF m pc Ls (.ref a :: rest)) rfl rfl hd t (by rw [S, hl]; exact kk)
theorem own_alenL (X : Stand p l e R s m args below meth c T locs cells slots) (hx : p.tables.exec = Jvm.exec) (hZ : Z.Warmed39 s.vm) (eT : T.heap = h) (V : own_LA Z h a n fl) {z : Int32} (hl : n.toInt32 = z) {pc : Nat} {Ls : Array Slot} {rest : List Value} (hd : decode c.code pc = .ok (.arraylength, 1)) (t : State)
    (kk : Steps p.tables e below (T.setTop (mkF m (pc + 1) Ls (.int z :: rest))) t) : Steps p.tables e below (T.setTop (mkF m pc Ls (.ref a :: rest))) t := by
  obtain ⟨cl, A, S, H⟩ := V
  exact X.arraylength hx (by rw [eT]; exact A.1) (State.isArrayOf_alike hZ.alike A.2.1) (g := mkF m pc Ls (.ref a :: rest)) rfl rfl hd t (by rw [S, hl]; exact kk)
theorem own_iastore (X : Stand p l e R s m args below meth c T locs cells slots) (hx : p.tables.exec = Jvm.exec) (hZ : Z.Warmed39 s.vm) (eT : T.heap = h) (V : own_IA Z h a .int n f) {j x : Int32} {k : Nat} (h1 : ¬ j < 0) (hk : j.toNatClampNeg = k) (h2 : k < n) {g : JFrame} (hg : g.method = m) {rest : List Value} (hs : g.stack = .int x :: .int j :: .ref a :: rest) (hd : decode c.code g.pc = .ok (.iastore, 1)) :
    ∃ T' h', Stand p l e R s m args below meth c T' (locs ++ [⟨a, k⟩]) cells slots ∧ T'.heap = h' ∧ Wr h h' a k (.int x) ∧ own_IA Z h' a .int n (own_upd f k x) ∧ ∀ target, Steps p.tables e below (T'.setTop { g with pc := g.pc + 1, stack := rest }) target → Steps p.tables e below (T.setTop g) target := by
  obtain ⟨cl, A, S, H⟩ := V
  obtain ⟨T', h', X', e', W, st⟩ := stI X hx hZ eT A (own_in S h1 hk h2) hg hs hd
  rw [hk] at X' W
  refine ⟨T', h', X', e', W, ⟨_, A.same W, by rw [sz_set, S], fun i hi => ?_⟩, st⟩
  rw [own_set S h2]; unfold own_upd
  by_cases q : i = k
  · rw [if_pos q, if_pos q]
  · rw [if_neg q, if_neg q]; exact H i hi
theorem own_bastore (X : Stand p l e R s m args below meth c T locs cells slots) (hx : p.tables.exec = Jvm.exec) (hZ : Z.Warmed39 s.vm) (eT : T.heap = h) (V : own_IA Z h a .byte n f) {j x : Int32} {k : Nat} (h1 : ¬ j < 0) (hk : j.toNatClampNeg = k) (h2 : k < n) {g : JFrame} (hg : g.method = m) {rest : List Value} (hs : g.stack = .int x :: .int j :: .ref a :: rest) (hd : decode c.code g.pc = .ok (.bastore, 1)) :
    ∃ T' h', Stand p l e R s m args below meth c T' (locs ++ [⟨a, k⟩]) cells slots ∧ T'.heap = h' ∧ Wr h h' a k (.int x.toInt8.toInt32) ∧ own_IA Z h' a .byte n (own_upd f k x.toInt8.toInt32) ∧ ∀ target, Steps p.tables e below (T'.setTop { g with pc := g.pc + 1, stack := rest }) target → Steps p.tables e below (T.setTop g) target := by
  obtain ⟨cl, A, S, H⟩ := V
  obtain ⟨T', h', X', e', W, st⟩ := stB X hx hZ eT A (own_in S h1 hk h2) hg hs hd
  rw [hk] at X' W
  refine ⟨T', h', X', e', W, ⟨_, A.same W, by rw [sz_set, S], fun i hi => ?_⟩, st⟩
  rw [own_set S h2]; unfold own_upd
  by_cases q : i = k
  · rw [if_pos q, if_pos q]; rfl
  · rw [if_neg q, if_neg q]; exact H i hi
theorem own_lastore (X : Stand p l e R s m args below meth c T locs cells slots) (hx : p.tables.exec = Jvm.exec) (hZ : Z.Warmed39 s.vm) (eT : T.heap = h) (V : own_LA Z h a n fl) {j : Int32} {x : Int64} {k : Nat} (h1 : ¬ j < 0) (hk : j.toNatClampNeg = k) (h2 : k < n) {g : JFrame} (hg : g.method = m) {rest : List Value} (hs : g.stack = .long x :: .int j :: .ref a :: rest) (hd : decode c.code g.pc = .ok (.lastore, 1)) :
    ∃ T' h', Stand p l e R s m args below meth c T' (locs ++ [⟨a, k⟩]) cells slots ∧ T'.heap = h' ∧ Wr h h' a k (.long x) ∧ own_LA Z h' a n (own_upd fl k x) ∧ ∀ target, Steps p.tables e below (T'.setTop { g with pc := g.pc + 1, stack := rest }) target → Steps p.tables e below (T.setTop g) target := by
  obtain ⟨cl, A, S, H⟩ := V
  obtain ⟨T', h', X', e', W, st⟩ := stJ X hx hZ eT A (own_in S h1 hk h2) hg hs hd
  rw [hk] at X' W
  refine ⟨T', h', X', e', W, ⟨_, A.same W, by rw [sz_set, S], fun i hi => ?_⟩, st⟩
  rw [own_set S h2]; unfold own_upd
  by_cases q : i = k
  · rw [if_pos q, if_pos q]
  · rw [if_neg q, if_neg q]; exact H i hi
theorem own_clone (X : Stand p l e R s m args below meth c T locs cells slots) (hx : p.tables.exec = Jvm.exec) (hZ : Z.Warmed39 s.vm) {a0 : Array Value} {own ad : String} {index : Nat} (hown : s.vm.findClass own = some m.cls)
    (w1 : (Cond.methodLink own index ⟨ad, "clone", "()Ljava/lang/Object;"⟩).before a0 Z = true) (w2 : (Cond.sameMethod ad "java/lang/Object" "clone" "()Ljava/lang/Object;").before a0 Z = true) (w3 : (Cond.native ⟨"java/lang/Object", "clone", "()Ljava/lang/Object;"⟩).before a0 Z = true)
    (w4 : (Cond.instanceMethod ⟨"java/lang/Object", "clone", "()Ljava/lang/Object;"⟩).before a0 Z = true) (w5 : (Cond.selects ad ⟨ad, "clone", "()Ljava/lang/Object;"⟩ ⟨"java/lang/Object", "clone", "()Ljava/lang/Object;"⟩).before a0 Z = true) (w6 : (Cond.castable ad "java/lang/Cloneable").before a0 Z = true)
    (eT : T.heap = h) (V : own_IA Z h a .int n f) (E : Exa Z h a ad) {g : JFrame} (hg : g.method = m) (hsize : g.locals.size = c.maxLocals) {rest : List Value} (hst : g.stack = .ref a :: rest) (hd : decode c.code g.pc = .ok (.invokevirtual index, 3))
    (hf : 1 ≤ R.frames) {W cap : Nat} (hW : 2 * g.monitorRoom + (rest.map fun v => v.category).sum ≤ W) (hl : W + 14 ≤ R.locals) (hcap : n ≤ cap) (hc : cells + 1 ≤ R.cells) (hsl : slots + cap ≤ R.slots) :
    ∃ T' h', Stand p l e R s m args below meth c T' locs (cells + 1) (slots + cap) ∧ T'.heap = h' ∧ Ext h h' ∧ own_IA Z h' h.size .int n f ∧ Exa Z h' h.size ad ∧
      ∀ target, Steps p.tables e below (T'.setTop { g with pc := g.pc + 3, stack := .ref h.size :: rest }) target → Steps p.tables e below (T.setTop g) target := by
  obtain ⟨cl, A, S, H⟩ := V
  have FC : FitC Z cl := fitC_of A fun i hi v hv => by rw [H i (by rw [← S]; exact hi)] at hv; cases hv; rfl
  obtain ⟨T', h', X', e', ex, A', E', st⟩ := cloneA X hx hZ hown w1 w2 w3 w4 w5 w6 eT A E FC hg hsize hst hd hf hW hl (by rw [S]; exact hcap) hc hsl
  exact ⟨T', h', X', e', ex, ⟨cloneOf cl, A', S, H⟩, E', st⟩
end Arrays
end Own
def own_f4 (x1 : Int32) (y1 : Int32) : Int32 := (if x1 < y1 then y1 else x1)
theorem d4_0 : decode jdk_29_method_65_code 0 = .ok (.iload_n 0, 1) := by decide +kernel
theorem d4_1 : decode jdk_29_method_65_code 1 = .ok (.iload_n 1, 1) := by decide +kernel
theorem d4_2 : decode jdk_29_method_65_code 2 = .ok (.if_icmp .lt 7, 3) := by decide +kernel
theorem d4_5 : decode jdk_29_method_65_code 5 = .ok (.iload_n 0, 1) := by decide +kernel
theorem d4_6 : decode jdk_29_method_65_code 6 = .ok (.goto 4, 3) := by decide +kernel
theorem d4_9 : decode jdk_29_method_65_code 9 = .ok (.iload_n 1, 1) := by decide +kernel
theorem d4_10 : decode jdk_29_method_65_code 10 = .ok (.ireturn, 1) := by decide +kernel
theorem ef_4 (m : MethodId) (x0 : Int32) (x1 : Int32) : entryFrame m #[(.int x0), (.int x1)] 2 = mkF m 0 #[.val (.int x0), .val (.int x1)] [] := by first | (simp [entryFrame, mkF, argsToLocals, Value.category]; done) | rfl
def own_Q4 (Z : State) (x1 : Int32) (y1 : Int32) (h0 : Heap) (n0 : Nat) (v : Option Value) (h : Heap) (L : List Loc) : Prop := v = some (.int (own_f4 x1 y1)) ∧ Fr n0 L ∧ h = h0
set_option maxRecDepth 65536 in
set_option maxHeartbeats 40000000 in
theorem rm4 (l : Launch) (Z : State) (a0 : Array Value) (hw : ∀ d ∈ tables_1, d.before a0 Z = true) (ws : List Jvm.Cond) (x1 : Int32) (y1 : Int32) (h0 : Heap) (n0 : Nat) (Z0 : n0 ≤ h0.size)  :
    MetFree l (⟨"java/lang/Math", "max", "(II)I"⟩ : MethodName) (head1 (Jvm.Cond.code (⟨"java/lang/Math", "max", "(II)I"⟩ : MethodName) jdk_29_method_65_code 2 (some .int) :: ws) ({ frames := 0, cells := 0, slots := 0, locals := 0 } : Room)) (fun a U => a = #[(.int x1), (.int y1)] ∧ Z.Warmed39 U.vm ∧ U.heap = h0) (fun _ _ _ _ _ => True) (fun _ U o U' => ∃ v L, o = .returned v ∧ own_Q4 Z x1 y1 h0 n0 v U'.heap L ∧ FrameEnd U o U' L ({ frames := 0, cells := 0, slots := 0, locals := 0 } : Room).cells ({ frames := 0, cells := 0, slots := 0, locals := 0 } : Room).slots) := by
  refine MetFree.of_bodySF (Jvm.Free.JP.mathPlain rfl (by decide +kernel)) hisR ?_
  intro p e s m args below meth c s₁ Bd hml0 hP hK
  obtain ⟨rfl, hZ, hh⟩ := hP
  have hx := Bd.exec
  have hby := Bd.bytes
  have hml : c.maxLocals = 2 := hml0
  have hown : s.vm.findClass "java/lang/Math" = some m.cls := findClass_of_methodNamed Bd.named
  have hnm := (name_of_methodNamed Bd.named Bd.method).1
  have X0 : Stand p l e ({ frames := 0, cells := 0, slots := 0, locals := 0 } : Room) s m #[(.int x1), (.int y1)] below meth c s₁ [] 0 0 := Stand.of_body Bd
  have e0 : s₁.heap = h0 := by rw [← hh, Bd.state]; rfl
  have N0 := Fr.nil n0
  have Zs := Z0
  show own_Goes p e below s (own_Q4 Z x1 y1 h0 n0) ({ frames := 0, cells := 0, slots := 0, locals := 0 } : Room).cells ({ frames := 0, cells := 0, slots := 0, locals := 0 } : Room).slots _
  refine own_go (B := s₁.setTop (mkF m 0 #[.val (.int x1), .val (.int y1)] [])) (fun t k => castTop (ef_4 m x1 y1) k) ?_
  refine own_go (B := s₁.setTop (mkF m 1 #[.val (.int x1), .val (.int y1)] [(.int x1)])) (fun t k => XS.iloadN X0.here hx rfl (Jvm.hb hby d4_0) rfl k) ?_
  refine own_go (B := s₁.setTop (mkF m 2 #[.val (.int x1), .val (.int y1)] [(.int y1), (.int x1)])) (fun t k => XS.iloadN X0.here hx rfl (Jvm.hb hby d4_1) rfl k) ?_
  by_cases hc2_1 : x1 < y1
  · refine own_go (B := s₁.setTop (mkF m 9 #[.val (.int x1), .val (.int y1)] [])) (fun t k => XS.icmpYes X0.here hx rfl (pc0 := 2) (pc' := 9) rfl (Jvm.hb hby d4_2) rfl (tlt hc2_1).1 (by decide) (by decide) k) ?_
    refine own_go (B := s₁.setTop (mkF m 10 #[.val (.int x1), .val (.int y1)] [(.int y1)])) (fun t k => XS.iloadN X0.here hx rfl (Jvm.hb hby d4_9) rfl k) ?_
    refine own_out X0 (v := (some (.int y1))) (fun h => by rw [Bd.returns] at h; cases h) Bd.notSynchronized (fun fs hr => retOut X0 hx (t := .int) Bd.returns rfl (Or.inl ⟨rfl, Or.inl rfl, _, rfl⟩) (Jvm.hb hby d4_10) hr) ?_ (by decide) (by decide)
    show own_Q4 Z x1 y1 h0 n0 (some (.int y1)) s₁.heap _
    rw [e0]
    exact ⟨congrArg (fun z => some (Value.int z)) (by unfold own_f4; simp only [if_pos hc2_1]), N0, rfl⟩
  · refine own_go (B := s₁.setTop (mkF m 5 #[.val (.int x1), .val (.int y1)] [])) (fun t k => XS.icmpNo X0.here hx rfl (Jvm.hb hby d4_2) rfl (flt hc2_1).1 k) ?_
    refine own_go (B := s₁.setTop (mkF m 6 #[.val (.int x1), .val (.int y1)] [(.int x1)])) (fun t k => XS.iloadN X0.here hx rfl (Jvm.hb hby d4_5) rfl k) ?_
    refine own_go (B := s₁.setTop (mkF m 10 #[.val (.int x1), .val (.int y1)] [(.int x1)])) (fun t k => XS.goto X0.here hx rfl (pc0 := 6) (pc' := 10) rfl (Jvm.hb hby d4_6) (by decide) (by decide) k) ?_
    refine own_out X0 (v := (some (.int x1))) (fun h => by rw [Bd.returns] at h; cases h) Bd.notSynchronized (fun fs hr => retOut X0 hx (t := .int) Bd.returns rfl (Or.inl ⟨rfl, Or.inl rfl, _, rfl⟩) (Jvm.hb hby d4_10) hr) ?_ (by decide) (by decide)
    show own_Q4 Z x1 y1 h0 n0 (some (.int x1)) s₁.heap _
    rw [e0]
    exact ⟨congrArg (fun z => some (Value.int z)) (by unfold own_f4; simp only [if_neg hc2_1]), N0, rfl⟩
theorem pn_com_example_term_unifier_termunifier_UnionFind : plainName "com/example/term_unifier/termunifier/UnionFind" = true := by first | (simp [plainName, overriddenIn]; done) | decide +kernel
theorem d2_0 : decode prog_51_method_2_code 0 = .ok (.aload_n 0, 1) := by decide +kernel
theorem d2_1 : decode prog_51_method_2_code 1 = .ok (.invokespecial 7, 3) := by decide +kernel
theorem d2_4 : decode prog_51_method_2_code 4 = .ok (.aload_n 0, 1) := by decide +kernel
theorem d2_5 : decode prog_51_method_2_code 5 = .ok (.iload_n 1, 1) := by decide +kernel
theorem d2_6 : decode prog_51_method_2_code 6 = .ok (.bipush 16, 2) := by decide +kernel
theorem d2_8 : decode prog_51_method_2_code 8 = .ok (.invokestatic 12, 3) := by decide +kernel
theorem d2_11 : decode prog_51_method_2_code 11 = .ok (.newarray .int, 2) := by decide +kernel
theorem d2_13 : decode prog_51_method_2_code 13 = .ok (.putfield 18, 3) := by decide +kernel
theorem d2_16 : decode prog_51_method_2_code 16 = .ok (.aload_n 0, 1) := by decide +kernel
theorem d2_17 : decode prog_51_method_2_code 17 = .ok (.aload_n 0, 1) := by decide +kernel
theorem d2_18 : decode prog_51_method_2_code 18 = .ok (.getfield 18, 3) := by decide +kernel
theorem d2_21 : decode prog_51_method_2_code 21 = .ok (.arraylength, 1) := by decide +kernel
theorem d2_22 : decode prog_51_method_2_code 22 = .ok (.newarray .byte, 2) := by decide +kernel
theorem d2_24 : decode prog_51_method_2_code 24 = .ok (.putfield 22, 3) := by decide +kernel
theorem d2_27 : decode prog_51_method_2_code 27 = .ok (.iconst 0, 1) := by decide +kernel
theorem d2_28 : decode prog_51_method_2_code 28 = .ok (.istore_n 3, 1) := by decide +kernel
theorem d2_29 : decode prog_51_method_2_code 29 = .ok (.iload_n 3, 1) := by decide +kernel
theorem d2_30 : decode prog_51_method_2_code 30 = .ok (.iload_n 1, 1) := by decide +kernel
theorem d2_31 : decode prog_51_method_2_code 31 = .ok (.if_icmp .ge 16, 3) := by decide +kernel
theorem d2_34 : decode prog_51_method_2_code 34 = .ok (.aload_n 0, 1) := by decide +kernel
theorem d2_35 : decode prog_51_method_2_code 35 = .ok (.getfield 18, 3) := by decide +kernel
theorem d2_38 : decode prog_51_method_2_code 38 = .ok (.iload_n 3, 1) := by decide +kernel
theorem d2_39 : decode prog_51_method_2_code 39 = .ok (.iload_n 3, 1) := by decide +kernel
theorem d2_40 : decode prog_51_method_2_code 40 = .ok (.iastore, 1) := by decide +kernel
theorem d2_41 : decode prog_51_method_2_code 41 = .ok (.iinc 3 1, 3) := by decide +kernel
theorem d2_44 : decode prog_51_method_2_code 44 = .ok (.goto (-15), 3) := by decide +kernel
theorem d2_47 : decode prog_51_method_2_code 47 = .ok (.aload_n 0, 1) := by decide +kernel
theorem d2_48 : decode prog_51_method_2_code 48 = .ok (.iload_n 1, 1) := by decide +kernel
theorem d2_49 : decode prog_51_method_2_code 49 = .ok (.putfield 26, 3) := by decide +kernel
theorem d2_52 : decode prog_51_method_2_code 52 = .ok (.aload_n 0, 1) := by decide +kernel
theorem d2_53 : decode prog_51_method_2_code 53 = .ok (.aload_n 2, 1) := by decide +kernel
theorem d2_54 : decode prog_51_method_2_code 54 = .ok (.putfield 30, 3) := by decide +kernel
theorem d2_57 : decode prog_51_method_2_code 57 = .ok (.return_, 1) := by decide +kernel
theorem pd_0 : parseMethodDescriptor "(II)I" = some ⟨[.int, .int], some .int⟩ := by decide +kernel
theorem ef_2 (m : MethodId) (x0 : Addr) : entryFrame m #[(.ref x0), (.int (4 : Int32)), .null] 4 = mkF m 0 #[.val (.ref x0), .val (.int (4 : Int32)), .val .null, .unset] [] := by first | (simp [entryFrame, mkF, argsToLocals, Value.category]; done) | rfl
def own_Q2 (Z : State) (zs : Addr) (h0 : Heap) (n0 : Nat) (v : Option Value) (h : Heap) (L : List Loc) : Prop := v = none ∧ Fr n0 L ∧ ∃ zp : Addr, h0.size ≤ zp ∧ ∃ zk : Addr, h0.size ≤ zk ∧ zp ≠ zk ∧ Keep h0 h [zs] ∧ Exa Z h zs "com/example/term_unifier/termunifier/UnionFind" ∧ Fld Z h zs "com/example/term_unifier/termunifier/UnionFind" "parent" "[I" (.ref zp) ∧ Fld Z h zs "com/example/term_unifier/termunifier/UnionFind" "ranks" "[B" (.ref zk) ∧ Fld Z h zs "com/example/term_unifier/termunifier/UnionFind" "size" "I" (.int (4 : Int32)) ∧ Fld Z h zs "com/example/term_unifier/termunifier/UnionFind" "unions" "Lcom/example/term_unifier/termunifier/IntStack;" .null ∧ own_IA Z h zp .int 16 (own_upd (own_upd (own_upd (own_upd (fun _ => 0) 0 (0 : Int32)) 1 (1 : Int32)) 2 (2 : Int32)) 3 (3 : Int32)) ∧ own_IA Z h zk .byte 16 (fun _ => 0)
set_option maxRecDepth 65536 in
set_option maxHeartbeats 40000000 in
theorem rm2 (l : Launch) (Z : State) (a0 : Array Value) (hw : ∀ d ∈ tables_1, d.before a0 Z = true) (ws : List Jvm.Cond) (zs : Addr) (h0 : Heap) (n0 : Nat) (Z0 : n0 ≤ h0.size) (E_zs : Exa Z h0 zs "com/example/term_unifier/termunifier/UnionFind") (F_zs_parent : Fld Z h0 zs "com/example/term_unifier/termunifier/UnionFind" "parent" "[I" .null) (F_zs_ranks : Fld Z h0 zs "com/example/term_unifier/termunifier/UnionFind" "ranks" "[B" .null) (F_zs_size : Fld Z h0 zs "com/example/term_unifier/termunifier/UnionFind" "size" "I" (.int (0 : Int32))) (F_zs_unions : Fld Z h0 zs "com/example/term_unifier/termunifier/UnionFind" "unions" "Lcom/example/term_unifier/termunifier/IntStack;" .null) (g_zs : n0 ≤ zs) :
    MetFree l (⟨"com/example/term_unifier/termunifier/UnionFind", "<init>", "(ILcom/example/term_unifier/termunifier/IntStack;)V"⟩ : MethodName) (head1 (Jvm.Cond.code (⟨"com/example/term_unifier/termunifier/UnionFind", "<init>", "(ILcom/example/term_unifier/termunifier/IntStack;)V"⟩ : MethodName) prog_51_method_2_code 4 none :: ws) ({ frames := 1, cells := 2, slots := 32, locals := 14 } : Room)) (fun a U => a = #[(.ref zs), (.int (4 : Int32)), .null] ∧ Z.Warmed39 U.vm ∧ U.heap = h0) (fun _ _ _ _ _ => True) (fun _ U o U' => ∃ v L, o = .returned v ∧ own_Q2 Z zs h0 n0 v U'.heap L ∧ FrameEnd U o U' L ({ frames := 1, cells := 2, slots := 32, locals := 14 } : Room).cells ({ frames := 1, cells := 2, slots := 32, locals := 14 } : Room).slots) := by
  refine MetFree.of_bodySF (plainFor_of_name pn_com_example_term_unifier_termunifier_UnionFind) hisR ?_
  intro p e s m args below meth c s₁ Bd hml0 hP hK
  obtain ⟨rfl, hZ, hh⟩ := hP
  have hx := Bd.exec
  have hby := Bd.bytes
  have hml : c.maxLocals = 4 := hml0
  have hown : s.vm.findClass "com/example/term_unifier/termunifier/UnionFind" = some m.cls := findClass_of_methodNamed Bd.named
  have hnm := (name_of_methodNamed Bd.named Bd.method).1
  have X0 : Stand p l e ({ frames := 1, cells := 2, slots := 32, locals := 14 } : Room) s m #[(.ref zs), (.int (4 : Int32)), .null] below meth c s₁ [] 0 0 := Stand.of_body Bd
  have e0 : s₁.heap = h0 := by rw [← hh, Bd.state]; rfl
  have N0 := Fr.nil n0
  have Zs := Z0
  have K : Keep h0 h0 [zs] := Keep.refl _ _
  show own_Goes p e below s (own_Q2 Z zs h0 n0) ({ frames := 1, cells := 2, slots := 32, locals := 14 } : Room).cells ({ frames := 1, cells := 2, slots := 32, locals := 14 } : Room).slots _
  refine own_go (B := s₁.setTop (mkF m 0 #[.val (.ref zs), .val (.int (4 : Int32)), .val .null, .unset] [])) (fun t k => castTop (ef_2 m zs) k) ?_
  refine own_go (B := s₁.setTop (mkF m 1 #[.val (.ref zs), .val (.int (4 : Int32)), .val .null, .unset] [(.ref zs)])) (fun t k => XS.aloadN X0.here hx rfl (Jvm.hb hby d2_0) rfl rfl k) ?_
  obtain ⟨T2, X2, e2, st2⟩ := initO X0 hx hZ hown (own_w hw 9 rfl) (own_w hw 10 rfl) (own_w hw 11 rfl) e0 (g := (mkF m 1 #[.val (.ref zs), .val (.int (4 : Int32)), .val .null, .unset] [(.ref zs)])) rfl (by rw [hml]; rfl) rfl (Jvm.hb hby d2_1) (by decide) (W := 0) (by show 2 * 0 + _ ≤ _; exact Nat.le_of_eq rfl) (by decide)
  refine own_go (B := T2.setTop (mkF m 4 #[.val (.ref zs), .val (.int (4 : Int32)), .val .null, .unset] [])) (fun t k => st2 _ k) ?_
  refine own_go (B := T2.setTop (mkF m 5 #[.val (.ref zs), .val (.int (4 : Int32)), .val .null, .unset] [(.ref zs)])) (fun t k => XS.aloadN X2.here hx rfl (Jvm.hb hby d2_4) rfl rfl k) ?_
  refine own_go (B := T2.setTop (mkF m 6 #[.val (.ref zs), .val (.int (4 : Int32)), .val .null, .unset] [(.int (4 : Int32)), (.ref zs)])) (fun t k => XS.iloadN X2.here hx rfl (Jvm.hb hby d2_5) rfl k) ?_
  refine own_go (B := T2.setTop (mkF m 8 #[.val (.ref zs), .val (.int (4 : Int32)), .val .null, .unset] [(.int (16 : Int32)), (.int (4 : Int32)), (.ref zs)])) (fun t k => XS.bipush X2.here hx rfl (Jvm.hb hby d2_6) k) ?_
  obtain ⟨_, _, ⟨T3, La3, ka3, na3⟩, -, X3, ⟨Lc3, hQ3, l3, y3, z3⟩, st3⟩ := Jvm.LawKit.callS X2 hx (y := (⟨"java/lang/Math", "max", "(II)I"⟩ : MethodName)) hown (mvT hZ (own_w hw 12 rfl)) (mvT hZ (own_w hw 13 rfl)) (mvT hZ (own_w hw 14 rfl)) (mvT hZ (own_w hw 15 rfl)) (by decide) (backOf (W := 1) (rm4 l Z a0 hw [] (4 : Int32) (16 : Int32) h0 n0 Zs) hZ (own_w hw 15 rfl) (own_w hw 14 rfl) (by decide) (by decide)) (g := (mkF m 8 #[.val (.ref zs), .val (.int (4 : Int32)), .val .null, .unset] [(.int (16 : Int32)), (.int (4 : Int32)), (.ref zs)])) rfl (by rw [hml]; rfl) (argsL := [(.int (4 : Int32)), (.int (16 : Int32))]) (rest := [(.ref zs)]) (lenOf pd_0 rfl) rfl (by show 2 * 0 + _ ≤ _; exact Nat.le_of_eq rfl) (Jvm.hb hby d2_8) (fun _ _ => ⟨rfl, e2, (by decide : 0 + 0 ≤ _), (by decide : 0 + 0 ≤ _)⟩)
  dsimp only [Pt.U, Pt.locs, Pt.cells, Pt.slots] at X3 l3 y3 z3 st3 hQ3
  subst l3 y3 z3
  obtain ⟨rfl, N3q, e3⟩ := hQ3
  have N3 := Fr.app N0 N3q
  refine own_go (B := T3.setTop (mkF m 11 #[.val (.ref zs), .val (.int (4 : Int32)), .val .null, .unset] [(.int (own_f4 (4 : Int32) (16 : Int32))), (.ref zs)])) (fun t k => st3 _ k) ?_
  rw [show (own_f4 (4 : Int32) (16 : Int32)) = (16 : Int32) from by decide]
  obtain ⟨T4, h4, k4, X4, e4, E4, A4, st4⟩ := newP X3 hx hZ (own_w hw 16 rfl) e3 (g := (mkF m 11 #[.val (.ref zs), .val (.int (4 : Int32)), .val .null, .unset] [(.int (16 : Int32)), (.ref zs)])) rfl (Jvm.hb hby d2_11) rfl (by decide) (cap := 16) (by decide) (by decide) (by decide) (by decide)
  obtain ⟨b4, g4⟩ : ∃ z, z = h0.size := ⟨_, rfl⟩
  rw [← g4] at A4 st4
  have ne_zs_b4 : zs ≠ b4 := Nat.ne_of_lt (Nat.lt_of_lt_of_le E_zs.lt (Nat.le_of_eq g4.symm))
  have g_b4 : n0 ≤ b4 := Nat.le_trans Zs (Nat.le_of_eq g4.symm)
  have sz_b4 : h0.size ≤ b4 := Nat.le_trans K.1 (Nat.le_of_eq g4.symm)
  have E_zs := E_zs.ext E4
  have F_zs_parent := F_zs_parent.ext E4
  have F_zs_ranks := F_zs_ranks.ext E4
  have F_zs_size := F_zs_size.ext E4
  have F_zs_unions := F_zs_unions.ext E4
  have K := K.ext E4
  have Zs := Nat.le_trans Zs E4.1
  have V_b4 : own_IA Z h4 b4 .int 16 (fun _ => 0) := own_Inew A4 (by decide) rfl
  refine own_go (B := T4.setTop (mkF m 13 #[.val (.ref zs), .val (.int (4 : Int32)), .val .null, .unset] [(.ref b4), (.ref zs)])) (fun t k => st4 _ k) ?_
  obtain ⟨T5, h5, X5, e5, W5, st5⟩ := putF X4 hx hZ hown (host := "") (Or.inl (own_w hw 17 rfl)) Via.refl e4 F_zs_parent E_zs (Or.inl (own_w hw 18 rfl)) (own_w hw 1 rfl) (ty := (.array .int)) (by decide) rfl rfl (g := (mkF m 13 #[.val (.ref zs), .val (.int (4 : Int32)), .val .null, .unset] [(.ref b4), (.ref zs)])) rfl rfl (Jvm.hb hby d2_13)
  have N5 := Fr.snoc X5 N3 g_zs
  have E_zs := E_zs.wr W5
  have F_zs_parent := F_zs_parent.same W5
  have F_zs_ranks := F_zs_ranks.other W5 (Or.inr (slot_ne (Or.inl (own_w hw 21 rfl)) (Or.inl (own_w hw 18 rfl)) (by decide) (t := (.array .byte)) (t' := (.array .int)) (by decide) (by decide)))
  have F_zs_size := F_zs_size.other W5 (Or.inr (slot_ne (Or.inl (own_w hw 23 rfl)) (Or.inl (own_w hw 18 rfl)) (by decide) (t := .int) (t' := (.array .int)) (by decide) (by decide)))
  have F_zs_unions := F_zs_unions.other W5 (Or.inr (slot_ne (Or.inr (own_w hw 25 rfl)) (Or.inl (own_w hw 18 rfl)) (by decide) (t := (.object "com/example/term_unifier/termunifier/IntStack")) (t' := (.array .int)) (by decide) (by decide)))
  have V_b4 := V_b4.other W5 (Ne.symm ne_zs_b4)
  have K := K.wr W5 (Or.inl (List.mem_of_getElem? (i := 0) rfl))
  have Zs := Nat.le_trans Zs (Keep.of_wr W5).1
  refine own_go (B := T5.setTop (mkF m 16 #[.val (.ref zs), .val (.int (4 : Int32)), .val .null, .unset] [])) (fun t k => st5 _ k) ?_
  refine own_go (B := T5.setTop (mkF m 17 #[.val (.ref zs), .val (.int (4 : Int32)), .val .null, .unset] [(.ref zs)])) (fun t k => XS.aloadN X5.here hx rfl (Jvm.hb hby d2_16) rfl rfl k) ?_
  refine own_go (B := T5.setTop (mkF m 18 #[.val (.ref zs), .val (.int (4 : Int32)), .val .null, .unset] [(.ref zs), (.ref zs)])) (fun t k => XS.aloadN X5.here hx rfl (Jvm.hb hby d2_17) rfl rfl k) ?_
  obtain ⟨T6, X6, e6, st6⟩ := getF X5 hx hZ hown (host := "") (Or.inl (own_w hw 17 rfl)) Via.refl e5 F_zs_parent (g := (mkF m 18 #[.val (.ref zs), .val (.int (4 : Int32)), .val .null, .unset] [(.ref zs), (.ref zs)])) rfl rfl (Jvm.hb hby d2_18)
  refine own_go (B := T6.setTop (mkF m 21 #[.val (.ref zs), .val (.int (4 : Int32)), .val .null, .unset] [(.ref b4), (.ref zs)])) (fun t k => st6 _ k) ?_
  refine own_go (B := T6.setTop (mkF m 22 #[.val (.ref zs), .val (.int (4 : Int32)), .val .null, .unset] [(.int (16 : Int32)), (.ref zs)])) (fun t k => own_alen X6 hx hZ e6 V_b4 (by decide) (Jvm.hb hby d2_21) t k) ?_
  obtain ⟨T7, h7, k7, X7, e7, E7, A7, st7⟩ := newP X6 hx hZ (own_w hw 19 rfl) e6 (g := (mkF m 22 #[.val (.ref zs), .val (.int (4 : Int32)), .val .null, .unset] [(.int (16 : Int32)), (.ref zs)])) rfl (Jvm.hb hby d2_22) rfl (by decide) (cap := 16) (by decide) (by decide) (by decide) (by decide)
  obtain ⟨b7, g7⟩ : ∃ z, z = h5.size := ⟨_, rfl⟩
  rw [← g7] at A7 st7
  have ne_zs_b7 : zs ≠ b7 := Nat.ne_of_lt (Nat.lt_of_lt_of_le E_zs.lt (Nat.le_of_eq g7.symm))
  have ne_b4_b7 : b4 ≠ b7 := Nat.ne_of_lt (Nat.lt_of_lt_of_le V_b4.lt (Nat.le_of_eq g7.symm))
  have g_b7 : n0 ≤ b7 := Nat.le_trans Zs (Nat.le_of_eq g7.symm)
  have sz_b7 : h0.size ≤ b7 := Nat.le_trans K.1 (Nat.le_of_eq g7.symm)
  have E_zs := E_zs.ext E7
  have F_zs_parent := F_zs_parent.ext E7
  have F_zs_ranks := F_zs_ranks.ext E7
  have F_zs_size := F_zs_size.ext E7
  have F_zs_unions := F_zs_unions.ext E7
  have V_b4 := V_b4.ext E7
  have K := K.ext E7
  have Zs := Nat.le_trans Zs E7.1
  have V_b7 : own_IA Z h7 b7 .byte 16 (fun _ => 0) := own_Inew A7 (by decide) rfl
  refine own_go (B := T7.setTop (mkF m 24 #[.val (.ref zs), .val (.int (4 : Int32)), .val .null, .unset] [(.ref b7), (.ref zs)])) (fun t k => st7 _ k) ?_
  obtain ⟨T8, h8, X8, e8, W8, st8⟩ := putF X7 hx hZ hown (host := "") (Or.inl (own_w hw 20 rfl)) Via.refl e7 F_zs_ranks E_zs (Or.inl (own_w hw 21 rfl)) (own_w hw 1 rfl) (ty := (.array .byte)) (by decide) rfl rfl (g := (mkF m 24 #[.val (.ref zs), .val (.int (4 : Int32)), .val .null, .unset] [(.ref b7), (.ref zs)])) rfl rfl (Jvm.hb hby d2_24)
  have N8 := Fr.snoc X8 N5 g_zs
  have E_zs := E_zs.wr W8
  have F_zs_parent := F_zs_parent.other W8 (Or.inr (slot_ne (Or.inl (own_w hw 18 rfl)) (Or.inl (own_w hw 21 rfl)) (by decide) (t := (.array .int)) (t' := (.array .byte)) (by decide) (by decide)))
  have F_zs_ranks := F_zs_ranks.same W8
  have F_zs_size := F_zs_size.other W8 (Or.inr (slot_ne (Or.inl (own_w hw 23 rfl)) (Or.inl (own_w hw 21 rfl)) (by decide) (t := .int) (t' := (.array .byte)) (by decide) (by decide)))
  have F_zs_unions := F_zs_unions.other W8 (Or.inr (slot_ne (Or.inr (own_w hw 25 rfl)) (Or.inl (own_w hw 21 rfl)) (by decide) (t := (.object "com/example/term_unifier/termunifier/IntStack")) (t' := (.array .byte)) (by decide) (by decide)))
  have V_b4 := V_b4.other W8 (Ne.symm ne_zs_b4)
  have V_b7 := V_b7.other W8 (Ne.symm ne_zs_b7)
  have K := K.wr W8 (Or.inl (List.mem_of_getElem? (i := 0) rfl))
  have Zs := Nat.le_trans Zs (Keep.of_wr W8).1
  refine own_go (B := T8.setTop (mkF m 27 #[.val (.ref zs), .val (.int (4 : Int32)), .val .null, .unset] [])) (fun t k => st8 _ k) ?_
  refine own_go (B := T8.setTop (mkF m 28 #[.val (.ref zs), .val (.int (4 : Int32)), .val .null, .unset] [(.int (0 : Int32))])) (fun t k => XS.iconst X8.here hx rfl (Jvm.hb hby d2_27) k) ?_
  refine own_go (B := T8.setTop (mkF m 29 #[.val (.ref zs), .val (.int (4 : Int32)), .val .null, .val (.int (0 : Int32))] [])) (fun t k => XS.istoreN X8.here hx rfl (Jvm.hb hby d2_28) rfl (l' := #[.val (.ref zs), .val (.int (4 : Int32)), .val .null, .val (.int (0 : Int32))]) rfl k) ?_
  refine own_go (B := T8.setTop (mkF m 30 #[.val (.ref zs), .val (.int (4 : Int32)), .val .null, .val (.int (0 : Int32))] [(.int (0 : Int32))])) (fun t k => XS.iloadN X8.here hx rfl (Jvm.hb hby d2_29) rfl k) ?_
  refine own_go (B := T8.setTop (mkF m 31 #[.val (.ref zs), .val (.int (4 : Int32)), .val .null, .val (.int (0 : Int32))] [(.int (4 : Int32)), (.int (0 : Int32))])) (fun t k => XS.iloadN X8.here hx rfl (Jvm.hb hby d2_30) rfl k) ?_
  refine own_go (B := T8.setTop (mkF m 34 #[.val (.ref zs), .val (.int (4 : Int32)), .val .null, .val (.int (0 : Int32))] [])) (fun t k => XS.icmpNo X8.here hx rfl (Jvm.hb hby d2_31) rfl (tlt (by decide : (0 : Int32) < (4 : Int32))).2.1 k) ?_
  refine own_go (B := T8.setTop (mkF m 35 #[.val (.ref zs), .val (.int (4 : Int32)), .val .null, .val (.int (0 : Int32))] [(.ref zs)])) (fun t k => XS.aloadN X8.here hx rfl (Jvm.hb hby d2_34) rfl rfl k) ?_
  obtain ⟨T9, X9, e9, st9⟩ := getF X8 hx hZ hown (host := "") (Or.inl (own_w hw 17 rfl)) Via.refl e8 F_zs_parent (g := (mkF m 35 #[.val (.ref zs), .val (.int (4 : Int32)), .val .null, .val (.int (0 : Int32))] [(.ref zs)])) rfl rfl (Jvm.hb hby d2_35)
  refine own_go (B := T9.setTop (mkF m 38 #[.val (.ref zs), .val (.int (4 : Int32)), .val .null, .val (.int (0 : Int32))] [(.ref b4)])) (fun t k => st9 _ k) ?_
  refine own_go (B := T9.setTop (mkF m 39 #[.val (.ref zs), .val (.int (4 : Int32)), .val .null, .val (.int (0 : Int32))] [(.int (0 : Int32)), (.ref b4)])) (fun t k => XS.iloadN X9.here hx rfl (Jvm.hb hby d2_38) rfl k) ?_
  refine own_go (B := T9.setTop (mkF m 40 #[.val (.ref zs), .val (.int (4 : Int32)), .val .null, .val (.int (0 : Int32))] [(.int (0 : Int32)), (.int (0 : Int32)), (.ref b4)])) (fun t k => XS.iloadN X9.here hx rfl (Jvm.hb hby d2_39) rfl k) ?_
  obtain ⟨T10, h10, X10, e10, W10, V10, st10⟩ := own_iastore X9 hx hZ e9 V_b4 (j := (0 : Int32)) (k := 0) (by decide) (by decide) (by decide) (g := (mkF m 40 #[.val (.ref zs), .val (.int (4 : Int32)), .val .null, .val (.int (0 : Int32))] [(.int (0 : Int32)), (.int (0 : Int32)), (.ref b4)])) rfl rfl (Jvm.hb hby d2_40)
  have N10 := Fr.snoc X10 N8 g_b4
  have E_zs := E_zs.wr W10
  have F_zs_parent := F_zs_parent.other W10 (Or.inl ne_zs_b4)
  have F_zs_ranks := F_zs_ranks.other W10 (Or.inl ne_zs_b4)
  have F_zs_size := F_zs_size.other W10 (Or.inl ne_zs_b4)
  have F_zs_unions := F_zs_unions.other W10 (Or.inl ne_zs_b4)
  have V_b7 := V_b7.other W10 (Ne.symm ne_b4_b7)
  have K := K.wr W10 (Or.inr sz_b4)
  have Zs := Nat.le_trans Zs (Keep.of_wr W10).1
  have V_b4 := V10
  refine own_go (B := T10.setTop (mkF m 41 #[.val (.ref zs), .val (.int (4 : Int32)), .val .null, .val (.int (0 : Int32))] [])) (fun t k => st10 _ k) ?_
  refine own_go (B := T10.setTop (mkF m 44 #[.val (.ref zs), .val (.int (4 : Int32)), .val .null, .val (.int ((0 : Int32) + (1 : Int32)))] [])) (fun t k => XS.iinc X10.here hx rfl (Jvm.hb hby d2_41) rfl (l' := #[.val (.ref zs), .val (.int (4 : Int32)), .val .null, .val (.int ((0 : Int32) + (1 : Int32)))]) rfl k) ?_
  rw [show ((0 : Int32) + (1 : Int32)) = (1 : Int32) from by decide]
  refine own_go (B := T10.setTop (mkF m 29 #[.val (.ref zs), .val (.int (4 : Int32)), .val .null, .val (.int (1 : Int32))] [])) (fun t k => XS.goto X10.here hx rfl (pc0 := 44) (pc' := 29) rfl (Jvm.hb hby d2_44) (by decide) (by decide) k) ?_
  refine own_go (B := T10.setTop (mkF m 30 #[.val (.ref zs), .val (.int (4 : Int32)), .val .null, .val (.int (1 : Int32))] [(.int (1 : Int32))])) (fun t k => XS.iloadN X10.here hx rfl (Jvm.hb hby d2_29) rfl k) ?_
  refine own_go (B := T10.setTop (mkF m 31 #[.val (.ref zs), .val (.int (4 : Int32)), .val .null, .val (.int (1 : Int32))] [(.int (4 : Int32)), (.int (1 : Int32))])) (fun t k => XS.iloadN X10.here hx rfl (Jvm.hb hby d2_30) rfl k) ?_
  refine own_go (B := T10.setTop (mkF m 34 #[.val (.ref zs), .val (.int (4 : Int32)), .val .null, .val (.int (1 : Int32))] [])) (fun t k => XS.icmpNo X10.here hx rfl (Jvm.hb hby d2_31) rfl (tlt (by decide : (1 : Int32) < (4 : Int32))).2.1 k) ?_
  refine own_go (B := T10.setTop (mkF m 35 #[.val (.ref zs), .val (.int (4 : Int32)), .val .null, .val (.int (1 : Int32))] [(.ref zs)])) (fun t k => XS.aloadN X10.here hx rfl (Jvm.hb hby d2_34) rfl rfl k) ?_
  obtain ⟨T11, X11, e11, st11⟩ := getF X10 hx hZ hown (host := "") (Or.inl (own_w hw 17 rfl)) Via.refl e10 F_zs_parent (g := (mkF m 35 #[.val (.ref zs), .val (.int (4 : Int32)), .val .null, .val (.int (1 : Int32))] [(.ref zs)])) rfl rfl (Jvm.hb hby d2_35)
  refine own_go (B := T11.setTop (mkF m 38 #[.val (.ref zs), .val (.int (4 : Int32)), .val .null, .val (.int (1 : Int32))] [(.ref b4)])) (fun t k => st11 _ k) ?_
  refine own_go (B := T11.setTop (mkF m 39 #[.val (.ref zs), .val (.int (4 : Int32)), .val .null, .val (.int (1 : Int32))] [(.int (1 : Int32)), (.ref b4)])) (fun t k => XS.iloadN X11.here hx rfl (Jvm.hb hby d2_38) rfl k) ?_
  refine own_go (B := T11.setTop (mkF m 40 #[.val (.ref zs), .val (.int (4 : Int32)), .val .null, .val (.int (1 : Int32))] [(.int (1 : Int32)), (.int (1 : Int32)), (.ref b4)])) (fun t k => XS.iloadN X11.here hx rfl (Jvm.hb hby d2_39) rfl k) ?_
  obtain ⟨T12, h12, X12, e12, W12, V12, st12⟩ := own_iastore X11 hx hZ e11 V_b4 (j := (1 : Int32)) (k := 1) (by decide) (by decide) (by decide) (g := (mkF m 40 #[.val (.ref zs), .val (.int (4 : Int32)), .val .null, .val (.int (1 : Int32))] [(.int (1 : Int32)), (.int (1 : Int32)), (.ref b4)])) rfl rfl (Jvm.hb hby d2_40)
  have N12 := Fr.snoc X12 N10 g_b4
  have E_zs := E_zs.wr W12
  have F_zs_parent := F_zs_parent.other W12 (Or.inl ne_zs_b4)
  have F_zs_ranks := F_zs_ranks.other W12 (Or.inl ne_zs_b4)
  have F_zs_size := F_zs_size.other W12 (Or.inl ne_zs_b4)
  have F_zs_unions := F_zs_unions.other W12 (Or.inl ne_zs_b4)
  have V_b7 := V_b7.other W12 (Ne.symm ne_b4_b7)
  have K := K.wr W12 (Or.inr sz_b4)
  have Zs := Nat.le_trans Zs (Keep.of_wr W12).1
  have V_b4 := V12
  refine own_go (B := T12.setTop (mkF m 41 #[.val (.ref zs), .val (.int (4 : Int32)), .val .null, .val (.int (1 : Int32))] [])) (fun t k => st12 _ k) ?_
  refine own_go (B := T12.setTop (mkF m 44 #[.val (.ref zs), .val (.int (4 : Int32)), .val .null, .val (.int ((1 : Int32) + (1 : Int32)))] [])) (fun t k => XS.iinc X12.here hx rfl (Jvm.hb hby d2_41) rfl (l' := #[.val (.ref zs), .val (.int (4 : Int32)), .val .null, .val (.int ((1 : Int32) + (1 : Int32)))]) rfl k) ?_
  rw [show ((1 : Int32) + (1 : Int32)) = (2 : Int32) from by decide]
  refine own_go (B := T12.setTop (mkF m 29 #[.val (.ref zs), .val (.int (4 : Int32)), .val .null, .val (.int (2 : Int32))] [])) (fun t k => XS.goto X12.here hx rfl (pc0 := 44) (pc' := 29) rfl (Jvm.hb hby d2_44) (by decide) (by decide) k) ?_
  refine own_go (B := T12.setTop (mkF m 30 #[.val (.ref zs), .val (.int (4 : Int32)), .val .null, .val (.int (2 : Int32))] [(.int (2 : Int32))])) (fun t k => XS.iloadN X12.here hx rfl (Jvm.hb hby d2_29) rfl k) ?_
  refine own_go (B := T12.setTop (mkF m 31 #[.val (.ref zs), .val (.int (4 : Int32)), .val .null, .val (.int (2 : Int32))] [(.int (4 : Int32)), (.int (2 : Int32))])) (fun t k => XS.iloadN X12.here hx rfl (Jvm.hb hby d2_30) rfl k) ?_
  refine own_go (B := T12.setTop (mkF m 34 #[.val (.ref zs), .val (.int (4 : Int32)), .val .null, .val (.int (2 : Int32))] [])) (fun t k => XS.icmpNo X12.here hx rfl (Jvm.hb hby d2_31) rfl (tlt (by decide : (2 : Int32) < (4 : Int32))).2.1 k) ?_
  refine own_go (B := T12.setTop (mkF m 35 #[.val (.ref zs), .val (.int (4 : Int32)), .val .null, .val (.int (2 : Int32))] [(.ref zs)])) (fun t k => XS.aloadN X12.here hx rfl (Jvm.hb hby d2_34) rfl rfl k) ?_
  obtain ⟨T13, X13, e13, st13⟩ := getF X12 hx hZ hown (host := "") (Or.inl (own_w hw 17 rfl)) Via.refl e12 F_zs_parent (g := (mkF m 35 #[.val (.ref zs), .val (.int (4 : Int32)), .val .null, .val (.int (2 : Int32))] [(.ref zs)])) rfl rfl (Jvm.hb hby d2_35)
  refine own_go (B := T13.setTop (mkF m 38 #[.val (.ref zs), .val (.int (4 : Int32)), .val .null, .val (.int (2 : Int32))] [(.ref b4)])) (fun t k => st13 _ k) ?_
  refine own_go (B := T13.setTop (mkF m 39 #[.val (.ref zs), .val (.int (4 : Int32)), .val .null, .val (.int (2 : Int32))] [(.int (2 : Int32)), (.ref b4)])) (fun t k => XS.iloadN X13.here hx rfl (Jvm.hb hby d2_38) rfl k) ?_
  refine own_go (B := T13.setTop (mkF m 40 #[.val (.ref zs), .val (.int (4 : Int32)), .val .null, .val (.int (2 : Int32))] [(.int (2 : Int32)), (.int (2 : Int32)), (.ref b4)])) (fun t k => XS.iloadN X13.here hx rfl (Jvm.hb hby d2_39) rfl k) ?_
  obtain ⟨T14, h14, X14, e14, W14, V14, st14⟩ := own_iastore X13 hx hZ e13 V_b4 (j := (2 : Int32)) (k := 2) (by decide) (by decide) (by decide) (g := (mkF m 40 #[.val (.ref zs), .val (.int (4 : Int32)), .val .null, .val (.int (2 : Int32))] [(.int (2 : Int32)), (.int (2 : Int32)), (.ref b4)])) rfl rfl (Jvm.hb hby d2_40)
  have N14 := Fr.snoc X14 N12 g_b4
  have E_zs := E_zs.wr W14
  have F_zs_parent := F_zs_parent.other W14 (Or.inl ne_zs_b4)
  have F_zs_ranks := F_zs_ranks.other W14 (Or.inl ne_zs_b4)
  have F_zs_size := F_zs_size.other W14 (Or.inl ne_zs_b4)
  have F_zs_unions := F_zs_unions.other W14 (Or.inl ne_zs_b4)
  have V_b7 := V_b7.other W14 (Ne.symm ne_b4_b7)
  have K := K.wr W14 (Or.inr sz_b4)
  have Zs := Nat.le_trans Zs (Keep.of_wr W14).1
  have V_b4 := V14
  refine own_go (B := T14.setTop (mkF m 41 #[.val (.ref zs), .val (.int (4 : Int32)), .val .null, .val (.int (2 : Int32))] [])) (fun t k => st14 _ k) ?_
  refine own_go (B := T14.setTop (mkF m 44 #[.val (.ref zs), .val (.int (4 : Int32)), .val .null, .val (.int ((2 : Int32) + (1 : Int32)))] [])) (fun t k => XS.iinc X14.here hx rfl (Jvm.hb hby d2_41) rfl (l' := #[.val (.ref zs), .val (.int (4 : Int32)), .val .null, .val (.int ((2 : Int32) + (1 : Int32)))]) rfl k) ?_
  rw [show ((2 : Int32) + (1 : Int32)) = (3 : Int32) from by decide]
  refine own_go (B := T14.setTop (mkF m 29 #[.val (.ref zs), .val (.int (4 : Int32)), .val .null, .val (.int (3 : Int32))] [])) (fun t k => XS.goto X14.here hx rfl (pc0 := 44) (pc' := 29) rfl (Jvm.hb hby d2_44) (by decide) (by decide) k) ?_
  refine own_go (B := T14.setTop (mkF m 30 #[.val (.ref zs), .val (.int (4 : Int32)), .val .null, .val (.int (3 : Int32))] [(.int (3 : Int32))])) (fun t k => XS.iloadN X14.here hx rfl (Jvm.hb hby d2_29) rfl k) ?_
  refine own_go (B := T14.setTop (mkF m 31 #[.val (.ref zs), .val (.int (4 : Int32)), .val .null, .val (.int (3 : Int32))] [(.int (4 : Int32)), (.int (3 : Int32))])) (fun t k => XS.iloadN X14.here hx rfl (Jvm.hb hby d2_30) rfl k) ?_
  refine own_go (B := T14.setTop (mkF m 34 #[.val (.ref zs), .val (.int (4 : Int32)), .val .null, .val (.int (3 : Int32))] [])) (fun t k => XS.icmpNo X14.here hx rfl (Jvm.hb hby d2_31) rfl (tlt (by decide : (3 : Int32) < (4 : Int32))).2.1 k) ?_
  refine own_go (B := T14.setTop (mkF m 35 #[.val (.ref zs), .val (.int (4 : Int32)), .val .null, .val (.int (3 : Int32))] [(.ref zs)])) (fun t k => XS.aloadN X14.here hx rfl (Jvm.hb hby d2_34) rfl rfl k) ?_
  obtain ⟨T15, X15, e15, st15⟩ := getF X14 hx hZ hown (host := "") (Or.inl (own_w hw 17 rfl)) Via.refl e14 F_zs_parent (g := (mkF m 35 #[.val (.ref zs), .val (.int (4 : Int32)), .val .null, .val (.int (3 : Int32))] [(.ref zs)])) rfl rfl (Jvm.hb hby d2_35)
  refine own_go (B := T15.setTop (mkF m 38 #[.val (.ref zs), .val (.int (4 : Int32)), .val .null, .val (.int (3 : Int32))] [(.ref b4)])) (fun t k => st15 _ k) ?_
  refine own_go (B := T15.setTop (mkF m 39 #[.val (.ref zs), .val (.int (4 : Int32)), .val .null, .val (.int (3 : Int32))] [(.int (3 : Int32)), (.ref b4)])) (fun t k => XS.iloadN X15.here hx rfl (Jvm.hb hby d2_38) rfl k) ?_
  refine own_go (B := T15.setTop (mkF m 40 #[.val (.ref zs), .val (.int (4 : Int32)), .val .null, .val (.int (3 : Int32))] [(.int (3 : Int32)), (.int (3 : Int32)), (.ref b4)])) (fun t k => XS.iloadN X15.here hx rfl (Jvm.hb hby d2_39) rfl k) ?_
  obtain ⟨T16, h16, X16, e16, W16, V16, st16⟩ := own_iastore X15 hx hZ e15 V_b4 (j := (3 : Int32)) (k := 3) (by decide) (by decide) (by decide) (g := (mkF m 40 #[.val (.ref zs), .val (.int (4 : Int32)), .val .null, .val (.int (3 : Int32))] [(.int (3 : Int32)), (.int (3 : Int32)), (.ref b4)])) rfl rfl (Jvm.hb hby d2_40)
  have N16 := Fr.snoc X16 N14 g_b4
  have E_zs := E_zs.wr W16
  have F_zs_parent := F_zs_parent.other W16 (Or.inl ne_zs_b4)
  have F_zs_ranks := F_zs_ranks.other W16 (Or.inl ne_zs_b4)
  have F_zs_size := F_zs_size.other W16 (Or.inl ne_zs_b4)
  have F_zs_unions := F_zs_unions.other W16 (Or.inl ne_zs_b4)
  have V_b7 := V_b7.other W16 (Ne.symm ne_b4_b7)
  have K := K.wr W16 (Or.inr sz_b4)
  have Zs := Nat.le_trans Zs (Keep.of_wr W16).1
  have V_b4 := V16
  refine own_go (B := T16.setTop (mkF m 41 #[.val (.ref zs), .val (.int (4 : Int32)), .val .null, .val (.int (3 : Int32))] [])) (fun t k => st16 _ k) ?_
  refine own_go (B := T16.setTop (mkF m 44 #[.val (.ref zs), .val (.int (4 : Int32)), .val .null, .val (.int ((3 : Int32) + (1 : Int32)))] [])) (fun t k => XS.iinc X16.here hx rfl (Jvm.hb hby d2_41) rfl (l' := #[.val (.ref zs), .val (.int (4 : Int32)), .val .null, .val (.int ((3 : Int32) + (1 : Int32)))]) rfl k) ?_
  rw [show ((3 : Int32) + (1 : Int32)) = (4 : Int32) from by decide]
  refine own_go (B := T16.setTop (mkF m 29 #[.val (.ref zs), .val (.int (4 : Int32)), .val .null, .val (.int (4 : Int32))] [])) (fun t k => XS.goto X16.here hx rfl (pc0 := 44) (pc' := 29) rfl (Jvm.hb hby d2_44) (by decide) (by decide) k) ?_
  refine own_go (B := T16.setTop (mkF m 30 #[.val (.ref zs), .val (.int (4 : Int32)), .val .null, .val (.int (4 : Int32))] [(.int (4 : Int32))])) (fun t k => XS.iloadN X16.here hx rfl (Jvm.hb hby d2_29) rfl k) ?_
  refine own_go (B := T16.setTop (mkF m 31 #[.val (.ref zs), .val (.int (4 : Int32)), .val .null, .val (.int (4 : Int32))] [(.int (4 : Int32)), (.int (4 : Int32))])) (fun t k => XS.iloadN X16.here hx rfl (Jvm.hb hby d2_30) rfl k) ?_
  refine own_go (B := T16.setTop (mkF m 47 #[.val (.ref zs), .val (.int (4 : Int32)), .val .null, .val (.int (4 : Int32))] [])) (fun t k => XS.icmpYes X16.here hx rfl (pc0 := 31) (pc' := 47) rfl (Jvm.hb hby d2_31) rfl (flt (by decide : ¬ ((4 : Int32) < (4 : Int32)))).2.1 (by decide) (by decide) k) ?_
  refine own_go (B := T16.setTop (mkF m 48 #[.val (.ref zs), .val (.int (4 : Int32)), .val .null, .val (.int (4 : Int32))] [(.ref zs)])) (fun t k => XS.aloadN X16.here hx rfl (Jvm.hb hby d2_47) rfl rfl k) ?_
  refine own_go (B := T16.setTop (mkF m 49 #[.val (.ref zs), .val (.int (4 : Int32)), .val .null, .val (.int (4 : Int32))] [(.int (4 : Int32)), (.ref zs)])) (fun t k => XS.iloadN X16.here hx rfl (Jvm.hb hby d2_48) rfl k) ?_
  obtain ⟨T17, h17, X17, e17, W17, st17⟩ := putF X16 hx hZ hown (host := "") (Or.inl (own_w hw 22 rfl)) Via.refl e16 F_zs_size E_zs (Or.inl (own_w hw 23 rfl)) (own_w hw 1 rfl) (ty := .int) (by decide) rfl rfl (g := (mkF m 49 #[.val (.ref zs), .val (.int (4 : Int32)), .val .null, .val (.int (4 : Int32))] [(.int (4 : Int32)), (.ref zs)])) rfl rfl (Jvm.hb hby d2_49)
  have N17 := Fr.snoc X17 N16 g_zs
  have E_zs := E_zs.wr W17
  have F_zs_parent := F_zs_parent.other W17 (Or.inr (slot_ne (Or.inl (own_w hw 18 rfl)) (Or.inl (own_w hw 23 rfl)) (by decide) (t := (.array .int)) (t' := .int) (by decide) (by decide)))
  have F_zs_ranks := F_zs_ranks.other W17 (Or.inr (slot_ne (Or.inl (own_w hw 21 rfl)) (Or.inl (own_w hw 23 rfl)) (by decide) (t := (.array .byte)) (t' := .int) (by decide) (by decide)))
  have F_zs_size := F_zs_size.same W17
  have F_zs_unions := F_zs_unions.other W17 (Or.inr (slot_ne (Or.inr (own_w hw 25 rfl)) (Or.inl (own_w hw 23 rfl)) (by decide) (t := (.object "com/example/term_unifier/termunifier/IntStack")) (t' := .int) (by decide) (by decide)))
  have V_b4 := V_b4.other W17 (Ne.symm ne_zs_b4)
  have V_b7 := V_b7.other W17 (Ne.symm ne_zs_b7)
  have K := K.wr W17 (Or.inl (List.mem_of_getElem? (i := 0) rfl))
  have Zs := Nat.le_trans Zs (Keep.of_wr W17).1
  refine own_go (B := T17.setTop (mkF m 52 #[.val (.ref zs), .val (.int (4 : Int32)), .val .null, .val (.int (4 : Int32))] [])) (fun t k => st17 _ k) ?_
  refine own_go (B := T17.setTop (mkF m 53 #[.val (.ref zs), .val (.int (4 : Int32)), .val .null, .val (.int (4 : Int32))] [(.ref zs)])) (fun t k => XS.aloadN X17.here hx rfl (Jvm.hb hby d2_52) rfl rfl k) ?_
  refine own_go (B := T17.setTop (mkF m 54 #[.val (.ref zs), .val (.int (4 : Int32)), .val .null, .val (.int (4 : Int32))] [.null, (.ref zs)])) (fun t k => XS.aloadN X17.here hx rfl (Jvm.hb hby d2_53) rfl rfl k) ?_
  obtain ⟨T18, h18, X18, e18, W18, st18⟩ := putF X17 hx hZ hown (host := "") (Or.inl (own_w hw 24 rfl)) Via.refl e17 F_zs_unions E_zs (Or.inr ⟨(own_w hw 25 rfl), rfl, hnm⟩) (own_w hw 1 rfl) (ty := (.object "com/example/term_unifier/termunifier/IntStack")) (by decide) rfl rfl (g := (mkF m 54 #[.val (.ref zs), .val (.int (4 : Int32)), .val .null, .val (.int (4 : Int32))] [.null, (.ref zs)])) rfl rfl (Jvm.hb hby d2_54)
  have N18 := Fr.snoc X18 N17 g_zs
  have E_zs := E_zs.wr W18
  have F_zs_parent := F_zs_parent.other W18 (Or.inr (slot_ne (Or.inl (own_w hw 18 rfl)) (Or.inr (own_w hw 25 rfl)) (by decide) (t := (.array .int)) (t' := (.object "com/example/term_unifier/termunifier/IntStack")) (by decide) (by decide)))
  have F_zs_ranks := F_zs_ranks.other W18 (Or.inr (slot_ne (Or.inl (own_w hw 21 rfl)) (Or.inr (own_w hw 25 rfl)) (by decide) (t := (.array .byte)) (t' := (.object "com/example/term_unifier/termunifier/IntStack")) (by decide) (by decide)))
  have F_zs_size := F_zs_size.other W18 (Or.inr (slot_ne (Or.inl (own_w hw 23 rfl)) (Or.inr (own_w hw 25 rfl)) (by decide) (t := .int) (t' := (.object "com/example/term_unifier/termunifier/IntStack")) (by decide) (by decide)))
  have F_zs_unions := F_zs_unions.same W18
  have V_b4 := V_b4.other W18 (Ne.symm ne_zs_b4)
  have V_b7 := V_b7.other W18 (Ne.symm ne_zs_b7)
  have K := K.wr W18 (Or.inl (List.mem_of_getElem? (i := 0) rfl))
  have Zs := Nat.le_trans Zs (Keep.of_wr W18).1
  refine own_go (B := T18.setTop (mkF m 57 #[.val (.ref zs), .val (.int (4 : Int32)), .val .null, .val (.int (4 : Int32))] [])) (fun t k => st18 _ k) ?_
  refine own_out X18 (v := none) (fun _ => rfl) Bd.notSynchronized (fun fs hr => X18.returnOut hx Bd.returns (Jvm.hb hby d2_57) hr) ?_ (by decide) (by decide)
  show own_Q2 Z zs h0 n0 none T18.heap _
  rw [e18]
  exact ⟨rfl, N18, b4, sz_b4, b7, sz_b7, ne_b4_b7, K, E_zs, F_zs_parent, F_zs_ranks, F_zs_size, F_zs_unions, V_b4, V_b7⟩
theorem d1_0 : decode prog_51_method_1_code 0 = .ok (.aload_n 0, 1) := by decide +kernel
theorem d1_1 : decode prog_51_method_1_code 1 = .ok (.iload_n 1, 1) := by decide +kernel
theorem d1_2 : decode prog_51_method_1_code 2 = .ok (.aconst_null, 1) := by decide +kernel
theorem d1_3 : decode prog_51_method_1_code 3 = .ok (.invokespecial 1, 3) := by decide +kernel
theorem d1_6 : decode prog_51_method_1_code 6 = .ok (.return_, 1) := by decide +kernel
theorem pd_1 : parseMethodDescriptor "(ILcom/example/term_unifier/termunifier/IntStack;)V" = some ⟨[.int, (.object "com/example/term_unifier/termunifier/IntStack")], none⟩ := by decide +kernel
theorem ef_1 (m : MethodId) (x0 : Addr) : entryFrame m #[(.ref x0), (.int (4 : Int32))] 2 = mkF m 0 #[.val (.ref x0), .val (.int (4 : Int32))] [] := by first | (simp [entryFrame, mkF, argsToLocals, Value.category]; done) | rfl
def own_Q1 (Z : State) (zs : Addr) (h0 : Heap) (n0 : Nat) (v : Option Value) (h : Heap) (L : List Loc) : Prop := v = none ∧ Fr n0 L ∧ ∃ zp : Addr, h0.size ≤ zp ∧ ∃ zk : Addr, h0.size ≤ zk ∧ zp ≠ zk ∧ Keep h0 h [zs] ∧ Exa Z h zs "com/example/term_unifier/termunifier/UnionFind" ∧ Fld Z h zs "com/example/term_unifier/termunifier/UnionFind" "parent" "[I" (.ref zp) ∧ Fld Z h zs "com/example/term_unifier/termunifier/UnionFind" "ranks" "[B" (.ref zk) ∧ Fld Z h zs "com/example/term_unifier/termunifier/UnionFind" "size" "I" (.int (4 : Int32)) ∧ Fld Z h zs "com/example/term_unifier/termunifier/UnionFind" "unions" "Lcom/example/term_unifier/termunifier/IntStack;" .null ∧ own_IA Z h zp .int 16 (own_upd (own_upd (own_upd (own_upd (fun _ => 0) 0 (0 : Int32)) 1 (1 : Int32)) 2 (2 : Int32)) 3 (3 : Int32)) ∧ own_IA Z h zk .byte 16 (fun _ => 0)
set_option maxRecDepth 65536 in
set_option maxHeartbeats 40000000 in
theorem rm1 (l : Launch) (Z : State) (a0 : Array Value) (hw : ∀ d ∈ tables_1, d.before a0 Z = true) (ws : List Jvm.Cond) (zs : Addr) (h0 : Heap) (n0 : Nat) (Z0 : n0 ≤ h0.size) (E_zs : Exa Z h0 zs "com/example/term_unifier/termunifier/UnionFind") (F_zs_parent : Fld Z h0 zs "com/example/term_unifier/termunifier/UnionFind" "parent" "[I" .null) (F_zs_ranks : Fld Z h0 zs "com/example/term_unifier/termunifier/UnionFind" "ranks" "[B" .null) (F_zs_size : Fld Z h0 zs "com/example/term_unifier/termunifier/UnionFind" "size" "I" (.int (0 : Int32))) (F_zs_unions : Fld Z h0 zs "com/example/term_unifier/termunifier/UnionFind" "unions" "Lcom/example/term_unifier/termunifier/IntStack;" .null) (g_zs : n0 ≤ zs) :
    MetFree l (⟨"com/example/term_unifier/termunifier/UnionFind", "<init>", "(I)V"⟩ : MethodName) (head1 (Jvm.Cond.code (⟨"com/example/term_unifier/termunifier/UnionFind", "<init>", "(I)V"⟩ : MethodName) prog_51_method_1_code 2 none :: ws) ({ frames := 2, cells := 2, slots := 32, locals := 29 } : Room)) (fun a U => a = #[(.ref zs), (.int (4 : Int32))] ∧ Z.Warmed39 U.vm ∧ U.heap = h0) (fun _ _ _ _ _ => True) (fun _ U o U' => ∃ v L, o = .returned v ∧ own_Q1 Z zs h0 n0 v U'.heap L ∧ FrameEnd U o U' L ({ frames := 2, cells := 2, slots := 32, locals := 29 } : Room).cells ({ frames := 2, cells := 2, slots := 32, locals := 29 } : Room).slots) := by
  refine MetFree.of_bodySF (plainFor_of_name pn_com_example_term_unifier_termunifier_UnionFind) hisR ?_
  intro p e s m args below meth c s₁ Bd hml0 hP hK
  obtain ⟨rfl, hZ, hh⟩ := hP
  have hx := Bd.exec
  have hby := Bd.bytes
  have hml : c.maxLocals = 2 := hml0
  have hown : s.vm.findClass "com/example/term_unifier/termunifier/UnionFind" = some m.cls := findClass_of_methodNamed Bd.named
  have hnm := (name_of_methodNamed Bd.named Bd.method).1
  have X0 : Stand p l e ({ frames := 2, cells := 2, slots := 32, locals := 29 } : Room) s m #[(.ref zs), (.int (4 : Int32))] below meth c s₁ [] 0 0 := Stand.of_body Bd
  have e0 : s₁.heap = h0 := by rw [← hh, Bd.state]; rfl
  have N0 := Fr.nil n0
  have Zs := Z0
  have K : Keep h0 h0 [zs] := Keep.refl _ _
  show own_Goes p e below s (own_Q1 Z zs h0 n0) ({ frames := 2, cells := 2, slots := 32, locals := 29 } : Room).cells ({ frames := 2, cells := 2, slots := 32, locals := 29 } : Room).slots _
  refine own_go (B := s₁.setTop (mkF m 0 #[.val (.ref zs), .val (.int (4 : Int32))] [])) (fun t k => castTop (ef_1 m zs) k) ?_
  refine own_go (B := s₁.setTop (mkF m 1 #[.val (.ref zs), .val (.int (4 : Int32))] [(.ref zs)])) (fun t k => XS.aloadN X0.here hx rfl (Jvm.hb hby d1_0) rfl rfl k) ?_
  refine own_go (B := s₁.setTop (mkF m 2 #[.val (.ref zs), .val (.int (4 : Int32))] [(.int (4 : Int32)), (.ref zs)])) (fun t k => XS.iloadN X0.here hx rfl (Jvm.hb hby d1_1) rfl k) ?_
  refine own_go (B := s₁.setTop (mkF m 3 #[.val (.ref zs), .val (.int (4 : Int32))] [.null, (.int (4 : Int32)), (.ref zs)])) (fun t k => XS.aconstNull X0.here hx rfl (Jvm.hb hby d1_2) k) ?_
  obtain ⟨_, _, ⟨T19, La19, ka19, na19⟩, -, X19, ⟨Lc19, hQ19, l19, y19, z19⟩, st19⟩ := X0.specialBack hx (y := (⟨"com/example/term_unifier/termunifier/UnionFind", "<init>", "(ILcom/example/term_unifier/termunifier/IntStack;)V"⟩ : MethodName)) rfl hown (mvT hZ (own_w hw 6 rfl)) (mvT hZ (own_w hw 7 rfl)) (mvT hZ (own_w hw 8 rfl)) (by decide) (backOf (W := 0) (rm2 l Z a0 hw [] zs h0 n0 Zs E_zs F_zs_parent F_zs_ranks F_zs_size F_zs_unions g_zs) hZ (own_w hw 8 rfl) (own_w hw 2 rfl) (by decide) (by decide)) (g := (mkF m 3 #[.val (.ref zs), .val (.int (4 : Int32))] [.null, (.int (4 : Int32)), (.ref zs)])) rfl (by rw [hml]; rfl) (Steps.refl _) (a := zs) (argsL := [(.int (4 : Int32)), .null]) (rest := []) (lenOf pd_1 rfl) rfl (by show 2 * 0 + _ ≤ _; exact Nat.le_of_eq rfl) (Jvm.hb hby d1_3) (fun _ _ => ⟨rfl, e0, (by decide : 0 + 2 ≤ _), (by decide : 0 + 32 ≤ _)⟩)
  dsimp only [Pt.U, Pt.locs, Pt.cells, Pt.slots] at X19 l19 y19 z19 st19 hQ19
  subst l19 y19 z19
  obtain ⟨rfl, N19q, b20, sq_b20, b21, sq_b21, ne_b20_b21, Kc19, E_zs_q, F_zs_parent_q, F_zs_ranks_q, F_zs_size_q, F_zs_unions_q, V_b20_q, V_b21_q⟩ := hQ19
  have g_b20 : n0 ≤ b20 := Nat.le_trans Zs sq_b20
  have sz_b20 : h0.size ≤ b20 := Nat.le_trans K.1 sq_b20
  have ne_zs_b20 : zs ≠ b20 := Nat.ne_of_lt (Nat.lt_of_lt_of_le E_zs.lt sq_b20)
  have g_b21 : n0 ≤ b21 := Nat.le_trans Zs sq_b21
  have sz_b21 : h0.size ≤ b21 := Nat.le_trans K.1 sq_b21
  have ne_zs_b21 : zs ≠ b21 := Nat.ne_of_lt (Nat.lt_of_lt_of_le E_zs.lt sq_b21)
  have N19 := Fr.app N0 N19q
  have K := K.trans Kc19 (allS (Or.inl (List.mem_of_getElem? (i := 0) rfl)) all0)
  have Zs := Nat.le_trans Zs Kc19.1
  have E_zs := E_zs_q
  have F_zs_parent := F_zs_parent_q
  have F_zs_ranks := F_zs_ranks_q
  have F_zs_size := F_zs_size_q
  have F_zs_unions := F_zs_unions_q
  have V_b20 := V_b20_q
  have V_b21 := V_b21_q
  refine own_go (B := T19.setTop (mkF m 6 #[.val (.ref zs), .val (.int (4 : Int32))] [])) (fun t k => own_st st19 k) ?_
  refine own_out X19 (v := none) (fun _ => rfl) Bd.notSynchronized (fun fs hr => X19.returnOut hx Bd.returns (Jvm.hb hby d1_6) hr) ?_ (by decide) (by decide)
  show own_Q1 Z zs h0 n0 none T19.heap _
  exact ⟨rfl, N19, b20, sz_b20, b21, sz_b21, ne_b20_b21, K, E_zs, F_zs_parent, F_zs_ranks, F_zs_size, F_zs_unions, V_b20, V_b21⟩
def own_INV (f q : Nat → Int32) : Prop := ∃ (p r H : Nat → Nat), ∀ i, i < 4 → p i < 4 ∧ r i < 4 ∧ (f i).toInt = p i ∧ (q i).toInt = r i ∧ r (p i) = r i ∧ p (r i) = r i ∧ r (r i) = r i ∧ (p i ≠ i → H (p i) < H i) ∧ (p i = i → r i = i)
theorem own_tn (x : Int32) (k : Nat) (h : x.toInt = k) : x.toNatClampNeg = k := by unfold Int32.toNatClampNeg; omega
theorem own_nn (x : Int32) : (¬ (x < (0 : Int32))) ↔ 0 ≤ x.toInt := by
  rw [Int32.lt_iff_toInt_lt]; have : (0 : Int32).toInt = 0 := rfl; omega
/-- the height of a number in a forest -/
def own_HT (f q : Nat → Int32) (n : Nat) (x : Int32) : Prop := ∃ (p r H : Nat → Nat), (∀ i, i < 4 → p i < 4 ∧ r i < 4 ∧ (f i).toInt = p i ∧ (q i).toInt = r i ∧ r (p i) = r i ∧ p (r i) = r i ∧ r (r i) = r i ∧ (p i ≠ i → H (p i) < H i) ∧ (p i = i → r i = i)) ∧ ∃ k : Nat, x.toInt = k ∧ k < 4 ∧ H k ≤ n
theorem own_HT_inv {f q : Nat → Int32} {n : Nat} {x : Int32} (h : own_HT f q n x) : own_INV f q := by
  obtain ⟨p, r, H, a, -⟩ := h; exact ⟨p, r, H, a⟩
theorem own_HT_rng {f q : Nat → Int32} {n : Nat} {x : Int32} (h : own_HT f q n x) : 0 ≤ x.toInt ∧ x.toNatClampNeg < 4 := by
  obtain ⟨p, r, H, a, k, b, c, d⟩ := h; rw [own_tn x k b]; omega
theorem own_HT_p {f q : Nat → Int32} {n : Nat} {x : Int32} (h : own_HT f q n x) : 0 ≤ (f x.toNatClampNeg).toInt ∧ (f x.toNatClampNeg).toNatClampNeg < 4 := by
  obtain ⟨p, r, H, a, k, b, c, d⟩ := h
  rw [own_tn x k b]
  have e := a k c
  rw [own_tn (f k) (p k) e.2.2.1]; omega
theorem own_HT_end {f q : Nat → Int32} {n : Nat} {x : Int32} (h : own_HT f q n x) (e : f x.toNatClampNeg = x) : q x.toNatClampNeg = x := by
  obtain ⟨p, r, H, a, k, b, c, d⟩ := h
  rw [own_tn x k b] at *
  have z := a k c
  have e2 : p k = k := by have : ((p k : Nat) : Int) = k := by rw [← z.2.2.1, e, b]
                          omega
  apply Int32.toInt_inj.mp
  rw [z.2.2.2.1, z.2.2.2.2.2.2.2.2 e2, b]
theorem own_HT_zero {f q : Nat → Int32} {x : Int32} (h : own_HT f q 0 x) : f x.toNatClampNeg = x := by
  obtain ⟨p, r, H, a, k, b, c, d⟩ := h
  rw [own_tn x k b] at *
  have z := a k c
  have e2 : p k = k := by
    by_cases g : p k = k
    · exact g
    · have := z.2.2.2.2.2.2.2.1 g; omega
  apply Int32.toInt_inj.mp; rw [z.2.2.1, e2, b]
theorem own_HT_next {f q : Nat → Int32} {n : Nat} {x : Int32} (h : own_HT f q (n + 1) x) (e : ¬ (f x.toNatClampNeg = x)) :
    own_HT (own_upd f x.toNatClampNeg (f (f x.toNatClampNeg).toNatClampNeg)) q n (f (f x.toNatClampNeg).toNatClampNeg) ∧ q (f (f x.toNatClampNeg).toNatClampNeg).toNatClampNeg = q x.toNatClampNeg := by
  obtain ⟨p, r, H, a, k, b, c, d⟩ := h
  rw [own_tn x k b] at *
  have z := a k c
  have ek : p k ≠ k := by
    intro g; apply e; apply Int32.toInt_inj.mp; rw [z.2.2.1, g, b]
  have zp := a (p k) z.1
  rw [own_tn (f k) (p k) z.2.2.1]
  have hd := z.2.2.2.2.2.2.2.1 ek
  have hH : H (p (p k)) < H k := by
    by_cases g : p (p k) = p k
    · rw [g]; exact hd
    · have := zp.2.2.2.2.2.2.2.1 g; omega
  have hne : p (p k) ≠ k := by intro g; rw [g] at hH; omega
  refine ⟨⟨fun j => if j = k then p (p k) else p j, r, H, ?_, p (p k), zp.2.2.1, zp.1, by omega⟩, ?_⟩
  · intro i hi
    have w := a i hi
    have hr : r i ≠ k := by intro g; have := w.2.2.2.2.2.1; rw [g] at this; exact ek this
    unfold own_upd
    by_cases g : i = k
    · subst g
      simp only [if_true, if_neg hr]
      refine ⟨zp.1, w.2.1, zp.2.2.1, w.2.2.2.1, ?_, w.2.2.2.2.2.1, w.2.2.2.2.2.2.1, fun _ => hH, fun q => absurd q hne⟩
      rw [zp.2.2.2.2.1, w.2.2.2.2.1]
    · simp only [if_neg g, if_neg hr]
      exact w
  · rw [own_tn _ (p (p k)) zp.2.2.1]
    apply Int32.toInt_inj.mp
    rw [(a (p (p k)) zp.1).2.2.2.1, z.2.2.2.1, zp.2.2.2.2.1, z.2.2.2.2.1]
theorem own_HT_mk {f q : Nat → Int32} (h : own_INV f q) (x : Int32) (k : Nat) (hx : x.toInt = k) (hk : k < 4) : ∃ n, own_HT f q n x := by
  obtain ⟨p, r, H, a⟩ := h
  exact ⟨H k, p, r, H, a, k, hx, hk, Nat.le_refl _⟩
theorem own_INV0 : own_INV (own_upd (own_upd (own_upd (own_upd (fun _ => 0) 0 (0 : Int32)) 1 (1 : Int32)) 2 (2 : Int32)) 3 (3 : Int32)) (own_upd (own_upd (own_upd (own_upd (fun _ => 0) 0 (0 : Int32)) 1 (1 : Int32)) 2 (2 : Int32)) 3 (3 : Int32)) := by
  refine ⟨fun i => i, fun i => i, fun _ => 0, ?_⟩
  intro i hi
  have : i = 0 ∨ i = 1 ∨ i = 2 ∨ i = 3 := by omega
  rcases this with rfl | rfl | rfl | rfl <;> simp [own_upd]
theorem own_INVq {f q : Nat → Int32} (h : own_INV f q) (i : Nat) (hi : i < 4) : ∃ k : Nat, (q i).toInt = k ∧ k < 4 := by
  obtain ⟨p, r, H, a⟩ := h
  exact ⟨r i, (a i hi).2.2.2.1, (a i hi).2.1⟩
/-- a union of two classes -/
theorem own_uni {f q g : Nat → Int32} (h : own_INV f q) (i j : Nat) (hi : i < 4) (hj : j < 4) (hne : ¬ (q i = q j)) (m c : Int32) (kc : Nat) (hc : c.toInt = kc) (hm : (m = q i ∧ c = q j) ∨ (m = q j ∧ c = q i))
    (hg : ∀ k, k < 4 → g k = if q k = q i ∨ q k = q j then m else q k) : own_INV (own_upd f kc m) g := by
  obtain ⟨p, r, H, a⟩ := h
  have ai := a i hi; have aj := a j hj
  obtain ⟨u, v, hu, hv, hu4, hv4, eu, ev, hpu, hpv, hru, hrv, huv, hcl, hq⟩ : ∃ u v : Nat, m.toInt = u ∧ kc = v ∧ u < 4 ∧ v < 4 ∧ p u = u ∧ p v = v ∧ p u = u ∧ p v = v ∧ r u = u ∧ r v = v ∧ u ≠ v ∧ (∀ k, k < 4 → ((q k = q i ∨ q k = q j) ↔ (r k = u ∨ r k = v))) ∧ True := by
    have hnr : r i ≠ r j := fun e => hne (Int32.toInt_inj.mp (by rw [ai.2.2.2.1, aj.2.2.2.1, e]))
    have hcl : ∀ k, k < 4 → ((q k = q i ∨ q k = q j) ↔ (r k = r i ∨ r k = r j)) := by
      intro k hk
      have ak := a k hk
      rw [← Int32.toInt_inj, ← Int32.toInt_inj, ak.2.2.2.1, ai.2.2.2.1, aj.2.2.2.1]
      omega
    rcases hm with ⟨e1, e2⟩ | ⟨e1, e2⟩
    · refine ⟨r i, r j, by rw [e1, ai.2.2.2.1], ?_, ai.2.1, aj.2.1, ai.2.2.2.2.2.1, aj.2.2.2.2.2.1, ai.2.2.2.2.2.1, aj.2.2.2.2.2.1, ai.2.2.2.2.2.2.1, aj.2.2.2.2.2.2.1, hnr, hcl, trivial⟩
      rw [e2, aj.2.2.2.1] at hc; omega
    · refine ⟨r j, r i, by rw [e1, aj.2.2.2.1], ?_, aj.2.1, ai.2.1, aj.2.2.2.2.2.1, ai.2.2.2.2.2.1, aj.2.2.2.2.2.1, ai.2.2.2.2.2.1, aj.2.2.2.2.2.2.1, ai.2.2.2.2.2.2.1, fun e => hnr e.symm, fun k hk => (hcl k hk).trans Or.comm, trivial⟩
      rw [e2, ai.2.2.2.1] at hc; omega
  subst hv
  refine ⟨fun k => if k = kc then u else p k, fun k => if r k = u ∨ r k = kc then u else r k, fun k => if r k = kc then H k + H u + 1 else H k, ?_⟩
  intro k hk
  have ak := a k hk
  rw [hg k hk]
  have hif : (if q k = q i ∨ q k = q j then m else q k) = if r k = u ∨ r k = kc then m else q k := by
    by_cases g : r k = u ∨ r k = kc
    · rw [if_pos g, if_pos ((hcl k hk).mpr g)]
    · rw [if_neg g, if_neg (fun z => g ((hcl k hk).mp z))]
  rw [hif]
  unfold own_upd
  have huk : ¬ (u = kc) := huv
  by_cases g : k = kc
  · subst g
    simp only [if_true, hrv, hru, or_true, true_or, if_neg huk]
    refine ⟨hu4, hu4, hu, hu, trivial, hpu, trivial, ?_, ?_⟩
    · intro _; omega
    · intro e; exact e
  · simp only [if_neg g]
    have hpk : ¬ (p k = kc) ∨ p k = kc := by omega
    by_cases s : r k = u ∨ r k = kc
    · simp only [if_pos s, ak.2.2.2.2.1, hru, true_or, if_true, if_neg huk]
      refine ⟨ak.1, hu4, ak.2.2.1, hu, trivial, hpu, trivial, ?_, ?_⟩
      · intro e
        have := ak.2.2.2.2.2.2.2.1 e
        split <;> omega
      · intro e
        have := ak.2.2.2.2.2.2.2.2 e
        omega
    · have s1 : ¬ (r k = u) := fun z => s (Or.inl z)
      have s2 : ¬ (r k = kc) := fun z => s (Or.inr z)
      simp only [if_neg s, ak.2.2.2.2.1, if_neg s2, ak.2.2.2.2.2.1, ak.2.2.2.2.2.2.1]
      exact ⟨ak.1, ak.2.1, ak.2.2.1, ak.2.2.2.1, trivial, trivial, trivial, ak.2.2.2.2.2.2.2.1, ak.2.2.2.2.2.2.2.2⟩
theorem d7_0 : decode prog_51_method_6_code 0 = .ok (.iload_n 1, 1) := by decide +kernel
theorem d7_1 : decode prog_51_method_6_code 1 = .ok (.istore_n 2, 1) := by decide +kernel
theorem d7_2 : decode prog_51_method_6_code 2 = .ok (.aload_n 0, 1) := by decide +kernel
theorem d7_3 : decode prog_51_method_6_code 3 = .ok (.getfield 18, 3) := by decide +kernel
theorem d7_6 : decode prog_51_method_6_code 6 = .ok (.iload_n 2, 1) := by decide +kernel
theorem d7_7 : decode prog_51_method_6_code 7 = .ok (.iaload, 1) := by decide +kernel
theorem d7_8 : decode prog_51_method_6_code 8 = .ok (.iload_n 2, 1) := by decide +kernel
theorem d7_9 : decode prog_51_method_6_code 9 = .ok (.if_icmp .eq 37, 3) := by decide +kernel
theorem d7_12 : decode prog_51_method_6_code 12 = .ok (.aload_n 0, 1) := by decide +kernel
theorem d7_13 : decode prog_51_method_6_code 13 = .ok (.getfield 30, 3) := by decide +kernel
theorem d7_16 : decode prog_51_method_6_code 16 = .ok (.ifnonnull 20, 3) := by decide +kernel
theorem d7_19 : decode prog_51_method_6_code 19 = .ok (.aload_n 0, 1) := by decide +kernel
theorem d7_20 : decode prog_51_method_6_code 20 = .ok (.getfield 18, 3) := by decide +kernel
theorem d7_23 : decode prog_51_method_6_code 23 = .ok (.iload_n 2, 1) := by decide +kernel
theorem d7_24 : decode prog_51_method_6_code 24 = .ok (.aload_n 0, 1) := by decide +kernel
theorem d7_25 : decode prog_51_method_6_code 25 = .ok (.getfield 18, 3) := by decide +kernel
theorem d7_28 : decode prog_51_method_6_code 28 = .ok (.aload_n 0, 1) := by decide +kernel
theorem d7_29 : decode prog_51_method_6_code 29 = .ok (.getfield 18, 3) := by decide +kernel
theorem d7_32 : decode prog_51_method_6_code 32 = .ok (.iload_n 2, 1) := by decide +kernel
theorem d7_33 : decode prog_51_method_6_code 33 = .ok (.iaload, 1) := by decide +kernel
theorem d7_34 : decode prog_51_method_6_code 34 = .ok (.iaload, 1) := by decide +kernel
theorem d7_35 : decode prog_51_method_6_code 35 = .ok (.iastore, 1) := by decide +kernel
theorem d7_36 : decode prog_51_method_6_code 36 = .ok (.aload_n 0, 1) := by decide +kernel
theorem d7_37 : decode prog_51_method_6_code 37 = .ok (.getfield 18, 3) := by decide +kernel
theorem d7_40 : decode prog_51_method_6_code 40 = .ok (.iload_n 2, 1) := by decide +kernel
theorem d7_41 : decode prog_51_method_6_code 41 = .ok (.iaload, 1) := by decide +kernel
theorem d7_42 : decode prog_51_method_6_code 42 = .ok (.istore_n 2, 1) := by decide +kernel
theorem d7_43 : decode prog_51_method_6_code 43 = .ok (.goto (-41), 3) := by decide +kernel
theorem d7_46 : decode prog_51_method_6_code 46 = .ok (.iload_n 2, 1) := by decide +kernel
theorem d7_47 : decode prog_51_method_6_code 47 = .ok (.ireturn, 1) := by decide +kernel
theorem ef_7 (m : MethodId) (x0 : Addr) (x1 : Int32) : entryFrame m #[(.ref x0), (.int x1)] 3 = mkF m 0 #[.val (.ref x0), .val (.int x1), .unset] [] := by first | (simp [entryFrame, mkF, argsToLocals, Value.category]; done) | rfl
def own_Q7 (Z : State) (zs : Addr) (zx : Int32) (zp : Addr) (zf : Nat → Int32) (zr : Nat → Int32) (zv : Int32) (znn : Nat) (h0 : Heap) (n0 : Nat) (v : Option Value) (h : Heap) (L : List Loc) : Prop := v = some (.int zv) ∧ Fr n0 L ∧ ∃ zg : Nat → Int32, True ∧ (own_INV zg zr) ∧ Keep h0 h [zp] ∧ Exa Z h zs "com/example/term_unifier/termunifier/UnionFind" ∧ Fld Z h zs "com/example/term_unifier/termunifier/UnionFind" "parent" "[I" (.ref zp) ∧ Fld Z h zs "com/example/term_unifier/termunifier/UnionFind" "unions" "Lcom/example/term_unifier/termunifier/IntStack;" .null ∧ own_IA Z h zp .int 16 zg
set_option maxRecDepth 65536 in
set_option maxHeartbeats 40000000 in
theorem rm7 (l : Launch) (Z : State) (a0 : Array Value) (hw : ∀ d ∈ tables_1, d.before a0 Z = true) (ws : List Jvm.Cond) (zs : Addr) (zx : Int32) (zp : Addr) (zf : Nat → Int32) (zr : Nat → Int32) (zv : Int32) (znn : Nat) (h0 : Heap) (n0 : Nat) (Z0 : n0 ≤ h0.size) (E_zs : Exa Z h0 zs "com/example/term_unifier/termunifier/UnionFind") (F_zs_parent : Fld Z h0 zs "com/example/term_unifier/termunifier/UnionFind" "parent" "[I" (.ref zp)) (F_zs_unions : Fld Z h0 zs "com/example/term_unifier/termunifier/UnionFind" "unions" "Lcom/example/term_unifier/termunifier/IntStack;" .null) (V_zp : own_IA Z h0 zp .int 16 zf) (g_zp : n0 ≤ zp) (ne_zs_zp : zs ≠ zp) (hHT : own_HT zf zr znn zx) (hzv : zr zx.toNatClampNeg = zv) :
    MetFree l (⟨"com/example/term_unifier/termunifier/UnionFind", "find", "(I)I"⟩ : MethodName) (head1 (Jvm.Cond.code (⟨"com/example/term_unifier/termunifier/UnionFind", "find", "(I)I"⟩ : MethodName) prog_51_method_6_code 3 (some .int) :: ws) ({ frames := 0, cells := 0, slots := 0, locals := 0 } : Room)) (fun a U => a = #[(.ref zs), (.int zx)] ∧ Z.Warmed39 U.vm ∧ U.heap = h0) (fun _ _ _ _ _ => True) (fun _ U o U' => ∃ v L, o = .returned v ∧ own_Q7 Z zs zx zp zf zr zv znn h0 n0 v U'.heap L ∧ FrameEnd U o U' L ({ frames := 0, cells := 0, slots := 0, locals := 0 } : Room).cells ({ frames := 0, cells := 0, slots := 0, locals := 0 } : Room).slots) := by
  refine MetFree.of_bodySF (plainFor_of_name pn_com_example_term_unifier_termunifier_UnionFind) hisR ?_
  intro p e s m args below meth c s₁ Bd hml0 hP hK
  obtain ⟨rfl, hZ, hh⟩ := hP
  have hx := Bd.exec
  have hby := Bd.bytes
  have hml : c.maxLocals = 3 := hml0
  have hown : s.vm.findClass "com/example/term_unifier/termunifier/UnionFind" = some m.cls := findClass_of_methodNamed Bd.named
  have hnm := (name_of_methodNamed Bd.named Bd.method).1
  have X0 : Stand p l e ({ frames := 0, cells := 0, slots := 0, locals := 0 } : Room) s m #[(.ref zs), (.int zx)] below meth c s₁ [] 0 0 := Stand.of_body Bd
  have e0 : s₁.heap = h0 := by rw [← hh, Bd.state]; rfl
  have N0 := Fr.nil n0
  have Zs := Z0
  have K : Keep h0 h0 [zp] := Keep.refl _ _
  show own_Goes p e below s (own_Q7 Z zs zx zp zf zr zv znn h0 n0) ({ frames := 0, cells := 0, slots := 0, locals := 0 } : Room).cells ({ frames := 0, cells := 0, slots := 0, locals := 0 } : Room).slots _
  refine own_go (B := s₁.setTop (mkF m 0 #[.val (.ref zs), .val (.int zx), .unset] [])) (fun t k => castTop (ef_7 m zs zx) k) ?_
  refine own_go (B := s₁.setTop (mkF m 1 #[.val (.ref zs), .val (.int zx), .unset] [(.int zx)])) (fun t k => XS.iloadN X0.here hx rfl (Jvm.hb hby d7_0) rfl k) ?_
  refine own_go (B := s₁.setTop (mkF m 2 #[.val (.ref zs), .val (.int zx), .val (.int zx)] [])) (fun t k => XS.istoreN X0.here hx rfl (Jvm.hb hby d7_1) rfl (l' := #[.val (.ref zs), .val (.int zx), .val (.int zx)]) rfl k) ?_
  have L2 : ∀ (n : Nat) (hj2 : Heap) (Tj2 : State) (Lj2 : List Loc) (Xj2 : Stand p l e ({ frames := 0, cells := 0, slots := 0, locals := 0 } : Room) s m #[(.ref zs), (.int zx)] below meth c Tj2 Lj2 0 0) (ej2 : Tj2.heap = hj2) (Nj2 : Fr n0 Lj2) (Zs : n0 ≤ hj2.size) (K : Keep h0 hj2 [zp]) (vc : Int32) (zg : Nat → Int32) (E_zs : Exa Z hj2 zs "com/example/term_unifier/termunifier/UnionFind") (F_zs_parent : Fld Z hj2 zs "com/example/term_unifier/termunifier/UnionFind" "parent" "[I" (.ref zp)) (F_zs_unions : Fld Z hj2 zs "com/example/term_unifier/termunifier/UnionFind" "unions" "Lcom/example/term_unifier/termunifier/IntStack;" .null) (V_zp : own_IA Z hj2 zp .int 16 zg) (hH : own_HT zg zr n vc) (hR : zr vc.toNatClampNeg = zv), own_Goes p e below s (own_Q7 Z zs zx zp zf zr zv znn h0 n0) ({ frames := 0, cells := 0, slots := 0, locals := 0 } : Room).cells ({ frames := 0, cells := 0, slots := 0, locals := 0 } : Room).slots (Tj2.setTop (mkF m 2 #[.val (.ref zs), .val (.int zx), .val (.int vc)] [])) := by
    intro n
    induction n with
    | zero =>
      intro hj2 Tj2 Lj2 Xj2 ej2 Nj2 Zs K vc zg E_zs F_zs_parent F_zs_unions V_zp hH hR
      refine own_go (B := Tj2.setTop (mkF m 3 #[.val (.ref zs), .val (.int zx), .val (.int vc)] [(.ref zs)])) (fun t k => XS.aloadN Xj2.here hx rfl (Jvm.hb hby d7_2) rfl rfl k) ?_
      obtain ⟨T22, X22, e22, st22⟩ := getF Xj2 hx hZ hown (host := "") (Or.inl (own_w hw 17 rfl)) Via.refl ej2 F_zs_parent (g := (mkF m 3 #[.val (.ref zs), .val (.int zx), .val (.int vc)] [(.ref zs)])) rfl rfl (Jvm.hb hby d7_3)
      refine own_go (B := T22.setTop (mkF m 6 #[.val (.ref zs), .val (.int zx), .val (.int vc)] [(.ref zp)])) (fun t k => st22 _ k) ?_
      refine own_go (B := T22.setTop (mkF m 7 #[.val (.ref zs), .val (.int zx), .val (.int vc)] [(.int vc), (.ref zp)])) (fun t k => XS.iloadN X22.here hx rfl (Jvm.hb hby d7_6) rfl k) ?_
      refine own_go (B := T22.setTop (mkF m 8 #[.val (.ref zs), .val (.int zx), .val (.int vc)] [(.int (zg vc.toNatClampNeg))])) (fun t k => own_iaload X22 hx hZ e22 V_zp (j := vc) (k := vc.toNatClampNeg) (by rw [own_nn]; exact (own_HT_rng hH).1) rfl (by have := (own_HT_rng hH).2; omega) (Jvm.hb hby d7_7) t k) ?_
      refine own_go (B := T22.setTop (mkF m 9 #[.val (.ref zs), .val (.int zx), .val (.int vc)] [(.int vc), (.int (zg vc.toNatClampNeg))])) (fun t k => XS.iloadN X22.here hx rfl (Jvm.hb hby d7_8) rfl k) ?_
      refine own_go (B := T22.setTop (mkF m 46 #[.val (.ref zs), .val (.int zx), .val (.int vc)] [])) (fun t k => XS.icmpYes X22.here hx rfl (pc0 := 9) (pc' := 46) rfl (Jvm.hb hby d7_9) rfl (teq (own_HT_zero hH)).1 (by decide) (by decide) k) ?_
      refine own_go (B := T22.setTop (mkF m 47 #[.val (.ref zs), .val (.int zx), .val (.int vc)] [(.int vc)])) (fun t k => XS.iloadN X22.here hx rfl (Jvm.hb hby d7_46) rfl k) ?_
      refine own_out X22 (v := (some (.int vc))) (fun h => by rw [Bd.returns] at h; cases h) Bd.notSynchronized (fun fs hr => retOut X22 hx (t := .int) Bd.returns rfl (Or.inl ⟨rfl, Or.inl rfl, _, rfl⟩) (Jvm.hb hby d7_47) hr) ?_ (by decide) (by decide)
      show own_Q7 Z zs zx zp zf zr zv znn h0 n0 (some (.int vc)) T22.heap _
      rw [e22]
      exact ⟨(by rw [← hR, own_HT_end hH (own_HT_zero hH)]), Nj2, zg, trivial, (own_HT_inv hH), K, E_zs, F_zs_parent, F_zs_unions, V_zp⟩
    | succ n ih =>
      intro hj2 Tj2 Lj2 Xj2 ej2 Nj2 Zs K vc zg E_zs F_zs_parent F_zs_unions V_zp hH hR
      refine own_go (B := Tj2.setTop (mkF m 3 #[.val (.ref zs), .val (.int zx), .val (.int vc)] [(.ref zs)])) (fun t k => XS.aloadN Xj2.here hx rfl (Jvm.hb hby d7_2) rfl rfl k) ?_
      obtain ⟨T23, X23, e23, st23⟩ := getF Xj2 hx hZ hown (host := "") (Or.inl (own_w hw 17 rfl)) Via.refl ej2 F_zs_parent (g := (mkF m 3 #[.val (.ref zs), .val (.int zx), .val (.int vc)] [(.ref zs)])) rfl rfl (Jvm.hb hby d7_3)
      refine own_go (B := T23.setTop (mkF m 6 #[.val (.ref zs), .val (.int zx), .val (.int vc)] [(.ref zp)])) (fun t k => st23 _ k) ?_
      refine own_go (B := T23.setTop (mkF m 7 #[.val (.ref zs), .val (.int zx), .val (.int vc)] [(.int vc), (.ref zp)])) (fun t k => XS.iloadN X23.here hx rfl (Jvm.hb hby d7_6) rfl k) ?_
      refine own_go (B := T23.setTop (mkF m 8 #[.val (.ref zs), .val (.int zx), .val (.int vc)] [(.int (zg vc.toNatClampNeg))])) (fun t k => own_iaload X23 hx hZ e23 V_zp (j := vc) (k := vc.toNatClampNeg) (by rw [own_nn]; exact (own_HT_rng hH).1) rfl (by have := (own_HT_rng hH).2; omega) (Jvm.hb hby d7_7) t k) ?_
      refine own_go (B := T23.setTop (mkF m 9 #[.val (.ref zs), .val (.int zx), .val (.int vc)] [(.int vc), (.int (zg vc.toNatClampNeg))])) (fun t k => XS.iloadN X23.here hx rfl (Jvm.hb hby d7_8) rfl k) ?_
      by_cases hc9_24 : (zg vc.toNatClampNeg) = vc
      · refine own_go (B := T23.setTop (mkF m 46 #[.val (.ref zs), .val (.int zx), .val (.int vc)] [])) (fun t k => XS.icmpYes X23.here hx rfl (pc0 := 9) (pc' := 46) rfl (Jvm.hb hby d7_9) rfl (teq hc9_24).1 (by decide) (by decide) k) ?_
        refine own_go (B := T23.setTop (mkF m 47 #[.val (.ref zs), .val (.int zx), .val (.int vc)] [(.int vc)])) (fun t k => XS.iloadN X23.here hx rfl (Jvm.hb hby d7_46) rfl k) ?_
        refine own_out X23 (v := (some (.int vc))) (fun h => by rw [Bd.returns] at h; cases h) Bd.notSynchronized (fun fs hr => retOut X23 hx (t := .int) Bd.returns rfl (Or.inl ⟨rfl, Or.inl rfl, _, rfl⟩) (Jvm.hb hby d7_47) hr) ?_ (by decide) (by decide)
        show own_Q7 Z zs zx zp zf zr zv znn h0 n0 (some (.int vc)) T23.heap _
        rw [e23]
        exact ⟨(by rw [← hR, own_HT_end hH hc9_24]), Nj2, zg, trivial, (own_HT_inv hH), K, E_zs, F_zs_parent, F_zs_unions, V_zp⟩
      · refine own_go (B := T23.setTop (mkF m 12 #[.val (.ref zs), .val (.int zx), .val (.int vc)] [])) (fun t k => XS.icmpNo X23.here hx rfl (Jvm.hb hby d7_9) rfl (feq hc9_24).1 k) ?_
        refine own_go (B := T23.setTop (mkF m 13 #[.val (.ref zs), .val (.int zx), .val (.int vc)] [(.ref zs)])) (fun t k => XS.aloadN X23.here hx rfl (Jvm.hb hby d7_12) rfl rfl k) ?_
        obtain ⟨T25, X25, e25, st25⟩ := getF X23 hx hZ hown (host := "") (Or.inl (own_w hw 24 rfl)) Via.refl e23 F_zs_unions (g := (mkF m 13 #[.val (.ref zs), .val (.int zx), .val (.int vc)] [(.ref zs)])) rfl rfl (Jvm.hb hby d7_13)
        refine own_go (B := T25.setTop (mkF m 16 #[.val (.ref zs), .val (.int zx), .val (.int vc)] [.null])) (fun t k => st25 _ k) ?_
        refine own_go (B := T25.setTop (mkF m 19 #[.val (.ref zs), .val (.int zx), .val (.int vc)] [])) (fun t k => XS.ifnonnullNo X25.here hx rfl (Jvm.hb hby d7_16) rfl k) ?_
        refine own_go (B := T25.setTop (mkF m 20 #[.val (.ref zs), .val (.int zx), .val (.int vc)] [(.ref zs)])) (fun t k => XS.aloadN X25.here hx rfl (Jvm.hb hby d7_19) rfl rfl k) ?_
        obtain ⟨T26, X26, e26, st26⟩ := getF X25 hx hZ hown (host := "") (Or.inl (own_w hw 17 rfl)) Via.refl e25 F_zs_parent (g := (mkF m 20 #[.val (.ref zs), .val (.int zx), .val (.int vc)] [(.ref zs)])) rfl rfl (Jvm.hb hby d7_20)
        refine own_go (B := T26.setTop (mkF m 23 #[.val (.ref zs), .val (.int zx), .val (.int vc)] [(.ref zp)])) (fun t k => st26 _ k) ?_
        refine own_go (B := T26.setTop (mkF m 24 #[.val (.ref zs), .val (.int zx), .val (.int vc)] [(.int vc), (.ref zp)])) (fun t k => XS.iloadN X26.here hx rfl (Jvm.hb hby d7_23) rfl k) ?_
        refine own_go (B := T26.setTop (mkF m 25 #[.val (.ref zs), .val (.int zx), .val (.int vc)] [(.ref zs), (.int vc), (.ref zp)])) (fun t k => XS.aloadN X26.here hx rfl (Jvm.hb hby d7_24) rfl rfl k) ?_
        obtain ⟨T27, X27, e27, st27⟩ := getF X26 hx hZ hown (host := "") (Or.inl (own_w hw 17 rfl)) Via.refl e26 F_zs_parent (g := (mkF m 25 #[.val (.ref zs), .val (.int zx), .val (.int vc)] [(.ref zs), (.int vc), (.ref zp)])) rfl rfl (Jvm.hb hby d7_25)
        refine own_go (B := T27.setTop (mkF m 28 #[.val (.ref zs), .val (.int zx), .val (.int vc)] [(.ref zp), (.int vc), (.ref zp)])) (fun t k => st27 _ k) ?_
        refine own_go (B := T27.setTop (mkF m 29 #[.val (.ref zs), .val (.int zx), .val (.int vc)] [(.ref zs), (.ref zp), (.int vc), (.ref zp)])) (fun t k => XS.aloadN X27.here hx rfl (Jvm.hb hby d7_28) rfl rfl k) ?_
        obtain ⟨T28, X28, e28, st28⟩ := getF X27 hx hZ hown (host := "") (Or.inl (own_w hw 17 rfl)) Via.refl e27 F_zs_parent (g := (mkF m 29 #[.val (.ref zs), .val (.int zx), .val (.int vc)] [(.ref zs), (.ref zp), (.int vc), (.ref zp)])) rfl rfl (Jvm.hb hby d7_29)
        refine own_go (B := T28.setTop (mkF m 32 #[.val (.ref zs), .val (.int zx), .val (.int vc)] [(.ref zp), (.ref zp), (.int vc), (.ref zp)])) (fun t k => st28 _ k) ?_
        refine own_go (B := T28.setTop (mkF m 33 #[.val (.ref zs), .val (.int zx), .val (.int vc)] [(.int vc), (.ref zp), (.ref zp), (.int vc), (.ref zp)])) (fun t k => XS.iloadN X28.here hx rfl (Jvm.hb hby d7_32) rfl k) ?_
        refine own_go (B := T28.setTop (mkF m 34 #[.val (.ref zs), .val (.int zx), .val (.int vc)] [(.int (zg vc.toNatClampNeg)), (.ref zp), (.int vc), (.ref zp)])) (fun t k => own_iaload X28 hx hZ e28 V_zp (j := vc) (k := vc.toNatClampNeg) (by rw [own_nn]; exact (own_HT_rng hH).1) rfl (by have := (own_HT_rng hH).2; omega) (Jvm.hb hby d7_33) t k) ?_
        refine own_go (B := T28.setTop (mkF m 35 #[.val (.ref zs), .val (.int zx), .val (.int vc)] [(.int (zg (zg vc.toNatClampNeg).toNatClampNeg)), (.int vc), (.ref zp)])) (fun t k => own_iaload X28 hx hZ e28 V_zp (j := (zg vc.toNatClampNeg)) (k := (zg vc.toNatClampNeg).toNatClampNeg) (by rw [own_nn]; exact (own_HT_p hH).1) rfl (by have := (own_HT_p hH).2; omega) (Jvm.hb hby d7_34) t k) ?_
        obtain ⟨T29, h29, X29, e29, W29, V29, st29⟩ := own_iastore X28 hx hZ e28 V_zp (j := vc) (k := vc.toNatClampNeg) (by rw [own_nn]; exact (own_HT_rng hH).1) rfl (by have := (own_HT_rng hH).2; omega) (g := (mkF m 35 #[.val (.ref zs), .val (.int zx), .val (.int vc)] [(.int (zg (zg vc.toNatClampNeg).toNatClampNeg)), (.int vc), (.ref zp)])) rfl rfl (Jvm.hb hby d7_35)
        have N29 := Fr.snoc X29 Nj2 g_zp
        have E_zs := E_zs.wr W29
        have F_zs_parent := F_zs_parent.other W29 (Or.inl ne_zs_zp)
        have F_zs_unions := F_zs_unions.other W29 (Or.inl ne_zs_zp)
        have K := K.wr W29 (Or.inl (List.mem_of_getElem? (i := 0) rfl))
        have Zs := Nat.le_trans Zs (Keep.of_wr W29).1
        have V_zp := V29
        refine own_go (B := T29.setTop (mkF m 36 #[.val (.ref zs), .val (.int zx), .val (.int vc)] [])) (fun t k => st29 _ k) ?_
        refine own_go (B := T29.setTop (mkF m 37 #[.val (.ref zs), .val (.int zx), .val (.int vc)] [(.ref zs)])) (fun t k => XS.aloadN X29.here hx rfl (Jvm.hb hby d7_36) rfl rfl k) ?_
        obtain ⟨T30, X30, e30, st30⟩ := getF X29 hx hZ hown (host := "") (Or.inl (own_w hw 17 rfl)) Via.refl e29 F_zs_parent (g := (mkF m 37 #[.val (.ref zs), .val (.int zx), .val (.int vc)] [(.ref zs)])) rfl rfl (Jvm.hb hby d7_37)
        refine own_go (B := T30.setTop (mkF m 40 #[.val (.ref zs), .val (.int zx), .val (.int vc)] [(.ref zp)])) (fun t k => st30 _ k) ?_
        refine own_go (B := T30.setTop (mkF m 41 #[.val (.ref zs), .val (.int zx), .val (.int vc)] [(.int vc), (.ref zp)])) (fun t k => XS.iloadN X30.here hx rfl (Jvm.hb hby d7_40) rfl k) ?_
        refine own_go (B := T30.setTop (mkF m 42 #[.val (.ref zs), .val (.int zx), .val (.int vc)] [(.int ((own_upd zg vc.toNatClampNeg (zg (zg vc.toNatClampNeg).toNatClampNeg)) vc.toNatClampNeg))])) (fun t k => own_iaload X30 hx hZ e30 V_zp (j := vc) (k := vc.toNatClampNeg) (by rw [own_nn]; exact (own_HT_rng hH).1) rfl (by have := (own_HT_rng hH).2; omega) (Jvm.hb hby d7_41) t k) ?_
        refine own_go (B := T30.setTop (mkF m 43 #[.val (.ref zs), .val (.int zx), .val (.int ((own_upd zg vc.toNatClampNeg (zg (zg vc.toNatClampNeg).toNatClampNeg)) vc.toNatClampNeg))] [])) (fun t k => XS.istoreN X30.here hx rfl (Jvm.hb hby d7_42) rfl (l' := #[.val (.ref zs), .val (.int zx), .val (.int ((own_upd zg vc.toNatClampNeg (zg (zg vc.toNatClampNeg).toNatClampNeg)) vc.toNatClampNeg))]) rfl k) ?_
        refine own_go (B := T30.setTop (mkF m 2 #[.val (.ref zs), .val (.int zx), .val (.int ((own_upd zg vc.toNatClampNeg (zg (zg vc.toNatClampNeg).toNatClampNeg)) vc.toNatClampNeg))] [])) (fun t k => XS.goto X30.here hx rfl (pc0 := 43) (pc' := 2) rfl (Jvm.hb hby d7_43) (by decide) (by decide) k) ?_
        exact ih h29 T30 _ X30 e30 N29 Zs K ((own_upd zg vc.toNatClampNeg (zg (zg vc.toNatClampNeg).toNatClampNeg)) vc.toNatClampNeg) (own_upd zg vc.toNatClampNeg (zg (zg vc.toNatClampNeg).toNatClampNeg)) E_zs F_zs_parent F_zs_unions V_zp (by rw [own_upd_hit]; exact (own_HT_next hH hc9_24).1) (by rw [own_upd_hit, (own_HT_next hH hc9_24).2]; exact hR)
  exact L2 znn h0 s₁ _ X0 e0 N0 Zs K zx zf E_zs F_zs_parent F_zs_unions V_zp hHT hzv
def own_mg (u v a b : Int32) : Int32 := if u < v then b else a
def own_ch (u v a b : Int32) : Int32 := if u < v then a else b
def own_ck (u v : Int32) (a b : Nat) : Nat := if u < v then a else b
theorem d6_0 : decode prog_51_method_7_code 0 = .ok (.aload_n 0, 1) := by decide +kernel
theorem d6_1 : decode prog_51_method_7_code 1 = .ok (.getfield 22, 3) := by decide +kernel
theorem d6_4 : decode prog_51_method_7_code 4 = .ok (.iload_n 1, 1) := by decide +kernel
theorem d6_5 : decode prog_51_method_7_code 5 = .ok (.baload, 1) := by decide +kernel
theorem d6_6 : decode prog_51_method_7_code 6 = .ok (.aload_n 0, 1) := by decide +kernel
theorem d6_7 : decode prog_51_method_7_code 7 = .ok (.getfield 22, 3) := by decide +kernel
theorem d6_10 : decode prog_51_method_7_code 10 = .ok (.iload_n 2, 1) := by decide +kernel
theorem d6_11 : decode prog_51_method_7_code 11 = .ok (.baload, 1) := by decide +kernel
theorem d6_12 : decode prog_51_method_7_code 12 = .ok (.if_icmp .lt 7, 3) := by decide +kernel
theorem d6_15 : decode prog_51_method_7_code 15 = .ok (.iload_n 1, 1) := by decide +kernel
theorem d6_16 : decode prog_51_method_7_code 16 = .ok (.goto 4, 3) := by decide +kernel
theorem d6_19 : decode prog_51_method_7_code 19 = .ok (.iload_n 2, 1) := by decide +kernel
theorem d6_20 : decode prog_51_method_7_code 20 = .ok (.istore_n 3, 1) := by decide +kernel
theorem d6_21 : decode prog_51_method_7_code 21 = .ok (.iload_n 3, 1) := by decide +kernel
theorem d6_22 : decode prog_51_method_7_code 22 = .ok (.iload_n 1, 1) := by decide +kernel
theorem d6_23 : decode prog_51_method_7_code 23 = .ok (.if_icmp .ne 7, 3) := by decide +kernel
theorem d6_26 : decode prog_51_method_7_code 26 = .ok (.iload_n 2, 1) := by decide +kernel
theorem d6_27 : decode prog_51_method_7_code 27 = .ok (.goto 4, 3) := by decide +kernel
theorem d6_30 : decode prog_51_method_7_code 30 = .ok (.iload_n 1, 1) := by decide +kernel
theorem d6_31 : decode prog_51_method_7_code 31 = .ok (.istore 4, 2) := by decide +kernel
theorem d6_33 : decode prog_51_method_7_code 33 = .ok (.aload_n 0, 1) := by decide +kernel
theorem d6_34 : decode prog_51_method_7_code 34 = .ok (.getfield 22, 3) := by decide +kernel
theorem d6_37 : decode prog_51_method_7_code 37 = .ok (.iload_n 1, 1) := by decide +kernel
theorem d6_38 : decode prog_51_method_7_code 38 = .ok (.baload, 1) := by decide +kernel
theorem d6_39 : decode prog_51_method_7_code 39 = .ok (.aload_n 0, 1) := by decide +kernel
theorem d6_40 : decode prog_51_method_7_code 40 = .ok (.getfield 22, 3) := by decide +kernel
theorem d6_43 : decode prog_51_method_7_code 43 = .ok (.iload_n 2, 1) := by decide +kernel
theorem d6_44 : decode prog_51_method_7_code 44 = .ok (.baload, 1) := by decide +kernel
theorem d6_45 : decode prog_51_method_7_code 45 = .ok (.if_icmp .ne 7, 3) := by decide +kernel
theorem d6_48 : decode prog_51_method_7_code 48 = .ok (.iconst 1, 1) := by decide +kernel
theorem d6_49 : decode prog_51_method_7_code 49 = .ok (.goto 4, 3) := by decide +kernel
theorem d6_52 : decode prog_51_method_7_code 52 = .ok (.iconst 0, 1) := by decide +kernel
theorem d6_53 : decode prog_51_method_7_code 53 = .ok (.istore 5, 2) := by decide +kernel
theorem d6_55 : decode prog_51_method_7_code 55 = .ok (.aload_n 0, 1) := by decide +kernel
theorem d6_56 : decode prog_51_method_7_code 56 = .ok (.getfield 18, 3) := by decide +kernel
theorem d6_59 : decode prog_51_method_7_code 59 = .ok (.iload 4, 2) := by decide +kernel
theorem d6_61 : decode prog_51_method_7_code 61 = .ok (.iload_n 3, 1) := by decide +kernel
theorem d6_62 : decode prog_51_method_7_code 62 = .ok (.iastore, 1) := by decide +kernel
theorem d6_63 : decode prog_51_method_7_code 63 = .ok (.iload 5, 2) := by decide +kernel
theorem d6_65 : decode prog_51_method_7_code 65 = .ok (.ifCond .eq 14, 3) := by decide +kernel
theorem d6_68 : decode prog_51_method_7_code 68 = .ok (.aload_n 0, 1) := by decide +kernel
theorem d6_69 : decode prog_51_method_7_code 69 = .ok (.getfield 22, 3) := by decide +kernel
theorem d6_72 : decode prog_51_method_7_code 72 = .ok (.iload_n 3, 1) := by decide +kernel
theorem d6_73 : decode prog_51_method_7_code 73 = .ok (.dup2, 1) := by decide +kernel
theorem d6_74 : decode prog_51_method_7_code 74 = .ok (.baload, 1) := by decide +kernel
theorem d6_75 : decode prog_51_method_7_code 75 = .ok (.iconst 1, 1) := by decide +kernel
theorem d6_76 : decode prog_51_method_7_code 76 = .ok (.iadd, 1) := by decide +kernel
theorem d6_77 : decode prog_51_method_7_code 77 = .ok (.i2b, 1) := by decide +kernel
theorem d6_78 : decode prog_51_method_7_code 78 = .ok (.bastore, 1) := by decide +kernel
theorem d6_79 : decode prog_51_method_7_code 79 = .ok (.aload_n 0, 1) := by decide +kernel
theorem d6_80 : decode prog_51_method_7_code 80 = .ok (.getfield 30, 3) := by decide +kernel
theorem d6_83 : decode prog_51_method_7_code 83 = .ok (.ifnull 24, 3) := by decide +kernel
theorem d6_107 : decode prog_51_method_7_code 107 = .ok (.iload_n 3, 1) := by decide +kernel
theorem d6_108 : decode prog_51_method_7_code 108 = .ok (.ireturn, 1) := by decide +kernel
theorem ef_6 (m : MethodId) (x0 : Addr) (x1 : Int32) (x2 : Int32) : entryFrame m #[(.ref x0), (.int x1), (.int x2)] 6 = mkF m 0 #[.val (.ref x0), .val (.int x1), .val (.int x2), .unset, .unset, .unset] [] := by first | (simp [entryFrame, mkF, argsToLocals, Value.category]; done) | rfl
def own_Q6 (Z : State) (zs : Addr) (za : Int32) (zb : Int32) (zp : Addr) (zk : Addr) (zf : Nat → Int32) (zh : Nat → Int32) (zi : Nat) (zj : Nat) (h0 : Heap) (n0 : Nat) (v : Option Value) (h : Heap) (L : List Loc) : Prop := v = some (.int (own_mg (zh zi) (zh zj) za zb)) ∧ Fr n0 L ∧ ∃ zg : Nat → Int32, True ∧ Keep h0 h [zp, zk] ∧ Exa Z h zs "com/example/term_unifier/termunifier/UnionFind" ∧ Fld Z h zs "com/example/term_unifier/termunifier/UnionFind" "parent" "[I" (.ref zp) ∧ Fld Z h zs "com/example/term_unifier/termunifier/UnionFind" "ranks" "[B" (.ref zk) ∧ Fld Z h zs "com/example/term_unifier/termunifier/UnionFind" "size" "I" (.int (4 : Int32)) ∧ Fld Z h zs "com/example/term_unifier/termunifier/UnionFind" "unions" "Lcom/example/term_unifier/termunifier/IntStack;" .null ∧ own_IA Z h zp .int 16 (own_upd zf (own_ck (zh zi) (zh zj) zi zj) (own_mg (zh zi) (zh zj) za zb)) ∧ own_IA Z h zk .byte 16 zg
set_option maxRecDepth 65536 in
set_option maxHeartbeats 40000000 in
theorem rm6 (l : Launch) (Z : State) (a0 : Array Value) (hw : ∀ d ∈ tables_1, d.before a0 Z = true) (ws : List Jvm.Cond) (zs : Addr) (za : Int32) (zb : Int32) (zp : Addr) (zk : Addr) (zf : Nat → Int32) (zh : Nat → Int32) (zi : Nat) (zj : Nat) (h0 : Heap) (n0 : Nat) (Z0 : n0 ≤ h0.size) (E_zs : Exa Z h0 zs "com/example/term_unifier/termunifier/UnionFind") (F_zs_parent : Fld Z h0 zs "com/example/term_unifier/termunifier/UnionFind" "parent" "[I" (.ref zp)) (F_zs_ranks : Fld Z h0 zs "com/example/term_unifier/termunifier/UnionFind" "ranks" "[B" (.ref zk)) (F_zs_size : Fld Z h0 zs "com/example/term_unifier/termunifier/UnionFind" "size" "I" (.int (4 : Int32))) (F_zs_unions : Fld Z h0 zs "com/example/term_unifier/termunifier/UnionFind" "unions" "Lcom/example/term_unifier/termunifier/IntStack;" .null) (V_zp : own_IA Z h0 zp .int 16 zf) (V_zk : own_IA Z h0 zk .byte 16 zh) (g_zp : n0 ≤ zp) (g_zk : n0 ≤ zk) (ne_zs_zp : zs ≠ zp) (ne_zs_zk : zs ≠ zk) (ne_zp_zk : zp ≠ zk) (ha0 : ¬ (za < (0 : Int32))) (ha1 : za.toNatClampNeg = zi) (ha2 : zi < 4) (hb0 : ¬ (zb < (0 : Int32))) (hb1 : zb.toNatClampNeg = zj) (hb2 : zj < 4) (hab : ¬ (za = zb)) :
    MetFree l (⟨"com/example/term_unifier/termunifier/UnionFind", "union", "(II)I"⟩ : MethodName) (head1 (Jvm.Cond.code (⟨"com/example/term_unifier/termunifier/UnionFind", "union", "(II)I"⟩ : MethodName) prog_51_method_7_code 6 (some .int) :: ws) ({ frames := 0, cells := 0, slots := 0, locals := 0 } : Room)) (fun a U => a = #[(.ref zs), (.int za), (.int zb)] ∧ Z.Warmed39 U.vm ∧ U.heap = h0) (fun _ _ _ _ _ => True) (fun _ U o U' => ∃ v L, o = .returned v ∧ own_Q6 Z zs za zb zp zk zf zh zi zj h0 n0 v U'.heap L ∧ FrameEnd U o U' L ({ frames := 0, cells := 0, slots := 0, locals := 0 } : Room).cells ({ frames := 0, cells := 0, slots := 0, locals := 0 } : Room).slots) := by
  refine MetFree.of_bodySF (plainFor_of_name pn_com_example_term_unifier_termunifier_UnionFind) hisR ?_
  intro p e s m args below meth c s₁ Bd hml0 hP hK
  obtain ⟨rfl, hZ, hh⟩ := hP
  have hx := Bd.exec
  have hby := Bd.bytes
  have hml : c.maxLocals = 6 := hml0
  have hown : s.vm.findClass "com/example/term_unifier/termunifier/UnionFind" = some m.cls := findClass_of_methodNamed Bd.named
  have hnm := (name_of_methodNamed Bd.named Bd.method).1
  have X0 : Stand p l e ({ frames := 0, cells := 0, slots := 0, locals := 0 } : Room) s m #[(.ref zs), (.int za), (.int zb)] below meth c s₁ [] 0 0 := Stand.of_body Bd
  have e0 : s₁.heap = h0 := by rw [← hh, Bd.state]; rfl
  have N0 := Fr.nil n0
  have Zs := Z0
  have K : Keep h0 h0 [zp, zk] := Keep.refl _ _
  show own_Goes p e below s (own_Q6 Z zs za zb zp zk zf zh zi zj h0 n0) ({ frames := 0, cells := 0, slots := 0, locals := 0 } : Room).cells ({ frames := 0, cells := 0, slots := 0, locals := 0 } : Room).slots _
  refine own_go (B := s₁.setTop (mkF m 0 #[.val (.ref zs), .val (.int za), .val (.int zb), .unset, .unset, .unset] [])) (fun t k => castTop (ef_6 m zs za zb) k) ?_
  refine own_go (B := s₁.setTop (mkF m 1 #[.val (.ref zs), .val (.int za), .val (.int zb), .unset, .unset, .unset] [(.ref zs)])) (fun t k => XS.aloadN X0.here hx rfl (Jvm.hb hby d6_0) rfl rfl k) ?_
  obtain ⟨T31, X31, e31, st31⟩ := getF X0 hx hZ hown (host := "") (Or.inl (own_w hw 20 rfl)) Via.refl e0 F_zs_ranks (g := (mkF m 1 #[.val (.ref zs), .val (.int za), .val (.int zb), .unset, .unset, .unset] [(.ref zs)])) rfl rfl (Jvm.hb hby d6_1)
  refine own_go (B := T31.setTop (mkF m 4 #[.val (.ref zs), .val (.int za), .val (.int zb), .unset, .unset, .unset] [(.ref zk)])) (fun t k => st31 _ k) ?_
  refine own_go (B := T31.setTop (mkF m 5 #[.val (.ref zs), .val (.int za), .val (.int zb), .unset, .unset, .unset] [(.int za), (.ref zk)])) (fun t k => XS.iloadN X31.here hx rfl (Jvm.hb hby d6_4) rfl k) ?_
  refine own_go (B := T31.setTop (mkF m 6 #[.val (.ref zs), .val (.int za), .val (.int zb), .unset, .unset, .unset] [(.int (zh zi))])) (fun t k => own_baload X31 hx hZ e31 V_zk (j := za) (k := zi) ha0 ha1 (by omega) (Jvm.hb hby d6_5) t k) ?_
  refine own_go (B := T31.setTop (mkF m 7 #[.val (.ref zs), .val (.int za), .val (.int zb), .unset, .unset, .unset] [(.ref zs), (.int (zh zi))])) (fun t k => XS.aloadN X31.here hx rfl (Jvm.hb hby d6_6) rfl rfl k) ?_
  obtain ⟨T32, X32, e32, st32⟩ := getF X31 hx hZ hown (host := "") (Or.inl (own_w hw 20 rfl)) Via.refl e31 F_zs_ranks (g := (mkF m 7 #[.val (.ref zs), .val (.int za), .val (.int zb), .unset, .unset, .unset] [(.ref zs), (.int (zh zi))])) rfl rfl (Jvm.hb hby d6_7)
  refine own_go (B := T32.setTop (mkF m 10 #[.val (.ref zs), .val (.int za), .val (.int zb), .unset, .unset, .unset] [(.ref zk), (.int (zh zi))])) (fun t k => st32 _ k) ?_
  refine own_go (B := T32.setTop (mkF m 11 #[.val (.ref zs), .val (.int za), .val (.int zb), .unset, .unset, .unset] [(.int zb), (.ref zk), (.int (zh zi))])) (fun t k => XS.iloadN X32.here hx rfl (Jvm.hb hby d6_10) rfl k) ?_
  refine own_go (B := T32.setTop (mkF m 12 #[.val (.ref zs), .val (.int za), .val (.int zb), .unset, .unset, .unset] [(.int (zh zj)), (.int (zh zi))])) (fun t k => own_baload X32 hx hZ e32 V_zk (j := zb) (k := zj) hb0 hb1 (by omega) (Jvm.hb hby d6_11) t k) ?_
  by_cases hc12_33 : (zh zi) < (zh zj)
  · refine own_go (B := T32.setTop (mkF m 19 #[.val (.ref zs), .val (.int za), .val (.int zb), .unset, .unset, .unset] [])) (fun t k => XS.icmpYes X32.here hx rfl (pc0 := 12) (pc' := 19) rfl (Jvm.hb hby d6_12) rfl (tlt hc12_33).1 (by decide) (by decide) k) ?_
    refine own_go (B := T32.setTop (mkF m 20 #[.val (.ref zs), .val (.int za), .val (.int zb), .unset, .unset, .unset] [(.int zb)])) (fun t k => XS.iloadN X32.here hx rfl (Jvm.hb hby d6_19) rfl k) ?_
    refine own_go (B := T32.setTop (mkF m 21 #[.val (.ref zs), .val (.int za), .val (.int zb), .val (.int zb), .unset, .unset] [])) (fun t k => XS.istoreN X32.here hx rfl (Jvm.hb hby d6_20) rfl (l' := #[.val (.ref zs), .val (.int za), .val (.int zb), .val (.int zb), .unset, .unset]) rfl k) ?_
    refine own_go (B := T32.setTop (mkF m 22 #[.val (.ref zs), .val (.int za), .val (.int zb), .val (.int zb), .unset, .unset] [(.int zb)])) (fun t k => XS.iloadN X32.here hx rfl (Jvm.hb hby d6_21) rfl k) ?_
    refine own_go (B := T32.setTop (mkF m 23 #[.val (.ref zs), .val (.int za), .val (.int zb), .val (.int zb), .unset, .unset] [(.int za), (.int zb)])) (fun t k => XS.iloadN X32.here hx rfl (Jvm.hb hby d6_22) rfl k) ?_
    refine own_go (B := T32.setTop (mkF m 30 #[.val (.ref zs), .val (.int za), .val (.int zb), .val (.int zb), .unset, .unset] [])) (fun t k => XS.icmpYes X32.here hx rfl (pc0 := 23) (pc' := 30) rfl (Jvm.hb hby d6_23) rfl (feq (fun z => hab z.symm)).2 (by decide) (by decide) k) ?_
    refine own_go (B := T32.setTop (mkF m 31 #[.val (.ref zs), .val (.int za), .val (.int zb), .val (.int zb), .unset, .unset] [(.int za)])) (fun t k => XS.iloadN X32.here hx rfl (Jvm.hb hby d6_30) rfl k) ?_
    refine own_go (B := T32.setTop (mkF m 33 #[.val (.ref zs), .val (.int za), .val (.int zb), .val (.int zb), .val (.int za), .unset] [])) (fun t k => XS.istore X32.here hx rfl (Jvm.hb hby d6_31) rfl (l' := #[.val (.ref zs), .val (.int za), .val (.int zb), .val (.int zb), .val (.int za), .unset]) rfl k) ?_
    refine own_go (B := T32.setTop (mkF m 34 #[.val (.ref zs), .val (.int za), .val (.int zb), .val (.int zb), .val (.int za), .unset] [(.ref zs)])) (fun t k => XS.aloadN X32.here hx rfl (Jvm.hb hby d6_33) rfl rfl k) ?_
    obtain ⟨T34, X34, e34, st34⟩ := getF X32 hx hZ hown (host := "") (Or.inl (own_w hw 20 rfl)) Via.refl e32 F_zs_ranks (g := (mkF m 34 #[.val (.ref zs), .val (.int za), .val (.int zb), .val (.int zb), .val (.int za), .unset] [(.ref zs)])) rfl rfl (Jvm.hb hby d6_34)
    refine own_go (B := T34.setTop (mkF m 37 #[.val (.ref zs), .val (.int za), .val (.int zb), .val (.int zb), .val (.int za), .unset] [(.ref zk)])) (fun t k => st34 _ k) ?_
    refine own_go (B := T34.setTop (mkF m 38 #[.val (.ref zs), .val (.int za), .val (.int zb), .val (.int zb), .val (.int za), .unset] [(.int za), (.ref zk)])) (fun t k => XS.iloadN X34.here hx rfl (Jvm.hb hby d6_37) rfl k) ?_
    refine own_go (B := T34.setTop (mkF m 39 #[.val (.ref zs), .val (.int za), .val (.int zb), .val (.int zb), .val (.int za), .unset] [(.int (zh zi))])) (fun t k => own_baload X34 hx hZ e34 V_zk (j := za) (k := zi) ha0 ha1 (by omega) (Jvm.hb hby d6_38) t k) ?_
    refine own_go (B := T34.setTop (mkF m 40 #[.val (.ref zs), .val (.int za), .val (.int zb), .val (.int zb), .val (.int za), .unset] [(.ref zs), (.int (zh zi))])) (fun t k => XS.aloadN X34.here hx rfl (Jvm.hb hby d6_39) rfl rfl k) ?_
    obtain ⟨T35, X35, e35, st35⟩ := getF X34 hx hZ hown (host := "") (Or.inl (own_w hw 20 rfl)) Via.refl e34 F_zs_ranks (g := (mkF m 40 #[.val (.ref zs), .val (.int za), .val (.int zb), .val (.int zb), .val (.int za), .unset] [(.ref zs), (.int (zh zi))])) rfl rfl (Jvm.hb hby d6_40)
    refine own_go (B := T35.setTop (mkF m 43 #[.val (.ref zs), .val (.int za), .val (.int zb), .val (.int zb), .val (.int za), .unset] [(.ref zk), (.int (zh zi))])) (fun t k => st35 _ k) ?_
    refine own_go (B := T35.setTop (mkF m 44 #[.val (.ref zs), .val (.int za), .val (.int zb), .val (.int zb), .val (.int za), .unset] [(.int zb), (.ref zk), (.int (zh zi))])) (fun t k => XS.iloadN X35.here hx rfl (Jvm.hb hby d6_43) rfl k) ?_
    refine own_go (B := T35.setTop (mkF m 45 #[.val (.ref zs), .val (.int za), .val (.int zb), .val (.int zb), .val (.int za), .unset] [(.int (zh zj)), (.int (zh zi))])) (fun t k => own_baload X35 hx hZ e35 V_zk (j := zb) (k := zj) hb0 hb1 (by omega) (Jvm.hb hby d6_44) t k) ?_
    by_cases hc45_36 : (zh zi) = (zh zj)
    · refine own_go (B := T35.setTop (mkF m 48 #[.val (.ref zs), .val (.int za), .val (.int zb), .val (.int zb), .val (.int za), .unset] [])) (fun t k => XS.icmpNo X35.here hx rfl (Jvm.hb hby d6_45) rfl (teq hc45_36).2 k) ?_
      refine own_go (B := T35.setTop (mkF m 49 #[.val (.ref zs), .val (.int za), .val (.int zb), .val (.int zb), .val (.int za), .unset] [(.int (1 : Int32))])) (fun t k => XS.iconst X35.here hx rfl (Jvm.hb hby d6_48) k) ?_
      refine own_go (B := T35.setTop (mkF m 53 #[.val (.ref zs), .val (.int za), .val (.int zb), .val (.int zb), .val (.int za), .unset] [(.int (1 : Int32))])) (fun t k => XS.goto X35.here hx rfl (pc0 := 49) (pc' := 53) rfl (Jvm.hb hby d6_49) (by decide) (by decide) k) ?_
      refine own_go (B := T35.setTop (mkF m 55 #[.val (.ref zs), .val (.int za), .val (.int zb), .val (.int zb), .val (.int za), .val (.int (1 : Int32))] [])) (fun t k => XS.istore X35.here hx rfl (Jvm.hb hby d6_53) rfl (l' := #[.val (.ref zs), .val (.int za), .val (.int zb), .val (.int zb), .val (.int za), .val (.int (1 : Int32))]) rfl k) ?_
      refine own_go (B := T35.setTop (mkF m 56 #[.val (.ref zs), .val (.int za), .val (.int zb), .val (.int zb), .val (.int za), .val (.int (1 : Int32))] [(.ref zs)])) (fun t k => XS.aloadN X35.here hx rfl (Jvm.hb hby d6_55) rfl rfl k) ?_
      obtain ⟨T37, X37, e37, st37⟩ := getF X35 hx hZ hown (host := "") (Or.inl (own_w hw 17 rfl)) Via.refl e35 F_zs_parent (g := (mkF m 56 #[.val (.ref zs), .val (.int za), .val (.int zb), .val (.int zb), .val (.int za), .val (.int (1 : Int32))] [(.ref zs)])) rfl rfl (Jvm.hb hby d6_56)
      refine own_go (B := T37.setTop (mkF m 59 #[.val (.ref zs), .val (.int za), .val (.int zb), .val (.int zb), .val (.int za), .val (.int (1 : Int32))] [(.ref zp)])) (fun t k => st37 _ k) ?_
      refine own_go (B := T37.setTop (mkF m 61 #[.val (.ref zs), .val (.int za), .val (.int zb), .val (.int zb), .val (.int za), .val (.int (1 : Int32))] [(.int za), (.ref zp)])) (fun t k => XS.iload X37.here hx rfl (Jvm.hb hby d6_59) rfl k) ?_
      refine own_go (B := T37.setTop (mkF m 62 #[.val (.ref zs), .val (.int za), .val (.int zb), .val (.int zb), .val (.int za), .val (.int (1 : Int32))] [(.int zb), (.int za), (.ref zp)])) (fun t k => XS.iloadN X37.here hx rfl (Jvm.hb hby d6_61) rfl k) ?_
      obtain ⟨T38, h38, X38, e38, W38, V38, st38⟩ := own_iastore X37 hx hZ e37 V_zp (j := za) (k := zi) ha0 ha1 (by omega) (g := (mkF m 62 #[.val (.ref zs), .val (.int za), .val (.int zb), .val (.int zb), .val (.int za), .val (.int (1 : Int32))] [(.int zb), (.int za), (.ref zp)])) rfl rfl (Jvm.hb hby d6_62)
      have N38 := Fr.snoc X38 N0 g_zp
      have E_zs := E_zs.wr W38
      have F_zs_parent := F_zs_parent.other W38 (Or.inl ne_zs_zp)
      have F_zs_ranks := F_zs_ranks.other W38 (Or.inl ne_zs_zp)
      have F_zs_size := F_zs_size.other W38 (Or.inl ne_zs_zp)
      have F_zs_unions := F_zs_unions.other W38 (Or.inl ne_zs_zp)
      have V_zk := V_zk.other W38 (Ne.symm ne_zp_zk)
      have K := K.wr W38 (Or.inl (List.mem_of_getElem? (i := 0) rfl))
      have Zs := Nat.le_trans Zs (Keep.of_wr W38).1
      have V_zp := V38
      refine own_go (B := T38.setTop (mkF m 63 #[.val (.ref zs), .val (.int za), .val (.int zb), .val (.int zb), .val (.int za), .val (.int (1 : Int32))] [])) (fun t k => st38 _ k) ?_
      refine own_go (B := T38.setTop (mkF m 65 #[.val (.ref zs), .val (.int za), .val (.int zb), .val (.int zb), .val (.int za), .val (.int (1 : Int32))] [(.int (1 : Int32))])) (fun t k => XS.iload X38.here hx rfl (Jvm.hb hby d6_63) rfl k) ?_
      refine own_go (B := T38.setTop (mkF m 68 #[.val (.ref zs), .val (.int za), .val (.int zb), .val (.int zb), .val (.int za), .val (.int (1 : Int32))] [])) (fun t k => XS.ifNo X38.here hx rfl (Jvm.hb hby d6_65) rfl ((if0 _ _).trans (feq (by decide : ¬ ((1 : Int32) = (0 : Int32)))).1) k) ?_
      refine own_go (B := T38.setTop (mkF m 69 #[.val (.ref zs), .val (.int za), .val (.int zb), .val (.int zb), .val (.int za), .val (.int (1 : Int32))] [(.ref zs)])) (fun t k => XS.aloadN X38.here hx rfl (Jvm.hb hby d6_68) rfl rfl k) ?_
      obtain ⟨T39, X39, e39, st39⟩ := getF X38 hx hZ hown (host := "") (Or.inl (own_w hw 20 rfl)) Via.refl e38 F_zs_ranks (g := (mkF m 69 #[.val (.ref zs), .val (.int za), .val (.int zb), .val (.int zb), .val (.int za), .val (.int (1 : Int32))] [(.ref zs)])) rfl rfl (Jvm.hb hby d6_69)
      refine own_go (B := T39.setTop (mkF m 72 #[.val (.ref zs), .val (.int za), .val (.int zb), .val (.int zb), .val (.int za), .val (.int (1 : Int32))] [(.ref zk)])) (fun t k => st39 _ k) ?_
      refine own_go (B := T39.setTop (mkF m 73 #[.val (.ref zs), .val (.int za), .val (.int zb), .val (.int zb), .val (.int za), .val (.int (1 : Int32))] [(.int zb), (.ref zk)])) (fun t k => XS.iloadN X39.here hx rfl (Jvm.hb hby d6_72) rfl k) ?_
      refine own_go (B := T39.setTop (mkF m 74 #[.val (.ref zs), .val (.int za), .val (.int zb), .val (.int zb), .val (.int za), .val (.int (1 : Int32))] [(.int zb), (.ref zk), (.int zb), (.ref zk)])) (fun t k => XT.dup2 X39.here hx rfl (Jvm.hb hby d6_73) rfl rfl rfl k) ?_
      refine own_go (B := T39.setTop (mkF m 75 #[.val (.ref zs), .val (.int za), .val (.int zb), .val (.int zb), .val (.int za), .val (.int (1 : Int32))] [(.int (zh zj)), (.int zb), (.ref zk)])) (fun t k => own_baload X39 hx hZ e39 V_zk (j := zb) (k := zj) hb0 hb1 (by omega) (Jvm.hb hby d6_74) t k) ?_
      refine own_go (B := T39.setTop (mkF m 76 #[.val (.ref zs), .val (.int za), .val (.int zb), .val (.int zb), .val (.int za), .val (.int (1 : Int32))] [(.int (1 : Int32)), (.int (zh zj)), (.int zb), (.ref zk)])) (fun t k => XS.iconst X39.here hx rfl (Jvm.hb hby d6_75) k) ?_
      refine own_go (B := T39.setTop (mkF m 77 #[.val (.ref zs), .val (.int za), .val (.int zb), .val (.int zb), .val (.int za), .val (.int (1 : Int32))] [(.int ((zh zj) + (1 : Int32))), (.int zb), (.ref zk)])) (fun t k => XS.iadd X39.here hx rfl (Jvm.hb hby d6_76) rfl k) ?_
      refine own_go (B := T39.setTop (mkF m 78 #[.val (.ref zs), .val (.int za), .val (.int zb), .val (.int zb), .val (.int za), .val (.int (1 : Int32))] [(.int (((zh zj) + (1 : Int32)).toInt8.toInt32)), (.int zb), (.ref zk)])) (fun t k => XS.i2b X39.here hx rfl (Jvm.hb hby d6_77) rfl k) ?_
      obtain ⟨T40, h40, X40, e40, W40, V40, st40⟩ := own_bastore X39 hx hZ e39 V_zk (j := zb) (k := zj) hb0 hb1 (by omega) (g := (mkF m 78 #[.val (.ref zs), .val (.int za), .val (.int zb), .val (.int zb), .val (.int za), .val (.int (1 : Int32))] [(.int (((zh zj) + (1 : Int32)).toInt8.toInt32)), (.int zb), (.ref zk)])) rfl rfl (Jvm.hb hby d6_78)
      have N40 := Fr.snoc X40 N38 g_zk
      have E_zs := E_zs.wr W40
      have F_zs_parent := F_zs_parent.other W40 (Or.inl ne_zs_zk)
      have F_zs_ranks := F_zs_ranks.other W40 (Or.inl ne_zs_zk)
      have F_zs_size := F_zs_size.other W40 (Or.inl ne_zs_zk)
      have F_zs_unions := F_zs_unions.other W40 (Or.inl ne_zs_zk)
      have V_zp := V_zp.other W40 ne_zp_zk
      have K := K.wr W40 (Or.inl (List.mem_of_getElem? (i := 1) rfl))
      have Zs := Nat.le_trans Zs (Keep.of_wr W40).1
      have V_zk := V40
      refine own_go (B := T40.setTop (mkF m 79 #[.val (.ref zs), .val (.int za), .val (.int zb), .val (.int zb), .val (.int za), .val (.int (1 : Int32))] [])) (fun t k => st40 _ k) ?_
      refine own_go (B := T40.setTop (mkF m 80 #[.val (.ref zs), .val (.int za), .val (.int zb), .val (.int zb), .val (.int za), .val (.int (1 : Int32))] [(.ref zs)])) (fun t k => XS.aloadN X40.here hx rfl (Jvm.hb hby d6_79) rfl rfl k) ?_
      obtain ⟨T41, X41, e41, st41⟩ := getF X40 hx hZ hown (host := "") (Or.inl (own_w hw 24 rfl)) Via.refl e40 F_zs_unions (g := (mkF m 80 #[.val (.ref zs), .val (.int za), .val (.int zb), .val (.int zb), .val (.int za), .val (.int (1 : Int32))] [(.ref zs)])) rfl rfl (Jvm.hb hby d6_80)
      refine own_go (B := T41.setTop (mkF m 83 #[.val (.ref zs), .val (.int za), .val (.int zb), .val (.int zb), .val (.int za), .val (.int (1 : Int32))] [.null])) (fun t k => st41 _ k) ?_
      refine own_go (B := T41.setTop (mkF m 107 #[.val (.ref zs), .val (.int za), .val (.int zb), .val (.int zb), .val (.int za), .val (.int (1 : Int32))] [])) (fun t k => XS.ifnullYes X41.here hx rfl (pc0 := 83) (pc' := 107) rfl (Jvm.hb hby d6_83) rfl (by decide) (by decide) k) ?_
      refine own_go (B := T41.setTop (mkF m 108 #[.val (.ref zs), .val (.int za), .val (.int zb), .val (.int zb), .val (.int za), .val (.int (1 : Int32))] [(.int zb)])) (fun t k => XS.iloadN X41.here hx rfl (Jvm.hb hby d6_107) rfl k) ?_
      refine own_out X41 (v := (some (.int zb))) (fun h => by rw [Bd.returns] at h; cases h) Bd.notSynchronized (fun fs hr => retOut X41 hx (t := .int) Bd.returns rfl (Or.inl ⟨rfl, Or.inl rfl, _, rfl⟩) (Jvm.hb hby d6_108) hr) ?_ (by decide) (by decide)
      show own_Q6 Z zs za zb zp zk zf zh zi zj h0 n0 (some (.int zb)) T41.heap _
      rw [e41]
      exact ⟨(by unfold own_mg; rw [if_pos hc12_33]), N40, (own_upd zh zj (((zh zj) + (1 : Int32)).toInt8.toInt32).toInt8.toInt32), trivial, K, E_zs, F_zs_parent, F_zs_ranks, F_zs_size, F_zs_unions, (by unfold own_mg own_ck; rw [if_pos hc12_33, if_pos hc12_33]; exact V_zp), V_zk⟩
    · refine own_go (B := T35.setTop (mkF m 52 #[.val (.ref zs), .val (.int za), .val (.int zb), .val (.int zb), .val (.int za), .unset] [])) (fun t k => XS.icmpYes X35.here hx rfl (pc0 := 45) (pc' := 52) rfl (Jvm.hb hby d6_45) rfl (feq hc45_36).2 (by decide) (by decide) k) ?_
      refine own_go (B := T35.setTop (mkF m 53 #[.val (.ref zs), .val (.int za), .val (.int zb), .val (.int zb), .val (.int za), .unset] [(.int (0 : Int32))])) (fun t k => XS.iconst X35.here hx rfl (Jvm.hb hby d6_52) k) ?_
      refine own_go (B := T35.setTop (mkF m 55 #[.val (.ref zs), .val (.int za), .val (.int zb), .val (.int zb), .val (.int za), .val (.int (0 : Int32))] [])) (fun t k => XS.istore X35.here hx rfl (Jvm.hb hby d6_53) rfl (l' := #[.val (.ref zs), .val (.int za), .val (.int zb), .val (.int zb), .val (.int za), .val (.int (0 : Int32))]) rfl k) ?_
      refine own_go (B := T35.setTop (mkF m 56 #[.val (.ref zs), .val (.int za), .val (.int zb), .val (.int zb), .val (.int za), .val (.int (0 : Int32))] [(.ref zs)])) (fun t k => XS.aloadN X35.here hx rfl (Jvm.hb hby d6_55) rfl rfl k) ?_
      obtain ⟨T42, X42, e42, st42⟩ := getF X35 hx hZ hown (host := "") (Or.inl (own_w hw 17 rfl)) Via.refl e35 F_zs_parent (g := (mkF m 56 #[.val (.ref zs), .val (.int za), .val (.int zb), .val (.int zb), .val (.int za), .val (.int (0 : Int32))] [(.ref zs)])) rfl rfl (Jvm.hb hby d6_56)
      refine own_go (B := T42.setTop (mkF m 59 #[.val (.ref zs), .val (.int za), .val (.int zb), .val (.int zb), .val (.int za), .val (.int (0 : Int32))] [(.ref zp)])) (fun t k => st42 _ k) ?_
      refine own_go (B := T42.setTop (mkF m 61 #[.val (.ref zs), .val (.int za), .val (.int zb), .val (.int zb), .val (.int za), .val (.int (0 : Int32))] [(.int za), (.ref zp)])) (fun t k => XS.iload X42.here hx rfl (Jvm.hb hby d6_59) rfl k) ?_
      refine own_go (B := T42.setTop (mkF m 62 #[.val (.ref zs), .val (.int za), .val (.int zb), .val (.int zb), .val (.int za), .val (.int (0 : Int32))] [(.int zb), (.int za), (.ref zp)])) (fun t k => XS.iloadN X42.here hx rfl (Jvm.hb hby d6_61) rfl k) ?_
      obtain ⟨T43, h43, X43, e43, W43, V43, st43⟩ := own_iastore X42 hx hZ e42 V_zp (j := za) (k := zi) ha0 ha1 (by omega) (g := (mkF m 62 #[.val (.ref zs), .val (.int za), .val (.int zb), .val (.int zb), .val (.int za), .val (.int (0 : Int32))] [(.int zb), (.int za), (.ref zp)])) rfl rfl (Jvm.hb hby d6_62)
      have N43 := Fr.snoc X43 N0 g_zp
      have E_zs := E_zs.wr W43
      have F_zs_parent := F_zs_parent.other W43 (Or.inl ne_zs_zp)
      have F_zs_ranks := F_zs_ranks.other W43 (Or.inl ne_zs_zp)
      have F_zs_size := F_zs_size.other W43 (Or.inl ne_zs_zp)
      have F_zs_unions := F_zs_unions.other W43 (Or.inl ne_zs_zp)
      have V_zk := V_zk.other W43 (Ne.symm ne_zp_zk)
      have K := K.wr W43 (Or.inl (List.mem_of_getElem? (i := 0) rfl))
      have Zs := Nat.le_trans Zs (Keep.of_wr W43).1
      have V_zp := V43
      refine own_go (B := T43.setTop (mkF m 63 #[.val (.ref zs), .val (.int za), .val (.int zb), .val (.int zb), .val (.int za), .val (.int (0 : Int32))] [])) (fun t k => st43 _ k) ?_
      refine own_go (B := T43.setTop (mkF m 65 #[.val (.ref zs), .val (.int za), .val (.int zb), .val (.int zb), .val (.int za), .val (.int (0 : Int32))] [(.int (0 : Int32))])) (fun t k => XS.iload X43.here hx rfl (Jvm.hb hby d6_63) rfl k) ?_
      refine own_go (B := T43.setTop (mkF m 79 #[.val (.ref zs), .val (.int za), .val (.int zb), .val (.int zb), .val (.int za), .val (.int (0 : Int32))] [])) (fun t k => XS.ifYes X43.here hx rfl (pc0 := 65) (pc' := 79) rfl (Jvm.hb hby d6_65) rfl ((if0 _ _).trans (teq (by decide : (0 : Int32) = (0 : Int32))).1) (by decide) (by decide) k) ?_
      refine own_go (B := T43.setTop (mkF m 80 #[.val (.ref zs), .val (.int za), .val (.int zb), .val (.int zb), .val (.int za), .val (.int (0 : Int32))] [(.ref zs)])) (fun t k => XS.aloadN X43.here hx rfl (Jvm.hb hby d6_79) rfl rfl k) ?_
      obtain ⟨T44, X44, e44, st44⟩ := getF X43 hx hZ hown (host := "") (Or.inl (own_w hw 24 rfl)) Via.refl e43 F_zs_unions (g := (mkF m 80 #[.val (.ref zs), .val (.int za), .val (.int zb), .val (.int zb), .val (.int za), .val (.int (0 : Int32))] [(.ref zs)])) rfl rfl (Jvm.hb hby d6_80)
      refine own_go (B := T44.setTop (mkF m 83 #[.val (.ref zs), .val (.int za), .val (.int zb), .val (.int zb), .val (.int za), .val (.int (0 : Int32))] [.null])) (fun t k => st44 _ k) ?_
      refine own_go (B := T44.setTop (mkF m 107 #[.val (.ref zs), .val (.int za), .val (.int zb), .val (.int zb), .val (.int za), .val (.int (0 : Int32))] [])) (fun t k => XS.ifnullYes X44.here hx rfl (pc0 := 83) (pc' := 107) rfl (Jvm.hb hby d6_83) rfl (by decide) (by decide) k) ?_
      refine own_go (B := T44.setTop (mkF m 108 #[.val (.ref zs), .val (.int za), .val (.int zb), .val (.int zb), .val (.int za), .val (.int (0 : Int32))] [(.int zb)])) (fun t k => XS.iloadN X44.here hx rfl (Jvm.hb hby d6_107) rfl k) ?_
      refine own_out X44 (v := (some (.int zb))) (fun h => by rw [Bd.returns] at h; cases h) Bd.notSynchronized (fun fs hr => retOut X44 hx (t := .int) Bd.returns rfl (Or.inl ⟨rfl, Or.inl rfl, _, rfl⟩) (Jvm.hb hby d6_108) hr) ?_ (by decide) (by decide)
      show own_Q6 Z zs za zb zp zk zf zh zi zj h0 n0 (some (.int zb)) T44.heap _
      rw [e44]
      exact ⟨(by unfold own_mg; rw [if_pos hc12_33]), N43, zh, trivial, K, E_zs, F_zs_parent, F_zs_ranks, F_zs_size, F_zs_unions, (by unfold own_mg own_ck; rw [if_pos hc12_33, if_pos hc12_33]; exact V_zp), V_zk⟩
  · refine own_go (B := T32.setTop (mkF m 15 #[.val (.ref zs), .val (.int za), .val (.int zb), .unset, .unset, .unset] [])) (fun t k => XS.icmpNo X32.here hx rfl (Jvm.hb hby d6_12) rfl (flt hc12_33).1 k) ?_
    refine own_go (B := T32.setTop (mkF m 16 #[.val (.ref zs), .val (.int za), .val (.int zb), .unset, .unset, .unset] [(.int za)])) (fun t k => XS.iloadN X32.here hx rfl (Jvm.hb hby d6_15) rfl k) ?_
    refine own_go (B := T32.setTop (mkF m 20 #[.val (.ref zs), .val (.int za), .val (.int zb), .unset, .unset, .unset] [(.int za)])) (fun t k => XS.goto X32.here hx rfl (pc0 := 16) (pc' := 20) rfl (Jvm.hb hby d6_16) (by decide) (by decide) k) ?_
    refine own_go (B := T32.setTop (mkF m 21 #[.val (.ref zs), .val (.int za), .val (.int zb), .val (.int za), .unset, .unset] [])) (fun t k => XS.istoreN X32.here hx rfl (Jvm.hb hby d6_20) rfl (l' := #[.val (.ref zs), .val (.int za), .val (.int zb), .val (.int za), .unset, .unset]) rfl k) ?_
    refine own_go (B := T32.setTop (mkF m 22 #[.val (.ref zs), .val (.int za), .val (.int zb), .val (.int za), .unset, .unset] [(.int za)])) (fun t k => XS.iloadN X32.here hx rfl (Jvm.hb hby d6_21) rfl k) ?_
    refine own_go (B := T32.setTop (mkF m 23 #[.val (.ref zs), .val (.int za), .val (.int zb), .val (.int za), .unset, .unset] [(.int za), (.int za)])) (fun t k => XS.iloadN X32.here hx rfl (Jvm.hb hby d6_22) rfl k) ?_
    refine own_go (B := T32.setTop (mkF m 26 #[.val (.ref zs), .val (.int za), .val (.int zb), .val (.int za), .unset, .unset] [])) (fun t k => XS.icmpNo X32.here hx rfl (Jvm.hb hby d6_23) rfl (teq (rfl : za = za)).2 k) ?_
    refine own_go (B := T32.setTop (mkF m 27 #[.val (.ref zs), .val (.int za), .val (.int zb), .val (.int za), .unset, .unset] [(.int zb)])) (fun t k => XS.iloadN X32.here hx rfl (Jvm.hb hby d6_26) rfl k) ?_
    refine own_go (B := T32.setTop (mkF m 31 #[.val (.ref zs), .val (.int za), .val (.int zb), .val (.int za), .unset, .unset] [(.int zb)])) (fun t k => XS.goto X32.here hx rfl (pc0 := 27) (pc' := 31) rfl (Jvm.hb hby d6_27) (by decide) (by decide) k) ?_
    refine own_go (B := T32.setTop (mkF m 33 #[.val (.ref zs), .val (.int za), .val (.int zb), .val (.int za), .val (.int zb), .unset] [])) (fun t k => XS.istore X32.here hx rfl (Jvm.hb hby d6_31) rfl (l' := #[.val (.ref zs), .val (.int za), .val (.int zb), .val (.int za), .val (.int zb), .unset]) rfl k) ?_
    refine own_go (B := T32.setTop (mkF m 34 #[.val (.ref zs), .val (.int za), .val (.int zb), .val (.int za), .val (.int zb), .unset] [(.ref zs)])) (fun t k => XS.aloadN X32.here hx rfl (Jvm.hb hby d6_33) rfl rfl k) ?_
    obtain ⟨T45, X45, e45, st45⟩ := getF X32 hx hZ hown (host := "") (Or.inl (own_w hw 20 rfl)) Via.refl e32 F_zs_ranks (g := (mkF m 34 #[.val (.ref zs), .val (.int za), .val (.int zb), .val (.int za), .val (.int zb), .unset] [(.ref zs)])) rfl rfl (Jvm.hb hby d6_34)
    refine own_go (B := T45.setTop (mkF m 37 #[.val (.ref zs), .val (.int za), .val (.int zb), .val (.int za), .val (.int zb), .unset] [(.ref zk)])) (fun t k => st45 _ k) ?_
    refine own_go (B := T45.setTop (mkF m 38 #[.val (.ref zs), .val (.int za), .val (.int zb), .val (.int za), .val (.int zb), .unset] [(.int za), (.ref zk)])) (fun t k => XS.iloadN X45.here hx rfl (Jvm.hb hby d6_37) rfl k) ?_
    refine own_go (B := T45.setTop (mkF m 39 #[.val (.ref zs), .val (.int za), .val (.int zb), .val (.int za), .val (.int zb), .unset] [(.int (zh zi))])) (fun t k => own_baload X45 hx hZ e45 V_zk (j := za) (k := zi) ha0 ha1 (by omega) (Jvm.hb hby d6_38) t k) ?_
    refine own_go (B := T45.setTop (mkF m 40 #[.val (.ref zs), .val (.int za), .val (.int zb), .val (.int za), .val (.int zb), .unset] [(.ref zs), (.int (zh zi))])) (fun t k => XS.aloadN X45.here hx rfl (Jvm.hb hby d6_39) rfl rfl k) ?_
    obtain ⟨T46, X46, e46, st46⟩ := getF X45 hx hZ hown (host := "") (Or.inl (own_w hw 20 rfl)) Via.refl e45 F_zs_ranks (g := (mkF m 40 #[.val (.ref zs), .val (.int za), .val (.int zb), .val (.int za), .val (.int zb), .unset] [(.ref zs), (.int (zh zi))])) rfl rfl (Jvm.hb hby d6_40)
    refine own_go (B := T46.setTop (mkF m 43 #[.val (.ref zs), .val (.int za), .val (.int zb), .val (.int za), .val (.int zb), .unset] [(.ref zk), (.int (zh zi))])) (fun t k => st46 _ k) ?_
    refine own_go (B := T46.setTop (mkF m 44 #[.val (.ref zs), .val (.int za), .val (.int zb), .val (.int za), .val (.int zb), .unset] [(.int zb), (.ref zk), (.int (zh zi))])) (fun t k => XS.iloadN X46.here hx rfl (Jvm.hb hby d6_43) rfl k) ?_
    refine own_go (B := T46.setTop (mkF m 45 #[.val (.ref zs), .val (.int za), .val (.int zb), .val (.int za), .val (.int zb), .unset] [(.int (zh zj)), (.int (zh zi))])) (fun t k => own_baload X46 hx hZ e46 V_zk (j := zb) (k := zj) hb0 hb1 (by omega) (Jvm.hb hby d6_44) t k) ?_
    by_cases hc45_47 : (zh zi) = (zh zj)
    · refine own_go (B := T46.setTop (mkF m 48 #[.val (.ref zs), .val (.int za), .val (.int zb), .val (.int za), .val (.int zb), .unset] [])) (fun t k => XS.icmpNo X46.here hx rfl (Jvm.hb hby d6_45) rfl (teq hc45_47).2 k) ?_
      refine own_go (B := T46.setTop (mkF m 49 #[.val (.ref zs), .val (.int za), .val (.int zb), .val (.int za), .val (.int zb), .unset] [(.int (1 : Int32))])) (fun t k => XS.iconst X46.here hx rfl (Jvm.hb hby d6_48) k) ?_
      refine own_go (B := T46.setTop (mkF m 53 #[.val (.ref zs), .val (.int za), .val (.int zb), .val (.int za), .val (.int zb), .unset] [(.int (1 : Int32))])) (fun t k => XS.goto X46.here hx rfl (pc0 := 49) (pc' := 53) rfl (Jvm.hb hby d6_49) (by decide) (by decide) k) ?_
      refine own_go (B := T46.setTop (mkF m 55 #[.val (.ref zs), .val (.int za), .val (.int zb), .val (.int za), .val (.int zb), .val (.int (1 : Int32))] [])) (fun t k => XS.istore X46.here hx rfl (Jvm.hb hby d6_53) rfl (l' := #[.val (.ref zs), .val (.int za), .val (.int zb), .val (.int za), .val (.int zb), .val (.int (1 : Int32))]) rfl k) ?_
      refine own_go (B := T46.setTop (mkF m 56 #[.val (.ref zs), .val (.int za), .val (.int zb), .val (.int za), .val (.int zb), .val (.int (1 : Int32))] [(.ref zs)])) (fun t k => XS.aloadN X46.here hx rfl (Jvm.hb hby d6_55) rfl rfl k) ?_
      obtain ⟨T48, X48, e48, st48⟩ := getF X46 hx hZ hown (host := "") (Or.inl (own_w hw 17 rfl)) Via.refl e46 F_zs_parent (g := (mkF m 56 #[.val (.ref zs), .val (.int za), .val (.int zb), .val (.int za), .val (.int zb), .val (.int (1 : Int32))] [(.ref zs)])) rfl rfl (Jvm.hb hby d6_56)
      refine own_go (B := T48.setTop (mkF m 59 #[.val (.ref zs), .val (.int za), .val (.int zb), .val (.int za), .val (.int zb), .val (.int (1 : Int32))] [(.ref zp)])) (fun t k => st48 _ k) ?_
      refine own_go (B := T48.setTop (mkF m 61 #[.val (.ref zs), .val (.int za), .val (.int zb), .val (.int za), .val (.int zb), .val (.int (1 : Int32))] [(.int zb), (.ref zp)])) (fun t k => XS.iload X48.here hx rfl (Jvm.hb hby d6_59) rfl k) ?_
      refine own_go (B := T48.setTop (mkF m 62 #[.val (.ref zs), .val (.int za), .val (.int zb), .val (.int za), .val (.int zb), .val (.int (1 : Int32))] [(.int za), (.int zb), (.ref zp)])) (fun t k => XS.iloadN X48.here hx rfl (Jvm.hb hby d6_61) rfl k) ?_
      obtain ⟨T49, h49, X49, e49, W49, V49, st49⟩ := own_iastore X48 hx hZ e48 V_zp (j := zb) (k := zj) hb0 hb1 (by omega) (g := (mkF m 62 #[.val (.ref zs), .val (.int za), .val (.int zb), .val (.int za), .val (.int zb), .val (.int (1 : Int32))] [(.int za), (.int zb), (.ref zp)])) rfl rfl (Jvm.hb hby d6_62)
      have N49 := Fr.snoc X49 N0 g_zp
      have E_zs := E_zs.wr W49
      have F_zs_parent := F_zs_parent.other W49 (Or.inl ne_zs_zp)
      have F_zs_ranks := F_zs_ranks.other W49 (Or.inl ne_zs_zp)
      have F_zs_size := F_zs_size.other W49 (Or.inl ne_zs_zp)
      have F_zs_unions := F_zs_unions.other W49 (Or.inl ne_zs_zp)
      have V_zk := V_zk.other W49 (Ne.symm ne_zp_zk)
      have K := K.wr W49 (Or.inl (List.mem_of_getElem? (i := 0) rfl))
      have Zs := Nat.le_trans Zs (Keep.of_wr W49).1
      have V_zp := V49
      refine own_go (B := T49.setTop (mkF m 63 #[.val (.ref zs), .val (.int za), .val (.int zb), .val (.int za), .val (.int zb), .val (.int (1 : Int32))] [])) (fun t k => st49 _ k) ?_
      refine own_go (B := T49.setTop (mkF m 65 #[.val (.ref zs), .val (.int za), .val (.int zb), .val (.int za), .val (.int zb), .val (.int (1 : Int32))] [(.int (1 : Int32))])) (fun t k => XS.iload X49.here hx rfl (Jvm.hb hby d6_63) rfl k) ?_
      refine own_go (B := T49.setTop (mkF m 68 #[.val (.ref zs), .val (.int za), .val (.int zb), .val (.int za), .val (.int zb), .val (.int (1 : Int32))] [])) (fun t k => XS.ifNo X49.here hx rfl (Jvm.hb hby d6_65) rfl ((if0 _ _).trans (feq (by decide : ¬ ((1 : Int32) = (0 : Int32)))).1) k) ?_
      refine own_go (B := T49.setTop (mkF m 69 #[.val (.ref zs), .val (.int za), .val (.int zb), .val (.int za), .val (.int zb), .val (.int (1 : Int32))] [(.ref zs)])) (fun t k => XS.aloadN X49.here hx rfl (Jvm.hb hby d6_68) rfl rfl k) ?_
      obtain ⟨T50, X50, e50, st50⟩ := getF X49 hx hZ hown (host := "") (Or.inl (own_w hw 20 rfl)) Via.refl e49 F_zs_ranks (g := (mkF m 69 #[.val (.ref zs), .val (.int za), .val (.int zb), .val (.int za), .val (.int zb), .val (.int (1 : Int32))] [(.ref zs)])) rfl rfl (Jvm.hb hby d6_69)
      refine own_go (B := T50.setTop (mkF m 72 #[.val (.ref zs), .val (.int za), .val (.int zb), .val (.int za), .val (.int zb), .val (.int (1 : Int32))] [(.ref zk)])) (fun t k => st50 _ k) ?_
      refine own_go (B := T50.setTop (mkF m 73 #[.val (.ref zs), .val (.int za), .val (.int zb), .val (.int za), .val (.int zb), .val (.int (1 : Int32))] [(.int za), (.ref zk)])) (fun t k => XS.iloadN X50.here hx rfl (Jvm.hb hby d6_72) rfl k) ?_
      refine own_go (B := T50.setTop (mkF m 74 #[.val (.ref zs), .val (.int za), .val (.int zb), .val (.int za), .val (.int zb), .val (.int (1 : Int32))] [(.int za), (.ref zk), (.int za), (.ref zk)])) (fun t k => XT.dup2 X50.here hx rfl (Jvm.hb hby d6_73) rfl rfl rfl k) ?_
      refine own_go (B := T50.setTop (mkF m 75 #[.val (.ref zs), .val (.int za), .val (.int zb), .val (.int za), .val (.int zb), .val (.int (1 : Int32))] [(.int (zh zi)), (.int za), (.ref zk)])) (fun t k => own_baload X50 hx hZ e50 V_zk (j := za) (k := zi) ha0 ha1 (by omega) (Jvm.hb hby d6_74) t k) ?_
      refine own_go (B := T50.setTop (mkF m 76 #[.val (.ref zs), .val (.int za), .val (.int zb), .val (.int za), .val (.int zb), .val (.int (1 : Int32))] [(.int (1 : Int32)), (.int (zh zi)), (.int za), (.ref zk)])) (fun t k => XS.iconst X50.here hx rfl (Jvm.hb hby d6_75) k) ?_
      refine own_go (B := T50.setTop (mkF m 77 #[.val (.ref zs), .val (.int za), .val (.int zb), .val (.int za), .val (.int zb), .val (.int (1 : Int32))] [(.int ((zh zi) + (1 : Int32))), (.int za), (.ref zk)])) (fun t k => XS.iadd X50.here hx rfl (Jvm.hb hby d6_76) rfl k) ?_
      refine own_go (B := T50.setTop (mkF m 78 #[.val (.ref zs), .val (.int za), .val (.int zb), .val (.int za), .val (.int zb), .val (.int (1 : Int32))] [(.int (((zh zi) + (1 : Int32)).toInt8.toInt32)), (.int za), (.ref zk)])) (fun t k => XS.i2b X50.here hx rfl (Jvm.hb hby d6_77) rfl k) ?_
      obtain ⟨T51, h51, X51, e51, W51, V51, st51⟩ := own_bastore X50 hx hZ e50 V_zk (j := za) (k := zi) ha0 ha1 (by omega) (g := (mkF m 78 #[.val (.ref zs), .val (.int za), .val (.int zb), .val (.int za), .val (.int zb), .val (.int (1 : Int32))] [(.int (((zh zi) + (1 : Int32)).toInt8.toInt32)), (.int za), (.ref zk)])) rfl rfl (Jvm.hb hby d6_78)
      have N51 := Fr.snoc X51 N49 g_zk
      have E_zs := E_zs.wr W51
      have F_zs_parent := F_zs_parent.other W51 (Or.inl ne_zs_zk)
      have F_zs_ranks := F_zs_ranks.other W51 (Or.inl ne_zs_zk)
      have F_zs_size := F_zs_size.other W51 (Or.inl ne_zs_zk)
      have F_zs_unions := F_zs_unions.other W51 (Or.inl ne_zs_zk)
      have V_zp := V_zp.other W51 ne_zp_zk
      have K := K.wr W51 (Or.inl (List.mem_of_getElem? (i := 1) rfl))
      have Zs := Nat.le_trans Zs (Keep.of_wr W51).1
      have V_zk := V51
      refine own_go (B := T51.setTop (mkF m 79 #[.val (.ref zs), .val (.int za), .val (.int zb), .val (.int za), .val (.int zb), .val (.int (1 : Int32))] [])) (fun t k => st51 _ k) ?_
      refine own_go (B := T51.setTop (mkF m 80 #[.val (.ref zs), .val (.int za), .val (.int zb), .val (.int za), .val (.int zb), .val (.int (1 : Int32))] [(.ref zs)])) (fun t k => XS.aloadN X51.here hx rfl (Jvm.hb hby d6_79) rfl rfl k) ?_
      obtain ⟨T52, X52, e52, st52⟩ := getF X51 hx hZ hown (host := "") (Or.inl (own_w hw 24 rfl)) Via.refl e51 F_zs_unions (g := (mkF m 80 #[.val (.ref zs), .val (.int za), .val (.int zb), .val (.int za), .val (.int zb), .val (.int (1 : Int32))] [(.ref zs)])) rfl rfl (Jvm.hb hby d6_80)
      refine own_go (B := T52.setTop (mkF m 83 #[.val (.ref zs), .val (.int za), .val (.int zb), .val (.int za), .val (.int zb), .val (.int (1 : Int32))] [.null])) (fun t k => st52 _ k) ?_
      refine own_go (B := T52.setTop (mkF m 107 #[.val (.ref zs), .val (.int za), .val (.int zb), .val (.int za), .val (.int zb), .val (.int (1 : Int32))] [])) (fun t k => XS.ifnullYes X52.here hx rfl (pc0 := 83) (pc' := 107) rfl (Jvm.hb hby d6_83) rfl (by decide) (by decide) k) ?_
      refine own_go (B := T52.setTop (mkF m 108 #[.val (.ref zs), .val (.int za), .val (.int zb), .val (.int za), .val (.int zb), .val (.int (1 : Int32))] [(.int za)])) (fun t k => XS.iloadN X52.here hx rfl (Jvm.hb hby d6_107) rfl k) ?_
      refine own_out X52 (v := (some (.int za))) (fun h => by rw [Bd.returns] at h; cases h) Bd.notSynchronized (fun fs hr => retOut X52 hx (t := .int) Bd.returns rfl (Or.inl ⟨rfl, Or.inl rfl, _, rfl⟩) (Jvm.hb hby d6_108) hr) ?_ (by decide) (by decide)
      show own_Q6 Z zs za zb zp zk zf zh zi zj h0 n0 (some (.int za)) T52.heap _
      rw [e52]
      exact ⟨(by unfold own_mg; rw [if_neg hc12_33]), N51, (own_upd zh zi (((zh zi) + (1 : Int32)).toInt8.toInt32).toInt8.toInt32), trivial, K, E_zs, F_zs_parent, F_zs_ranks, F_zs_size, F_zs_unions, (by unfold own_mg own_ck; rw [if_neg hc12_33, if_neg hc12_33]; exact V_zp), V_zk⟩
    · refine own_go (B := T46.setTop (mkF m 52 #[.val (.ref zs), .val (.int za), .val (.int zb), .val (.int za), .val (.int zb), .unset] [])) (fun t k => XS.icmpYes X46.here hx rfl (pc0 := 45) (pc' := 52) rfl (Jvm.hb hby d6_45) rfl (feq hc45_47).2 (by decide) (by decide) k) ?_
      refine own_go (B := T46.setTop (mkF m 53 #[.val (.ref zs), .val (.int za), .val (.int zb), .val (.int za), .val (.int zb), .unset] [(.int (0 : Int32))])) (fun t k => XS.iconst X46.here hx rfl (Jvm.hb hby d6_52) k) ?_
      refine own_go (B := T46.setTop (mkF m 55 #[.val (.ref zs), .val (.int za), .val (.int zb), .val (.int za), .val (.int zb), .val (.int (0 : Int32))] [])) (fun t k => XS.istore X46.here hx rfl (Jvm.hb hby d6_53) rfl (l' := #[.val (.ref zs), .val (.int za), .val (.int zb), .val (.int za), .val (.int zb), .val (.int (0 : Int32))]) rfl k) ?_
      refine own_go (B := T46.setTop (mkF m 56 #[.val (.ref zs), .val (.int za), .val (.int zb), .val (.int za), .val (.int zb), .val (.int (0 : Int32))] [(.ref zs)])) (fun t k => XS.aloadN X46.here hx rfl (Jvm.hb hby d6_55) rfl rfl k) ?_
      obtain ⟨T53, X53, e53, st53⟩ := getF X46 hx hZ hown (host := "") (Or.inl (own_w hw 17 rfl)) Via.refl e46 F_zs_parent (g := (mkF m 56 #[.val (.ref zs), .val (.int za), .val (.int zb), .val (.int za), .val (.int zb), .val (.int (0 : Int32))] [(.ref zs)])) rfl rfl (Jvm.hb hby d6_56)
      refine own_go (B := T53.setTop (mkF m 59 #[.val (.ref zs), .val (.int za), .val (.int zb), .val (.int za), .val (.int zb), .val (.int (0 : Int32))] [(.ref zp)])) (fun t k => st53 _ k) ?_
      refine own_go (B := T53.setTop (mkF m 61 #[.val (.ref zs), .val (.int za), .val (.int zb), .val (.int za), .val (.int zb), .val (.int (0 : Int32))] [(.int zb), (.ref zp)])) (fun t k => XS.iload X53.here hx rfl (Jvm.hb hby d6_59) rfl k) ?_
      refine own_go (B := T53.setTop (mkF m 62 #[.val (.ref zs), .val (.int za), .val (.int zb), .val (.int za), .val (.int zb), .val (.int (0 : Int32))] [(.int za), (.int zb), (.ref zp)])) (fun t k => XS.iloadN X53.here hx rfl (Jvm.hb hby d6_61) rfl k) ?_
      obtain ⟨T54, h54, X54, e54, W54, V54, st54⟩ := own_iastore X53 hx hZ e53 V_zp (j := zb) (k := zj) hb0 hb1 (by omega) (g := (mkF m 62 #[.val (.ref zs), .val (.int za), .val (.int zb), .val (.int za), .val (.int zb), .val (.int (0 : Int32))] [(.int za), (.int zb), (.ref zp)])) rfl rfl (Jvm.hb hby d6_62)
      have N54 := Fr.snoc X54 N0 g_zp
      have E_zs := E_zs.wr W54
      have F_zs_parent := F_zs_parent.other W54 (Or.inl ne_zs_zp)
      have F_zs_ranks := F_zs_ranks.other W54 (Or.inl ne_zs_zp)
      have F_zs_size := F_zs_size.other W54 (Or.inl ne_zs_zp)
      have F_zs_unions := F_zs_unions.other W54 (Or.inl ne_zs_zp)
      have V_zk := V_zk.other W54 (Ne.symm ne_zp_zk)
      have K := K.wr W54 (Or.inl (List.mem_of_getElem? (i := 0) rfl))
      have Zs := Nat.le_trans Zs (Keep.of_wr W54).1
      have V_zp := V54
      refine own_go (B := T54.setTop (mkF m 63 #[.val (.ref zs), .val (.int za), .val (.int zb), .val (.int za), .val (.int zb), .val (.int (0 : Int32))] [])) (fun t k => st54 _ k) ?_
      refine own_go (B := T54.setTop (mkF m 65 #[.val (.ref zs), .val (.int za), .val (.int zb), .val (.int za), .val (.int zb), .val (.int (0 : Int32))] [(.int (0 : Int32))])) (fun t k => XS.iload X54.here hx rfl (Jvm.hb hby d6_63) rfl k) ?_
      refine own_go (B := T54.setTop (mkF m 79 #[.val (.ref zs), .val (.int za), .val (.int zb), .val (.int za), .val (.int zb), .val (.int (0 : Int32))] [])) (fun t k => XS.ifYes X54.here hx rfl (pc0 := 65) (pc' := 79) rfl (Jvm.hb hby d6_65) rfl ((if0 _ _).trans (teq (by decide : (0 : Int32) = (0 : Int32))).1) (by decide) (by decide) k) ?_
      refine own_go (B := T54.setTop (mkF m 80 #[.val (.ref zs), .val (.int za), .val (.int zb), .val (.int za), .val (.int zb), .val (.int (0 : Int32))] [(.ref zs)])) (fun t k => XS.aloadN X54.here hx rfl (Jvm.hb hby d6_79) rfl rfl k) ?_
      obtain ⟨T55, X55, e55, st55⟩ := getF X54 hx hZ hown (host := "") (Or.inl (own_w hw 24 rfl)) Via.refl e54 F_zs_unions (g := (mkF m 80 #[.val (.ref zs), .val (.int za), .val (.int zb), .val (.int za), .val (.int zb), .val (.int (0 : Int32))] [(.ref zs)])) rfl rfl (Jvm.hb hby d6_80)
      refine own_go (B := T55.setTop (mkF m 83 #[.val (.ref zs), .val (.int za), .val (.int zb), .val (.int za), .val (.int zb), .val (.int (0 : Int32))] [.null])) (fun t k => st55 _ k) ?_
      refine own_go (B := T55.setTop (mkF m 107 #[.val (.ref zs), .val (.int za), .val (.int zb), .val (.int za), .val (.int zb), .val (.int (0 : Int32))] [])) (fun t k => XS.ifnullYes X55.here hx rfl (pc0 := 83) (pc' := 107) rfl (Jvm.hb hby d6_83) rfl (by decide) (by decide) k) ?_
      refine own_go (B := T55.setTop (mkF m 108 #[.val (.ref zs), .val (.int za), .val (.int zb), .val (.int za), .val (.int zb), .val (.int (0 : Int32))] [(.int za)])) (fun t k => XS.iloadN X55.here hx rfl (Jvm.hb hby d6_107) rfl k) ?_
      refine own_out X55 (v := (some (.int za))) (fun h => by rw [Bd.returns] at h; cases h) Bd.notSynchronized (fun fs hr => retOut X55 hx (t := .int) Bd.returns rfl (Or.inl ⟨rfl, Or.inl rfl, _, rfl⟩) (Jvm.hb hby d6_108) hr) ?_ (by decide) (by decide)
      show own_Q6 Z zs za zb zp zk zf zh zi zj h0 n0 (some (.int za)) T55.heap _
      rw [e55]
      exact ⟨(by unfold own_mg; rw [if_neg hc12_33]), N54, zh, trivial, K, E_zs, F_zs_parent, F_zs_ranks, F_zs_size, F_zs_unions, (by unfold own_mg own_ck; rw [if_neg hc12_33, if_neg hc12_33]; exact V_zp), V_zk⟩
theorem own_and3 (x a : Int32) (h : a = x &&& (3 : Int32)) : ∃ k : Nat, a.toInt = k ∧ k < 4 := by
  have h1 := c_and x 3 (by decide)
  have e : (3 : Int32).toInt = 3 := rfl
  rw [← h, e] at h1
  exact ⟨a.toInt.toNat, by omega, by omega⟩
theorem own_sj1 {q g g' : Nat → Int32} {v1 v2 vm : Int32} (h : g 0 = q 0 ∧ g 1 = q 1 ∧ g 2 = q 2 ∧ g 3 = q 3) (c : ((g 0 = v1 ∨ g 0 = v2) ∧ g' = own_upd g 0 vm) ∨ (¬ (g 0 = v1) ∧ ¬ (g 0 = v2) ∧ g' = g)) : g' 0 = (if q 0 = v1 ∨ q 0 = v2 then vm else q 0) ∧ g' 1 = q 1 ∧ g' 2 = q 2 ∧ g' 3 = q 3 := by
  obtain ⟨a0, a1, a2, a3⟩ := h
  rcases c with ⟨c, rfl⟩ | ⟨c1, c2, rfl⟩
  · simp only [own_upd]
    simp [a0, a1, a2, a3] at *
    try (intro z1 z2; rcases c with c | c <;> simp_all)
    try (rcases c with c | c <;> simp_all)
  · simp [a0, a1, a2, a3] at *
    try simp_all
theorem own_sj2 {q g g' : Nat → Int32} {v1 v2 vm : Int32} (h : g 0 = (if q 0 = v1 ∨ q 0 = v2 then vm else q 0) ∧ g 1 = q 1 ∧ g 2 = q 2 ∧ g 3 = q 3) (c : ((g 1 = v1 ∨ g 1 = v2) ∧ g' = own_upd g 1 vm) ∨ (¬ (g 1 = v1) ∧ ¬ (g 1 = v2) ∧ g' = g)) : g' 0 = (if q 0 = v1 ∨ q 0 = v2 then vm else q 0) ∧ g' 1 = (if q 1 = v1 ∨ q 1 = v2 then vm else q 1) ∧ g' 2 = q 2 ∧ g' 3 = q 3 := by
  obtain ⟨a0, a1, a2, a3⟩ := h
  rcases c with ⟨c, rfl⟩ | ⟨c1, c2, rfl⟩
  · simp only [own_upd]
    simp [a0, a1, a2, a3] at *
    try (intro z1 z2; rcases c with c | c <;> simp_all)
    try (rcases c with c | c <;> simp_all)
  · simp [a0, a1, a2, a3] at *
    try simp_all
theorem own_sj3 {q g g' : Nat → Int32} {v1 v2 vm : Int32} (h : g 0 = (if q 0 = v1 ∨ q 0 = v2 then vm else q 0) ∧ g 1 = (if q 1 = v1 ∨ q 1 = v2 then vm else q 1) ∧ g 2 = q 2 ∧ g 3 = q 3) (c : ((g 2 = v1 ∨ g 2 = v2) ∧ g' = own_upd g 2 vm) ∨ (¬ (g 2 = v1) ∧ ¬ (g 2 = v2) ∧ g' = g)) : g' 0 = (if q 0 = v1 ∨ q 0 = v2 then vm else q 0) ∧ g' 1 = (if q 1 = v1 ∨ q 1 = v2 then vm else q 1) ∧ g' 2 = (if q 2 = v1 ∨ q 2 = v2 then vm else q 2) ∧ g' 3 = q 3 := by
  obtain ⟨a0, a1, a2, a3⟩ := h
  rcases c with ⟨c, rfl⟩ | ⟨c1, c2, rfl⟩
  · simp only [own_upd]
    simp [a0, a1, a2, a3] at *
    try (intro z1 z2; rcases c with c | c <;> simp_all)
    try (rcases c with c | c <;> simp_all)
  · simp [a0, a1, a2, a3] at *
    try simp_all
theorem own_sj4 {q g g' : Nat → Int32} {v1 v2 vm : Int32} (h : g 0 = (if q 0 = v1 ∨ q 0 = v2 then vm else q 0) ∧ g 1 = (if q 1 = v1 ∨ q 1 = v2 then vm else q 1) ∧ g 2 = (if q 2 = v1 ∨ q 2 = v2 then vm else q 2) ∧ g 3 = q 3) (c : ((g 3 = v1 ∨ g 3 = v2) ∧ g' = own_upd g 3 vm) ∨ (¬ (g 3 = v1) ∧ ¬ (g 3 = v2) ∧ g' = g)) : g' 0 = (if q 0 = v1 ∨ q 0 = v2 then vm else q 0) ∧ g' 1 = (if q 1 = v1 ∨ q 1 = v2 then vm else q 1) ∧ g' 2 = (if q 2 = v1 ∨ q 2 = v2 then vm else q 2) ∧ g' 3 = (if q 3 = v1 ∨ q 3 = v2 then vm else q 3) := by
  obtain ⟨a0, a1, a2, a3⟩ := h
  rcases c with ⟨c, rfl⟩ | ⟨c1, c2, rfl⟩
  · simp only [own_upd]
    simp [a0, a1, a2, a3] at *
    try (intro z1 z2; rcases c with c | c <;> simp_all)
    try (rcases c with c | c <;> simp_all)
  · simp [a0, a1, a2, a3] at *
    try simp_all
theorem pn_com_example_term_unifier_termunifier_UnionFindFindPinLaw : plainName "com/example/term_unifier/termunifier/UnionFindFindPinLaw" = true := by first | (simp [plainName, overriddenIn]; done) | decide +kernel
theorem d5_0 : decode method_3_code 0 = .ok (.iload_n 2, 1) := by decide +kernel
theorem d5_1 : decode method_3_code 1 = .ok (.iconst 3, 1) := by decide +kernel
theorem d5_2 : decode method_3_code 2 = .ok (.iand, 1) := by decide +kernel
theorem d5_3 : decode method_3_code 3 = .ok (.istore_n 3, 1) := by decide +kernel
theorem d5_4 : decode method_3_code 4 = .ok (.iload_n 2, 1) := by decide +kernel
theorem d5_5 : decode method_3_code 5 = .ok (.iconst 2, 1) := by decide +kernel
theorem d5_6 : decode method_3_code 6 = .ok (.iushr, 1) := by decide +kernel
theorem d5_7 : decode method_3_code 7 = .ok (.iconst 3, 1) := by decide +kernel
theorem d5_8 : decode method_3_code 8 = .ok (.iand, 1) := by decide +kernel
theorem d5_9 : decode method_3_code 9 = .ok (.istore 4, 2) := by decide +kernel
theorem d5_11 : decode method_3_code 11 = .ok (.aload_n 1, 1) := by decide +kernel
theorem d5_12 : decode method_3_code 12 = .ok (.iload_n 3, 1) := by decide +kernel
theorem d5_13 : decode method_3_code 13 = .ok (.iaload, 1) := by decide +kernel
theorem d5_14 : decode method_3_code 14 = .ok (.istore 5, 2) := by decide +kernel
theorem d5_16 : decode method_3_code 16 = .ok (.aload_n 1, 1) := by decide +kernel
theorem d5_17 : decode method_3_code 17 = .ok (.iload 4, 2) := by decide +kernel
theorem d5_19 : decode method_3_code 19 = .ok (.iaload, 1) := by decide +kernel
theorem d5_20 : decode method_3_code 20 = .ok (.istore 6, 2) := by decide +kernel
theorem d5_22 : decode method_3_code 22 = .ok (.iload 5, 2) := by decide +kernel
theorem d5_24 : decode method_3_code 24 = .ok (.iload 6, 2) := by decide +kernel
theorem d5_26 : decode method_3_code 26 = .ok (.if_icmp .ne 5, 3) := by decide +kernel
theorem d5_29 : decode method_3_code 29 = .ok (.iconst 1, 1) := by decide +kernel
theorem d5_30 : decode method_3_code 30 = .ok (.ireturn, 1) := by decide +kernel
theorem d5_31 : decode method_3_code 31 = .ok (.aload_n 0, 1) := by decide +kernel
theorem d5_32 : decode method_3_code 32 = .ok (.iload 5, 2) := by decide +kernel
theorem d5_34 : decode method_3_code 34 = .ok (.iload 6, 2) := by decide +kernel
theorem d5_36 : decode method_3_code 36 = .ok (.invokevirtual 22, 3) := by decide +kernel
theorem d5_39 : decode method_3_code 39 = .ok (.istore 7, 2) := by decide +kernel
theorem d5_41 : decode method_3_code 41 = .ok (.iload 7, 2) := by decide +kernel
theorem d5_43 : decode method_3_code 43 = .ok (.iload 5, 2) := by decide +kernel
theorem d5_45 : decode method_3_code 45 = .ok (.if_icmp .eq 12, 3) := by decide +kernel
theorem d5_48 : decode method_3_code 48 = .ok (.iload 7, 2) := by decide +kernel
theorem d5_50 : decode method_3_code 50 = .ok (.iload 6, 2) := by decide +kernel
theorem d5_52 : decode method_3_code 52 = .ok (.if_icmp .eq 5, 3) := by decide +kernel
theorem d5_57 : decode method_3_code 57 = .ok (.aload_n 1, 1) := by decide +kernel
theorem d5_58 : decode method_3_code 58 = .ok (.iconst 0, 1) := by decide +kernel
theorem d5_59 : decode method_3_code 59 = .ok (.iaload, 1) := by decide +kernel
theorem d5_60 : decode method_3_code 60 = .ok (.iload 5, 2) := by decide +kernel
theorem d5_62 : decode method_3_code 62 = .ok (.if_icmp .eq 11, 3) := by decide +kernel
theorem d5_65 : decode method_3_code 65 = .ok (.aload_n 1, 1) := by decide +kernel
theorem d5_66 : decode method_3_code 66 = .ok (.iconst 0, 1) := by decide +kernel
theorem d5_67 : decode method_3_code 67 = .ok (.iaload, 1) := by decide +kernel
theorem d5_68 : decode method_3_code 68 = .ok (.iload 6, 2) := by decide +kernel
theorem d5_70 : decode method_3_code 70 = .ok (.if_icmp .ne 8, 3) := by decide +kernel
theorem d5_73 : decode method_3_code 73 = .ok (.aload_n 1, 1) := by decide +kernel
theorem d5_74 : decode method_3_code 74 = .ok (.iconst 0, 1) := by decide +kernel
theorem d5_75 : decode method_3_code 75 = .ok (.iload 7, 2) := by decide +kernel
theorem d5_77 : decode method_3_code 77 = .ok (.iastore, 1) := by decide +kernel
theorem d5_78 : decode method_3_code 78 = .ok (.aload_n 1, 1) := by decide +kernel
theorem d5_79 : decode method_3_code 79 = .ok (.iconst 1, 1) := by decide +kernel
theorem d5_80 : decode method_3_code 80 = .ok (.iaload, 1) := by decide +kernel
theorem d5_81 : decode method_3_code 81 = .ok (.iload 5, 2) := by decide +kernel
theorem d5_83 : decode method_3_code 83 = .ok (.if_icmp .eq 11, 3) := by decide +kernel
theorem d5_86 : decode method_3_code 86 = .ok (.aload_n 1, 1) := by decide +kernel
theorem d5_87 : decode method_3_code 87 = .ok (.iconst 1, 1) := by decide +kernel
theorem d5_88 : decode method_3_code 88 = .ok (.iaload, 1) := by decide +kernel
theorem d5_89 : decode method_3_code 89 = .ok (.iload 6, 2) := by decide +kernel
theorem d5_91 : decode method_3_code 91 = .ok (.if_icmp .ne 8, 3) := by decide +kernel
theorem d5_94 : decode method_3_code 94 = .ok (.aload_n 1, 1) := by decide +kernel
theorem d5_95 : decode method_3_code 95 = .ok (.iconst 1, 1) := by decide +kernel
theorem d5_96 : decode method_3_code 96 = .ok (.iload 7, 2) := by decide +kernel
theorem d5_98 : decode method_3_code 98 = .ok (.iastore, 1) := by decide +kernel
theorem d5_99 : decode method_3_code 99 = .ok (.aload_n 1, 1) := by decide +kernel
theorem d5_100 : decode method_3_code 100 = .ok (.iconst 2, 1) := by decide +kernel
theorem d5_101 : decode method_3_code 101 = .ok (.iaload, 1) := by decide +kernel
theorem d5_102 : decode method_3_code 102 = .ok (.iload 5, 2) := by decide +kernel
theorem d5_104 : decode method_3_code 104 = .ok (.if_icmp .eq 11, 3) := by decide +kernel
theorem d5_107 : decode method_3_code 107 = .ok (.aload_n 1, 1) := by decide +kernel
theorem d5_108 : decode method_3_code 108 = .ok (.iconst 2, 1) := by decide +kernel
theorem d5_109 : decode method_3_code 109 = .ok (.iaload, 1) := by decide +kernel
theorem d5_110 : decode method_3_code 110 = .ok (.iload 6, 2) := by decide +kernel
theorem d5_112 : decode method_3_code 112 = .ok (.if_icmp .ne 8, 3) := by decide +kernel
theorem d5_115 : decode method_3_code 115 = .ok (.aload_n 1, 1) := by decide +kernel
theorem d5_116 : decode method_3_code 116 = .ok (.iconst 2, 1) := by decide +kernel
theorem d5_117 : decode method_3_code 117 = .ok (.iload 7, 2) := by decide +kernel
theorem d5_119 : decode method_3_code 119 = .ok (.iastore, 1) := by decide +kernel
theorem d5_120 : decode method_3_code 120 = .ok (.aload_n 1, 1) := by decide +kernel
theorem d5_121 : decode method_3_code 121 = .ok (.iconst 3, 1) := by decide +kernel
theorem d5_122 : decode method_3_code 122 = .ok (.iaload, 1) := by decide +kernel
theorem d5_123 : decode method_3_code 123 = .ok (.iload 5, 2) := by decide +kernel
theorem d5_125 : decode method_3_code 125 = .ok (.if_icmp .eq 11, 3) := by decide +kernel
theorem d5_128 : decode method_3_code 128 = .ok (.aload_n 1, 1) := by decide +kernel
theorem d5_129 : decode method_3_code 129 = .ok (.iconst 3, 1) := by decide +kernel
theorem d5_130 : decode method_3_code 130 = .ok (.iaload, 1) := by decide +kernel
theorem d5_131 : decode method_3_code 131 = .ok (.iload 6, 2) := by decide +kernel
theorem d5_133 : decode method_3_code 133 = .ok (.if_icmp .ne 8, 3) := by decide +kernel
theorem d5_136 : decode method_3_code 136 = .ok (.aload_n 1, 1) := by decide +kernel
theorem d5_137 : decode method_3_code 137 = .ok (.iconst 3, 1) := by decide +kernel
theorem d5_138 : decode method_3_code 138 = .ok (.iload 7, 2) := by decide +kernel
theorem d5_140 : decode method_3_code 140 = .ok (.iastore, 1) := by decide +kernel
theorem d5_141 : decode method_3_code 141 = .ok (.iconst 1, 1) := by decide +kernel
theorem d5_142 : decode method_3_code 142 = .ok (.ireturn, 1) := by decide +kernel
theorem ef_5 (m : MethodId) (x0 : Addr) (x1 : Addr) (x2 : Int32) : entryFrame m #[(.ref x0), (.ref x1), (.int x2)] 8 = mkF m 0 #[.val (.ref x0), .val (.ref x1), .val (.int x2), .unset, .unset, .unset, .unset, .unset] [] := by first | (simp [entryFrame, mkF, argsToLocals, Value.category]; done) | rfl
def own_Q5 (Z : State) (zs : Addr) (zq : Addr) (zx : Int32) (zp : Addr) (zk : Addr) (zf : Nat → Int32) (zh : Nat → Int32) (zq0 : Nat → Int32) (h0 : Heap) (n0 : Nat) (v : Option Value) (h : Heap) (L : List Loc) : Prop := v = some (.int (1 : Int32)) ∧ Fr n0 L ∧ ∃ zf1 : Nat → Int32, True ∧ ∃ zh1 : Nat → Int32, True ∧ ∃ zq1 : Nat → Int32, True ∧ (own_INV zf1 zq1) ∧ Keep h0 h [zp, zk, zq] ∧ Exa Z h zs "com/example/term_unifier/termunifier/UnionFind" ∧ Fld Z h zs "com/example/term_unifier/termunifier/UnionFind" "parent" "[I" (.ref zp) ∧ Fld Z h zs "com/example/term_unifier/termunifier/UnionFind" "ranks" "[B" (.ref zk) ∧ Fld Z h zs "com/example/term_unifier/termunifier/UnionFind" "size" "I" (.int (4 : Int32)) ∧ Fld Z h zs "com/example/term_unifier/termunifier/UnionFind" "unions" "Lcom/example/term_unifier/termunifier/IntStack;" .null ∧ own_IA Z h zp .int 16 zf1 ∧ own_IA Z h zk .byte 16 zh1 ∧ own_IA Z h zq .int 4 zq1
set_option maxRecDepth 65536 in
set_option maxHeartbeats 40000000 in
theorem rm5 (l : Launch) (Z : State) (a0 : Array Value) (hw : ∀ d ∈ tables_1, d.before a0 Z = true) (ws : List Jvm.Cond) (zs : Addr) (zq : Addr) (zx : Int32) (zp : Addr) (zk : Addr) (zf : Nat → Int32) (zh : Nat → Int32) (zq0 : Nat → Int32) (h0 : Heap) (n0 : Nat) (Z0 : n0 ≤ h0.size) (E_zs : Exa Z h0 zs "com/example/term_unifier/termunifier/UnionFind") (F_zs_parent : Fld Z h0 zs "com/example/term_unifier/termunifier/UnionFind" "parent" "[I" (.ref zp)) (F_zs_ranks : Fld Z h0 zs "com/example/term_unifier/termunifier/UnionFind" "ranks" "[B" (.ref zk)) (F_zs_size : Fld Z h0 zs "com/example/term_unifier/termunifier/UnionFind" "size" "I" (.int (4 : Int32))) (F_zs_unions : Fld Z h0 zs "com/example/term_unifier/termunifier/UnionFind" "unions" "Lcom/example/term_unifier/termunifier/IntStack;" .null) (V_zp : own_IA Z h0 zp .int 16 zf) (V_zk : own_IA Z h0 zk .byte 16 zh) (V_zq : own_IA Z h0 zq .int 4 zq0) (g_zp : n0 ≤ zp) (g_zk : n0 ≤ zk) (g_zq : n0 ≤ zq) (ne_zs_zp : zs ≠ zp) (ne_zs_zk : zs ≠ zk) (ne_zp_zk : zp ≠ zk) (ne_zs_zq : zs ≠ zq) (ne_zp_zq : zp ≠ zq) (ne_zk_zq : zk ≠ zq) (hI0 : own_INV zf zq0) :
    MetFree l (⟨"com/example/term_unifier/termunifier/UnionFindFindPinLaw", "step", "(Lcom/example/term_unifier/termunifier/UnionFind;[II)Z"⟩ : MethodName) (head1 (Jvm.Cond.code (⟨"com/example/term_unifier/termunifier/UnionFindFindPinLaw", "step", "(Lcom/example/term_unifier/termunifier/UnionFind;[II)Z"⟩ : MethodName) method_3_code 8 (some .boolean) :: ws) ({ frames := 1, cells := 0, slots := 0, locals := 17 } : Room)) (fun a U => a = #[(.ref zs), (.ref zq), (.int zx)] ∧ Z.Warmed39 U.vm ∧ U.heap = h0) (fun _ _ _ _ _ => True) (fun _ U o U' => ∃ v L, o = .returned v ∧ own_Q5 Z zs zq zx zp zk zf zh zq0 h0 n0 v U'.heap L ∧ FrameEnd U o U' L ({ frames := 1, cells := 0, slots := 0, locals := 17 } : Room).cells ({ frames := 1, cells := 0, slots := 0, locals := 17 } : Room).slots) := by
  refine MetFree.of_bodySF (plainFor_of_name pn_com_example_term_unifier_termunifier_UnionFindFindPinLaw) hisR ?_
  intro p e s m args below meth c s₁ Bd hml0 hP hK
  obtain ⟨rfl, hZ, hh⟩ := hP
  have hx := Bd.exec
  have hby := Bd.bytes
  have hml : c.maxLocals = 8 := hml0
  have hown : s.vm.findClass "com/example/term_unifier/termunifier/UnionFindFindPinLaw" = some m.cls := findClass_of_methodNamed Bd.named
  have hnm := (name_of_methodNamed Bd.named Bd.method).1
  have X0 : Stand p l e ({ frames := 1, cells := 0, slots := 0, locals := 17 } : Room) s m #[(.ref zs), (.ref zq), (.int zx)] below meth c s₁ [] 0 0 := Stand.of_body Bd
  have e0 : s₁.heap = h0 := by rw [← hh, Bd.state]; rfl
  have N0 := Fr.nil n0
  have Zs := Z0
  have K : Keep h0 h0 [zp, zk, zq] := Keep.refl _ _
  show own_Goes p e below s (own_Q5 Z zs zq zx zp zk zf zh zq0 h0 n0) ({ frames := 1, cells := 0, slots := 0, locals := 17 } : Room).cells ({ frames := 1, cells := 0, slots := 0, locals := 17 } : Room).slots _
  refine own_go (B := s₁.setTop (mkF m 0 #[.val (.ref zs), .val (.ref zq), .val (.int zx), .unset, .unset, .unset, .unset, .unset] [])) (fun t k => castTop (ef_5 m zs zq zx) k) ?_
  refine own_go (B := s₁.setTop (mkF m 1 #[.val (.ref zs), .val (.ref zq), .val (.int zx), .unset, .unset, .unset, .unset, .unset] [(.int zx)])) (fun t k => XS.iloadN X0.here hx rfl (Jvm.hb hby d5_0) rfl k) ?_
  refine own_go (B := s₁.setTop (mkF m 2 #[.val (.ref zs), .val (.ref zq), .val (.int zx), .unset, .unset, .unset, .unset, .unset] [(.int (3 : Int32)), (.int zx)])) (fun t k => XS.iconst X0.here hx rfl (Jvm.hb hby d5_1) k) ?_
  refine own_go (B := s₁.setTop (mkF m 3 #[.val (.ref zs), .val (.ref zq), .val (.int zx), .unset, .unset, .unset, .unset, .unset] [(.int (zx &&& (3 : Int32)))])) (fun t k => XS.iand X0.here hx rfl (Jvm.hb hby d5_2) rfl k) ?_
  obtain ⟨va, hva⟩ : ∃ z : Int32, z = (zx &&& (3 : Int32)) := ⟨_, rfl⟩
  rw [← hva]
  obtain ⟨vak, hak⟩ := own_and3 _ va hva
  refine own_go (B := s₁.setTop (mkF m 4 #[.val (.ref zs), .val (.ref zq), .val (.int zx), .val (.int va), .unset, .unset, .unset, .unset] [])) (fun t k => XS.istoreN X0.here hx rfl (Jvm.hb hby d5_3) rfl (l' := #[.val (.ref zs), .val (.ref zq), .val (.int zx), .val (.int va), .unset, .unset, .unset, .unset]) rfl k) ?_
  refine own_go (B := s₁.setTop (mkF m 5 #[.val (.ref zs), .val (.ref zq), .val (.int zx), .val (.int va), .unset, .unset, .unset, .unset] [(.int zx)])) (fun t k => XS.iloadN X0.here hx rfl (Jvm.hb hby d5_4) rfl k) ?_
  refine own_go (B := s₁.setTop (mkF m 6 #[.val (.ref zs), .val (.ref zq), .val (.int zx), .val (.int va), .unset, .unset, .unset, .unset] [(.int (2 : Int32)), (.int zx)])) (fun t k => XS.iconst X0.here hx rfl (Jvm.hb hby d5_5) k) ?_
  refine own_go (B := s₁.setTop (mkF m 7 #[.val (.ref zs), .val (.ref zq), .val (.int zx), .val (.int va), .unset, .unset, .unset, .unset] [(.int ((zx.toUInt32 >>> ((2 : Int32) &&& 31).toUInt32).toInt32))])) (fun t k => XS.iushr X0.here hx rfl (Jvm.hb hby d5_6) rfl k) ?_
  refine own_go (B := s₁.setTop (mkF m 8 #[.val (.ref zs), .val (.ref zq), .val (.int zx), .val (.int va), .unset, .unset, .unset, .unset] [(.int (3 : Int32)), (.int ((zx.toUInt32 >>> ((2 : Int32) &&& 31).toUInt32).toInt32))])) (fun t k => XS.iconst X0.here hx rfl (Jvm.hb hby d5_7) k) ?_
  refine own_go (B := s₁.setTop (mkF m 9 #[.val (.ref zs), .val (.ref zq), .val (.int zx), .val (.int va), .unset, .unset, .unset, .unset] [(.int (((zx.toUInt32 >>> ((2 : Int32) &&& 31).toUInt32).toInt32) &&& (3 : Int32)))])) (fun t k => XS.iand X0.here hx rfl (Jvm.hb hby d5_8) rfl k) ?_
  obtain ⟨vb, hvb⟩ : ∃ z : Int32, z = (((zx.toUInt32 >>> ((2 : Int32) &&& 31).toUInt32).toInt32) &&& (3 : Int32)) := ⟨_, rfl⟩
  rw [← hvb]
  obtain ⟨vbk, hbk⟩ := own_and3 _ vb hvb
  refine own_go (B := s₁.setTop (mkF m 11 #[.val (.ref zs), .val (.ref zq), .val (.int zx), .val (.int va), .val (.int vb), .unset, .unset, .unset] [])) (fun t k => XS.istore X0.here hx rfl (Jvm.hb hby d5_9) rfl (l' := #[.val (.ref zs), .val (.ref zq), .val (.int zx), .val (.int va), .val (.int vb), .unset, .unset, .unset]) rfl k) ?_
  refine own_go (B := s₁.setTop (mkF m 12 #[.val (.ref zs), .val (.ref zq), .val (.int zx), .val (.int va), .val (.int vb), .unset, .unset, .unset] [(.ref zq)])) (fun t k => XS.aloadN X0.here hx rfl (Jvm.hb hby d5_11) rfl rfl k) ?_
  refine own_go (B := s₁.setTop (mkF m 13 #[.val (.ref zs), .val (.ref zq), .val (.int zx), .val (.int va), .val (.int vb), .unset, .unset, .unset] [(.int va), (.ref zq)])) (fun t k => XS.iloadN X0.here hx rfl (Jvm.hb hby d5_12) rfl k) ?_
  refine own_go (B := s₁.setTop (mkF m 14 #[.val (.ref zs), .val (.ref zq), .val (.int zx), .val (.int va), .val (.int vb), .unset, .unset, .unset] [(.int (zq0 vak))])) (fun t k => own_iaload X0 hx hZ e0 V_zq (j := va) (k := vak) (by rw [own_nn]; omega) (own_tn _ _ hak.1) hak.2 (Jvm.hb hby d5_13) t k) ?_
  obtain ⟨v1, hv1⟩ : ∃ z : Int32, z = (zq0 vak) := ⟨_, rfl⟩
  rw [← hv1]
  obtain ⟨v1k, h1k⟩ := own_INVq hI0 vak hak.2
  rw [← hv1] at h1k
  refine own_go (B := s₁.setTop (mkF m 16 #[.val (.ref zs), .val (.ref zq), .val (.int zx), .val (.int va), .val (.int vb), .val (.int v1), .unset, .unset] [])) (fun t k => XS.istore X0.here hx rfl (Jvm.hb hby d5_14) rfl (l' := #[.val (.ref zs), .val (.ref zq), .val (.int zx), .val (.int va), .val (.int vb), .val (.int v1), .unset, .unset]) rfl k) ?_
  refine own_go (B := s₁.setTop (mkF m 17 #[.val (.ref zs), .val (.ref zq), .val (.int zx), .val (.int va), .val (.int vb), .val (.int v1), .unset, .unset] [(.ref zq)])) (fun t k => XS.aloadN X0.here hx rfl (Jvm.hb hby d5_16) rfl rfl k) ?_
  refine own_go (B := s₁.setTop (mkF m 19 #[.val (.ref zs), .val (.ref zq), .val (.int zx), .val (.int va), .val (.int vb), .val (.int v1), .unset, .unset] [(.int vb), (.ref zq)])) (fun t k => XS.iload X0.here hx rfl (Jvm.hb hby d5_17) rfl k) ?_
  refine own_go (B := s₁.setTop (mkF m 20 #[.val (.ref zs), .val (.ref zq), .val (.int zx), .val (.int va), .val (.int vb), .val (.int v1), .unset, .unset] [(.int (zq0 vbk))])) (fun t k => own_iaload X0 hx hZ e0 V_zq (j := vb) (k := vbk) (by rw [own_nn]; omega) (own_tn _ _ hbk.1) hbk.2 (Jvm.hb hby d5_19) t k) ?_
  obtain ⟨v2, hv2⟩ : ∃ z : Int32, z = (zq0 vbk) := ⟨_, rfl⟩
  rw [← hv2]
  obtain ⟨v2k, h2k⟩ := own_INVq hI0 vbk hbk.2
  rw [← hv2] at h2k
  refine own_go (B := s₁.setTop (mkF m 22 #[.val (.ref zs), .val (.ref zq), .val (.int zx), .val (.int va), .val (.int vb), .val (.int v1), .val (.int v2), .unset] [])) (fun t k => XS.istore X0.here hx rfl (Jvm.hb hby d5_20) rfl (l' := #[.val (.ref zs), .val (.ref zq), .val (.int zx), .val (.int va), .val (.int vb), .val (.int v1), .val (.int v2), .unset]) rfl k) ?_
  refine own_go (B := s₁.setTop (mkF m 24 #[.val (.ref zs), .val (.ref zq), .val (.int zx), .val (.int va), .val (.int vb), .val (.int v1), .val (.int v2), .unset] [(.int v1)])) (fun t k => XS.iload X0.here hx rfl (Jvm.hb hby d5_22) rfl k) ?_
  refine own_go (B := s₁.setTop (mkF m 26 #[.val (.ref zs), .val (.ref zq), .val (.int zx), .val (.int va), .val (.int vb), .val (.int v1), .val (.int v2), .unset] [(.int v2), (.int v1)])) (fun t k => XS.iload X0.here hx rfl (Jvm.hb hby d5_24) rfl k) ?_
  by_cases hc26_56 : v1 = v2
  · refine own_go (B := s₁.setTop (mkF m 29 #[.val (.ref zs), .val (.ref zq), .val (.int zx), .val (.int va), .val (.int vb), .val (.int v1), .val (.int v2), .unset] [])) (fun t k => XS.icmpNo X0.here hx rfl (Jvm.hb hby d5_26) rfl (teq hc26_56).2 k) ?_
    refine own_go (B := s₁.setTop (mkF m 30 #[.val (.ref zs), .val (.ref zq), .val (.int zx), .val (.int va), .val (.int vb), .val (.int v1), .val (.int v2), .unset] [(.int (1 : Int32))])) (fun t k => XS.iconst X0.here hx rfl (Jvm.hb hby d5_29) k) ?_
    refine own_out X0 (v := (some (.int (1 : Int32)))) (fun h => by rw [Bd.returns] at h; cases h) Bd.notSynchronized (fun fs hr => retOut X0 hx (t := .boolean) Bd.returns rfl (by first | exact Or.inl ⟨rfl, by simp, _, rfl⟩) (Jvm.hb hby d5_30) hr) ?_ (by decide) (by decide)
    show own_Q5 Z zs zq zx zp zk zf zh zq0 h0 n0 (some (.int (1 : Int32))) s₁.heap _
    rw [e0]
    exact ⟨rfl, N0, zf, trivial, zh, trivial, zq0, trivial, hI0, K, E_zs, F_zs_parent, F_zs_ranks, F_zs_size, F_zs_unions, V_zp, V_zk, V_zq⟩
  · refine own_go (B := s₁.setTop (mkF m 31 #[.val (.ref zs), .val (.ref zq), .val (.int zx), .val (.int va), .val (.int vb), .val (.int v1), .val (.int v2), .unset] [])) (fun t k => XS.icmpYes X0.here hx rfl (pc0 := 26) (pc' := 31) rfl (Jvm.hb hby d5_26) rfl (feq hc26_56).2 (by decide) (by decide) k) ?_
    refine own_go (B := s₁.setTop (mkF m 32 #[.val (.ref zs), .val (.ref zq), .val (.int zx), .val (.int va), .val (.int vb), .val (.int v1), .val (.int v2), .unset] [(.ref zs)])) (fun t k => XS.aloadN X0.here hx rfl (Jvm.hb hby d5_31) rfl rfl k) ?_
    refine own_go (B := s₁.setTop (mkF m 34 #[.val (.ref zs), .val (.ref zq), .val (.int zx), .val (.int va), .val (.int vb), .val (.int v1), .val (.int v2), .unset] [(.int v1), (.ref zs)])) (fun t k => XS.iload X0.here hx rfl (Jvm.hb hby d5_32) rfl k) ?_
    refine own_go (B := s₁.setTop (mkF m 36 #[.val (.ref zs), .val (.ref zq), .val (.int zx), .val (.int va), .val (.int vb), .val (.int v1), .val (.int v2), .unset] [(.int v2), (.int v1), (.ref zs)])) (fun t k => XS.iload X0.here hx rfl (Jvm.hb hby d5_34) rfl k) ?_
    obtain ⟨cq57, kq57, q57a, q57b, q57c⟩ := isOf hZ e0 E_zs
    obtain ⟨_, _, ⟨T57, La57, ka57, na57⟩, -, X57, ⟨Lc57, hQ57, l57, y57, z57⟩, st57⟩ := X0.virtualBack hx (y := (⟨"com/example/term_unifier/termunifier/UnionFind", "union", "(II)I"⟩ : MethodName)) (z := (⟨"com/example/term_unifier/termunifier/UnionFind", "union", "(II)I"⟩ : MethodName)) hown (mvT hZ (own_w hw 30 rfl)) (mvT hZ (own_w hw 31 rfl)) (notFace_of_selects (args := #[]) (mvT hZ (own_w hw 33 rfl))) (mvT hZ (own_w hw 33 rfl)) (mvT hZ (own_w hw 32 rfl)) (by decide) (backOf (W := 0) (rm6 l Z a0 hw [] zs v1 v2 zp zk zf zh v1k v2k h0 n0 Zs E_zs F_zs_parent F_zs_ranks F_zs_size F_zs_unions V_zp V_zk g_zp g_zk ne_zs_zp ne_zs_zk ne_zp_zk (by rw [own_nn]; omega) (own_tn _ _ h1k.1) h1k.2 (by rw [own_nn]; omega) (own_tn _ _ h2k.1) h2k.2 hc26_56) hZ (own_w hw 34 rfl) (own_w hw 2 rfl) (by decide) (by decide)) q57a q57c (g := (mkF m 36 #[.val (.ref zs), .val (.ref zq), .val (.int zx), .val (.int va), .val (.int vb), .val (.int v1), .val (.int v2), .unset] [(.int v2), (.int v1), (.ref zs)])) rfl (by rw [hml]; rfl) (Steps.refl _) (argsL := [(.int v1), (.int v2)]) (rest := []) (lenOf pd_0 rfl) rfl (by show 2 * 0 + _ ≤ _; exact Nat.le_of_eq rfl) (Jvm.hb hby d5_36) (fun _ _ => ⟨rfl, e0, (by decide : 0 + 0 ≤ _), (by decide : 0 + 0 ≤ _)⟩)
    dsimp only [Pt.U, Pt.locs, Pt.cells, Pt.slots] at X57 l57 y57 z57 st57 hQ57
    subst l57 y57 z57
    obtain ⟨rfl, N57q, zg_57, -, Kc57, E_zs_q, F_zs_parent_q, F_zs_ranks_q, F_zs_size_q, F_zs_unions_q, V_zp_q, V_zk_q⟩ := hQ57
    have N57 := Fr.app N0 N57q
    have V_zq := V_zq.keep Kc57 (ninS (Ne.symm ne_zp_zq) (ninS (Ne.symm ne_zk_zq) nin0))
    have K := K.trans Kc57 (allS (Or.inl (List.mem_of_getElem? (i := 0) rfl)) (allS (Or.inl (List.mem_of_getElem? (i := 1) rfl)) all0))
    have Zs := Nat.le_trans Zs Kc57.1
    have E_zs := E_zs_q
    have F_zs_parent := F_zs_parent_q
    have F_zs_ranks := F_zs_ranks_q
    have F_zs_size := F_zs_size_q
    have F_zs_unions := F_zs_unions_q
    have V_zp := V_zp_q
    have V_zk := V_zk_q
    refine own_go (B := T57.setTop (mkF m 39 #[.val (.ref zs), .val (.ref zq), .val (.int zx), .val (.int va), .val (.int vb), .val (.int v1), .val (.int v2), .unset] [(.int (own_mg (zh v1k) (zh v2k) v1 v2))])) (fun t k => own_st st57 k) ?_
    obtain ⟨vm, hvm⟩ : ∃ z : Int32, z = (own_mg (zh v1k) (zh v2k) v1 v2) := ⟨_, rfl⟩
    rw [← hvm]
    have hvm0 := hvm
    refine own_go (B := T57.setTop (mkF m 41 #[.val (.ref zs), .val (.ref zq), .val (.int zx), .val (.int va), .val (.int vb), .val (.int v1), .val (.int v2), .val (.int vm)] [])) (fun t k => XS.istore X57.here hx rfl (Jvm.hb hby d5_39) rfl (l' := #[.val (.ref zs), .val (.ref zq), .val (.int zx), .val (.int va), .val (.int vb), .val (.int v1), .val (.int v2), .val (.int vm)]) rfl k) ?_
    have hvm : vm = v1 ∨ vm = v2 := by rw [hvm0]; unfold own_mg; split; exact Or.inr rfl; exact Or.inl rfl
    have hg0 : zq0 0 = zq0 0 ∧ zq0 1 = zq0 1 ∧ zq0 2 = zq0 2 ∧ zq0 3 = zq0 3 := ⟨rfl, rfl, rfl, rfl⟩
    have J57 : ∀ (Tj57 : State) (Lj57 : List Loc) (Xj57 : Stand p l e ({ frames := 1, cells := 0, slots := 0, locals := 17 } : Room) s m #[(.ref zs), (.ref zq), (.int zx)] below meth c Tj57 Lj57 0 0) (ej57 : Tj57.heap = T57.heap) (Nj57 : Fr n0 Lj57), own_Goes p e below s (own_Q5 Z zs zq zx zp zk zf zh zq0 h0 n0) ({ frames := 1, cells := 0, slots := 0, locals := 17 } : Room).cells ({ frames := 1, cells := 0, slots := 0, locals := 17 } : Room).slots (Tj57.setTop (mkF m 57 #[.val (.ref zs), .val (.ref zq), .val (.int zx), .val (.int va), .val (.int vb), .val (.int v1), .val (.int v2), .val (.int vm)] [])) := by
      intro Tj57 Lj57 Xj57 ej57 Nj57
      have J78 : ∀ (hj78 : Heap) (Tj78 : State) (Lj78 : List Loc) (Xj78 : Stand p l e ({ frames := 1, cells := 0, slots := 0, locals := 17 } : Room) s m #[(.ref zs), (.ref zq), (.int zx)] below meth c Tj78 Lj78 0 0) (ej78 : Tj78.heap = hj78) (Nj78 : Fr n0 Lj78) (Zs : n0 ≤ hj78.size) (K : Keep h0 hj78 [zp, zk, zq]) (zg1 : Nat → Int32) (V_zq : own_IA Z hj78 zq .int 4 zg1) (E_zs : Exa Z hj78 zs "com/example/term_unifier/termunifier/UnionFind") (F_zs_parent : Fld Z hj78 zs "com/example/term_unifier/termunifier/UnionFind" "parent" "[I" (.ref zp)) (F_zs_ranks : Fld Z hj78 zs "com/example/term_unifier/termunifier/UnionFind" "ranks" "[B" (.ref zk)) (F_zs_size : Fld Z hj78 zs "com/example/term_unifier/termunifier/UnionFind" "size" "I" (.int (4 : Int32))) (F_zs_unions : Fld Z hj78 zs "com/example/term_unifier/termunifier/UnionFind" "unions" "Lcom/example/term_unifier/termunifier/IntStack;" .null) (V_zp : own_IA Z hj78 zp .int 16 (own_upd zf (own_ck (zh v1k) (zh v2k) v1k v2k) (own_mg (zh v1k) (zh v2k) v1 v2))) (V_zk : own_IA Z hj78 zk .byte 16 zg_57) (hg1 : zg1 0 = (if zq0 0 = v1 ∨ zq0 0 = v2 then vm else zq0 0) ∧ zg1 1 = zq0 1 ∧ zg1 2 = zq0 2 ∧ zg1 3 = zq0 3), own_Goes p e below s (own_Q5 Z zs zq zx zp zk zf zh zq0 h0 n0) ({ frames := 1, cells := 0, slots := 0, locals := 17 } : Room).cells ({ frames := 1, cells := 0, slots := 0, locals := 17 } : Room).slots (Tj78.setTop (mkF m 78 #[.val (.ref zs), .val (.ref zq), .val (.int zx), .val (.int va), .val (.int vb), .val (.int v1), .val (.int v2), .val (.int vm)] [])) := by
        intro hj78 Tj78 Lj78 Xj78 ej78 Nj78 Zs K zg1 V_zq E_zs F_zs_parent F_zs_ranks F_zs_size F_zs_unions V_zp V_zk hg1
        have J99 : ∀ (hj99 : Heap) (Tj99 : State) (Lj99 : List Loc) (Xj99 : Stand p l e ({ frames := 1, cells := 0, slots := 0, locals := 17 } : Room) s m #[(.ref zs), (.ref zq), (.int zx)] below meth c Tj99 Lj99 0 0) (ej99 : Tj99.heap = hj99) (Nj99 : Fr n0 Lj99) (Zs : n0 ≤ hj99.size) (K : Keep h0 hj99 [zp, zk, zq]) (zg2 : Nat → Int32) (V_zq : own_IA Z hj99 zq .int 4 zg2) (E_zs : Exa Z hj99 zs "com/example/term_unifier/termunifier/UnionFind") (F_zs_parent : Fld Z hj99 zs "com/example/term_unifier/termunifier/UnionFind" "parent" "[I" (.ref zp)) (F_zs_ranks : Fld Z hj99 zs "com/example/term_unifier/termunifier/UnionFind" "ranks" "[B" (.ref zk)) (F_zs_size : Fld Z hj99 zs "com/example/term_unifier/termunifier/UnionFind" "size" "I" (.int (4 : Int32))) (F_zs_unions : Fld Z hj99 zs "com/example/term_unifier/termunifier/UnionFind" "unions" "Lcom/example/term_unifier/termunifier/IntStack;" .null) (V_zp : own_IA Z hj99 zp .int 16 (own_upd zf (own_ck (zh v1k) (zh v2k) v1k v2k) (own_mg (zh v1k) (zh v2k) v1 v2))) (V_zk : own_IA Z hj99 zk .byte 16 zg_57) (hg2 : zg2 0 = (if zq0 0 = v1 ∨ zq0 0 = v2 then vm else zq0 0) ∧ zg2 1 = (if zq0 1 = v1 ∨ zq0 1 = v2 then vm else zq0 1) ∧ zg2 2 = zq0 2 ∧ zg2 3 = zq0 3), own_Goes p e below s (own_Q5 Z zs zq zx zp zk zf zh zq0 h0 n0) ({ frames := 1, cells := 0, slots := 0, locals := 17 } : Room).cells ({ frames := 1, cells := 0, slots := 0, locals := 17 } : Room).slots (Tj99.setTop (mkF m 99 #[.val (.ref zs), .val (.ref zq), .val (.int zx), .val (.int va), .val (.int vb), .val (.int v1), .val (.int v2), .val (.int vm)] [])) := by
          intro hj99 Tj99 Lj99 Xj99 ej99 Nj99 Zs K zg2 V_zq E_zs F_zs_parent F_zs_ranks F_zs_size F_zs_unions V_zp V_zk hg2
          have J120 : ∀ (hj120 : Heap) (Tj120 : State) (Lj120 : List Loc) (Xj120 : Stand p l e ({ frames := 1, cells := 0, slots := 0, locals := 17 } : Room) s m #[(.ref zs), (.ref zq), (.int zx)] below meth c Tj120 Lj120 0 0) (ej120 : Tj120.heap = hj120) (Nj120 : Fr n0 Lj120) (Zs : n0 ≤ hj120.size) (K : Keep h0 hj120 [zp, zk, zq]) (zg3 : Nat → Int32) (V_zq : own_IA Z hj120 zq .int 4 zg3) (E_zs : Exa Z hj120 zs "com/example/term_unifier/termunifier/UnionFind") (F_zs_parent : Fld Z hj120 zs "com/example/term_unifier/termunifier/UnionFind" "parent" "[I" (.ref zp)) (F_zs_ranks : Fld Z hj120 zs "com/example/term_unifier/termunifier/UnionFind" "ranks" "[B" (.ref zk)) (F_zs_size : Fld Z hj120 zs "com/example/term_unifier/termunifier/UnionFind" "size" "I" (.int (4 : Int32))) (F_zs_unions : Fld Z hj120 zs "com/example/term_unifier/termunifier/UnionFind" "unions" "Lcom/example/term_unifier/termunifier/IntStack;" .null) (V_zp : own_IA Z hj120 zp .int 16 (own_upd zf (own_ck (zh v1k) (zh v2k) v1k v2k) (own_mg (zh v1k) (zh v2k) v1 v2))) (V_zk : own_IA Z hj120 zk .byte 16 zg_57) (hg3 : zg3 0 = (if zq0 0 = v1 ∨ zq0 0 = v2 then vm else zq0 0) ∧ zg3 1 = (if zq0 1 = v1 ∨ zq0 1 = v2 then vm else zq0 1) ∧ zg3 2 = (if zq0 2 = v1 ∨ zq0 2 = v2 then vm else zq0 2) ∧ zg3 3 = zq0 3), own_Goes p e below s (own_Q5 Z zs zq zx zp zk zf zh zq0 h0 n0) ({ frames := 1, cells := 0, slots := 0, locals := 17 } : Room).cells ({ frames := 1, cells := 0, slots := 0, locals := 17 } : Room).slots (Tj120.setTop (mkF m 120 #[.val (.ref zs), .val (.ref zq), .val (.int zx), .val (.int va), .val (.int vb), .val (.int v1), .val (.int v2), .val (.int vm)] [])) := by
            intro hj120 Tj120 Lj120 Xj120 ej120 Nj120 Zs K zg3 V_zq E_zs F_zs_parent F_zs_ranks F_zs_size F_zs_unions V_zp V_zk hg3
            have J141 : ∀ (hj141 : Heap) (Tj141 : State) (Lj141 : List Loc) (Xj141 : Stand p l e ({ frames := 1, cells := 0, slots := 0, locals := 17 } : Room) s m #[(.ref zs), (.ref zq), (.int zx)] below meth c Tj141 Lj141 0 0) (ej141 : Tj141.heap = hj141) (Nj141 : Fr n0 Lj141) (Zs : n0 ≤ hj141.size) (K : Keep h0 hj141 [zp, zk, zq]) (zg4 : Nat → Int32) (V_zq : own_IA Z hj141 zq .int 4 zg4) (E_zs : Exa Z hj141 zs "com/example/term_unifier/termunifier/UnionFind") (F_zs_parent : Fld Z hj141 zs "com/example/term_unifier/termunifier/UnionFind" "parent" "[I" (.ref zp)) (F_zs_ranks : Fld Z hj141 zs "com/example/term_unifier/termunifier/UnionFind" "ranks" "[B" (.ref zk)) (F_zs_size : Fld Z hj141 zs "com/example/term_unifier/termunifier/UnionFind" "size" "I" (.int (4 : Int32))) (F_zs_unions : Fld Z hj141 zs "com/example/term_unifier/termunifier/UnionFind" "unions" "Lcom/example/term_unifier/termunifier/IntStack;" .null) (V_zp : own_IA Z hj141 zp .int 16 (own_upd zf (own_ck (zh v1k) (zh v2k) v1k v2k) (own_mg (zh v1k) (zh v2k) v1 v2))) (V_zk : own_IA Z hj141 zk .byte 16 zg_57) (hg4 : zg4 0 = (if zq0 0 = v1 ∨ zq0 0 = v2 then vm else zq0 0) ∧ zg4 1 = (if zq0 1 = v1 ∨ zq0 1 = v2 then vm else zq0 1) ∧ zg4 2 = (if zq0 2 = v1 ∨ zq0 2 = v2 then vm else zq0 2) ∧ zg4 3 = (if zq0 3 = v1 ∨ zq0 3 = v2 then vm else zq0 3)), own_Goes p e below s (own_Q5 Z zs zq zx zp zk zf zh zq0 h0 n0) ({ frames := 1, cells := 0, slots := 0, locals := 17 } : Room).cells ({ frames := 1, cells := 0, slots := 0, locals := 17 } : Room).slots (Tj141.setTop (mkF m 141 #[.val (.ref zs), .val (.ref zq), .val (.int zx), .val (.int va), .val (.int vb), .val (.int v1), .val (.int v2), .val (.int vm)] [])) := by
              intro hj141 Tj141 Lj141 Xj141 ej141 Nj141 Zs K zg4 V_zq E_zs F_zs_parent F_zs_ranks F_zs_size F_zs_unions V_zp V_zk hg4
              refine own_go (B := Tj141.setTop (mkF m 142 #[.val (.ref zs), .val (.ref zq), .val (.int zx), .val (.int va), .val (.int vb), .val (.int v1), .val (.int v2), .val (.int vm)] [(.int (1 : Int32))])) (fun t k => XS.iconst Xj141.here hx rfl (Jvm.hb hby d5_141) k) ?_
              refine own_out Xj141 (v := (some (.int (1 : Int32)))) (fun h => by rw [Bd.returns] at h; cases h) Bd.notSynchronized (fun fs hr => retOut Xj141 hx (t := .boolean) Bd.returns rfl (by first | exact Or.inl ⟨rfl, by simp, _, rfl⟩) (Jvm.hb hby d5_142) hr) ?_ (by decide) (by decide)
              show own_Q5 Z zs zq zx zp zk zf zh zq0 h0 n0 (some (.int (1 : Int32))) Tj141.heap _
              rw [ej141]
              exact ⟨rfl, Nj141, (own_upd zf (own_ck (zh v1k) (zh v2k) v1k v2k) (own_mg (zh v1k) (zh v2k) v1 v2)), trivial, zg_57, trivial, zg4, trivial, (own_uni hI0 vak vbk hak.2 hbk.2 (by rw [← hv1, ← hv2]; exact hc26_56) (own_mg (zh v1k) (zh v2k) v1 v2) (own_ch (zh v1k) (zh v2k) v1 v2) (own_ck (zh v1k) (zh v2k) v1k v2k) (by unfold own_ch own_ck; split <;> first | exact h1k.1 | exact h2k.1) (by rw [← hv1, ← hv2]; unfold own_mg own_ch; split <;> first | exact Or.inr ⟨rfl, rfl⟩ | exact Or.inl ⟨rfl, rfl⟩) (by intro k hk; rw [← hv1, ← hv2, ← hvm0]; obtain ⟨b0, b1, b2, b3⟩ := hg4; have : k = 0 ∨ k = 1 ∨ k = 2 ∨ k = 3 := (by omega); rcases this with rfl | rfl | rfl | rfl; exact b0; exact b1; exact b2; exact b3)), K, E_zs, F_zs_parent, F_zs_ranks, F_zs_size, F_zs_unions, V_zp, V_zk, V_zq⟩
            refine own_go (B := Tj120.setTop (mkF m 121 #[.val (.ref zs), .val (.ref zq), .val (.int zx), .val (.int va), .val (.int vb), .val (.int v1), .val (.int v2), .val (.int vm)] [(.ref zq)])) (fun t k => XS.aloadN Xj120.here hx rfl (Jvm.hb hby d5_120) rfl rfl k) ?_
            refine own_go (B := Tj120.setTop (mkF m 122 #[.val (.ref zs), .val (.ref zq), .val (.int zx), .val (.int va), .val (.int vb), .val (.int v1), .val (.int v2), .val (.int vm)] [(.int (3 : Int32)), (.ref zq)])) (fun t k => XS.iconst Xj120.here hx rfl (Jvm.hb hby d5_121) k) ?_
            refine own_go (B := Tj120.setTop (mkF m 123 #[.val (.ref zs), .val (.ref zq), .val (.int zx), .val (.int va), .val (.int vb), .val (.int v1), .val (.int v2), .val (.int vm)] [(.int (zg3 3))])) (fun t k => own_iaload Xj120 hx hZ ej120 V_zq (j := (3 : Int32)) (k := 3) (by decide) (by decide) (by decide) (Jvm.hb hby d5_122) t k) ?_
            refine own_go (B := Tj120.setTop (mkF m 125 #[.val (.ref zs), .val (.ref zq), .val (.int zx), .val (.int va), .val (.int vb), .val (.int v1), .val (.int v2), .val (.int vm)] [(.int v1), (.int (zg3 3))])) (fun t k => XS.iload Xj120.here hx rfl (Jvm.hb hby d5_123) rfl k) ?_
            by_cases hc125_58 : (zg3 3) = v1
            · refine own_go (B := Tj120.setTop (mkF m 136 #[.val (.ref zs), .val (.ref zq), .val (.int zx), .val (.int va), .val (.int vb), .val (.int v1), .val (.int v2), .val (.int vm)] [])) (fun t k => XS.icmpYes Xj120.here hx rfl (pc0 := 125) (pc' := 136) rfl (Jvm.hb hby d5_125) rfl (teq hc125_58).1 (by decide) (by decide) k) ?_
              refine own_go (B := Tj120.setTop (mkF m 137 #[.val (.ref zs), .val (.ref zq), .val (.int zx), .val (.int va), .val (.int vb), .val (.int v1), .val (.int v2), .val (.int vm)] [(.ref zq)])) (fun t k => XS.aloadN Xj120.here hx rfl (Jvm.hb hby d5_136) rfl rfl k) ?_
              refine own_go (B := Tj120.setTop (mkF m 138 #[.val (.ref zs), .val (.ref zq), .val (.int zx), .val (.int va), .val (.int vb), .val (.int v1), .val (.int v2), .val (.int vm)] [(.int (3 : Int32)), (.ref zq)])) (fun t k => XS.iconst Xj120.here hx rfl (Jvm.hb hby d5_137) k) ?_
              refine own_go (B := Tj120.setTop (mkF m 140 #[.val (.ref zs), .val (.ref zq), .val (.int zx), .val (.int va), .val (.int vb), .val (.int v1), .val (.int v2), .val (.int vm)] [(.int vm), (.int (3 : Int32)), (.ref zq)])) (fun t k => XS.iload Xj120.here hx rfl (Jvm.hb hby d5_138) rfl k) ?_
              obtain ⟨T59, h59, X59, e59, W59, V59, st59⟩ := own_iastore Xj120 hx hZ ej120 V_zq (j := (3 : Int32)) (k := 3) (by decide) (by decide) (by decide) (g := (mkF m 140 #[.val (.ref zs), .val (.ref zq), .val (.int zx), .val (.int va), .val (.int vb), .val (.int v1), .val (.int v2), .val (.int vm)] [(.int vm), (.int (3 : Int32)), (.ref zq)])) rfl rfl (Jvm.hb hby d5_140)
              have N59 := Fr.snoc X59 Nj120 g_zq
              have E_zs := E_zs.wr W59
              have F_zs_parent := F_zs_parent.other W59 (Or.inl ne_zs_zq)
              have F_zs_ranks := F_zs_ranks.other W59 (Or.inl ne_zs_zq)
              have F_zs_size := F_zs_size.other W59 (Or.inl ne_zs_zq)
              have F_zs_unions := F_zs_unions.other W59 (Or.inl ne_zs_zq)
              have V_zp := V_zp.other W59 ne_zp_zq
              have V_zk := V_zk.other W59 ne_zk_zq
              have K := K.wr W59 (Or.inl (List.mem_of_getElem? (i := 2) rfl))
              have Zs := Nat.le_trans Zs (Keep.of_wr W59).1
              have V_zq := V59
              refine own_go (B := T59.setTop (mkF m 141 #[.val (.ref zs), .val (.ref zq), .val (.int zx), .val (.int va), .val (.int vb), .val (.int v1), .val (.int v2), .val (.int vm)] [])) (fun t k => st59 _ k) ?_
              exact J141 h59 T59 _ X59 e59 N59 Zs K (own_upd zg3 3 vm) V_zq E_zs F_zs_parent F_zs_ranks F_zs_size F_zs_unions V_zp V_zk (own_sj4 hg3 (Or.inl ⟨Or.inl hc125_58, rfl⟩))
            · refine own_go (B := Tj120.setTop (mkF m 128 #[.val (.ref zs), .val (.ref zq), .val (.int zx), .val (.int va), .val (.int vb), .val (.int v1), .val (.int v2), .val (.int vm)] [])) (fun t k => XS.icmpNo Xj120.here hx rfl (Jvm.hb hby d5_125) rfl (feq hc125_58).1 k) ?_
              refine own_go (B := Tj120.setTop (mkF m 129 #[.val (.ref zs), .val (.ref zq), .val (.int zx), .val (.int va), .val (.int vb), .val (.int v1), .val (.int v2), .val (.int vm)] [(.ref zq)])) (fun t k => XS.aloadN Xj120.here hx rfl (Jvm.hb hby d5_128) rfl rfl k) ?_
              refine own_go (B := Tj120.setTop (mkF m 130 #[.val (.ref zs), .val (.ref zq), .val (.int zx), .val (.int va), .val (.int vb), .val (.int v1), .val (.int v2), .val (.int vm)] [(.int (3 : Int32)), (.ref zq)])) (fun t k => XS.iconst Xj120.here hx rfl (Jvm.hb hby d5_129) k) ?_
              refine own_go (B := Tj120.setTop (mkF m 131 #[.val (.ref zs), .val (.ref zq), .val (.int zx), .val (.int va), .val (.int vb), .val (.int v1), .val (.int v2), .val (.int vm)] [(.int (zg3 3))])) (fun t k => own_iaload Xj120 hx hZ ej120 V_zq (j := (3 : Int32)) (k := 3) (by decide) (by decide) (by decide) (Jvm.hb hby d5_130) t k) ?_
              refine own_go (B := Tj120.setTop (mkF m 133 #[.val (.ref zs), .val (.ref zq), .val (.int zx), .val (.int va), .val (.int vb), .val (.int v1), .val (.int v2), .val (.int vm)] [(.int v2), (.int (zg3 3))])) (fun t k => XS.iload Xj120.here hx rfl (Jvm.hb hby d5_131) rfl k) ?_
              by_cases hc133_60 : (zg3 3) = v2
              · refine own_go (B := Tj120.setTop (mkF m 136 #[.val (.ref zs), .val (.ref zq), .val (.int zx), .val (.int va), .val (.int vb), .val (.int v1), .val (.int v2), .val (.int vm)] [])) (fun t k => XS.icmpNo Xj120.here hx rfl (Jvm.hb hby d5_133) rfl (teq hc133_60).2 k) ?_
                refine own_go (B := Tj120.setTop (mkF m 137 #[.val (.ref zs), .val (.ref zq), .val (.int zx), .val (.int va), .val (.int vb), .val (.int v1), .val (.int v2), .val (.int vm)] [(.ref zq)])) (fun t k => XS.aloadN Xj120.here hx rfl (Jvm.hb hby d5_136) rfl rfl k) ?_
                refine own_go (B := Tj120.setTop (mkF m 138 #[.val (.ref zs), .val (.ref zq), .val (.int zx), .val (.int va), .val (.int vb), .val (.int v1), .val (.int v2), .val (.int vm)] [(.int (3 : Int32)), (.ref zq)])) (fun t k => XS.iconst Xj120.here hx rfl (Jvm.hb hby d5_137) k) ?_
                refine own_go (B := Tj120.setTop (mkF m 140 #[.val (.ref zs), .val (.ref zq), .val (.int zx), .val (.int va), .val (.int vb), .val (.int v1), .val (.int v2), .val (.int vm)] [(.int vm), (.int (3 : Int32)), (.ref zq)])) (fun t k => XS.iload Xj120.here hx rfl (Jvm.hb hby d5_138) rfl k) ?_
                obtain ⟨T61, h61, X61, e61, W61, V61, st61⟩ := own_iastore Xj120 hx hZ ej120 V_zq (j := (3 : Int32)) (k := 3) (by decide) (by decide) (by decide) (g := (mkF m 140 #[.val (.ref zs), .val (.ref zq), .val (.int zx), .val (.int va), .val (.int vb), .val (.int v1), .val (.int v2), .val (.int vm)] [(.int vm), (.int (3 : Int32)), (.ref zq)])) rfl rfl (Jvm.hb hby d5_140)
                have N61 := Fr.snoc X61 Nj120 g_zq
                have E_zs := E_zs.wr W61
                have F_zs_parent := F_zs_parent.other W61 (Or.inl ne_zs_zq)
                have F_zs_ranks := F_zs_ranks.other W61 (Or.inl ne_zs_zq)
                have F_zs_size := F_zs_size.other W61 (Or.inl ne_zs_zq)
                have F_zs_unions := F_zs_unions.other W61 (Or.inl ne_zs_zq)
                have V_zp := V_zp.other W61 ne_zp_zq
                have V_zk := V_zk.other W61 ne_zk_zq
                have K := K.wr W61 (Or.inl (List.mem_of_getElem? (i := 2) rfl))
                have Zs := Nat.le_trans Zs (Keep.of_wr W61).1
                have V_zq := V61
                refine own_go (B := T61.setTop (mkF m 141 #[.val (.ref zs), .val (.ref zq), .val (.int zx), .val (.int va), .val (.int vb), .val (.int v1), .val (.int v2), .val (.int vm)] [])) (fun t k => st61 _ k) ?_
                exact J141 h61 T61 _ X61 e61 N61 Zs K (own_upd zg3 3 vm) V_zq E_zs F_zs_parent F_zs_ranks F_zs_size F_zs_unions V_zp V_zk (own_sj4 hg3 (Or.inl ⟨Or.inr hc133_60, rfl⟩))
              · refine own_go (B := Tj120.setTop (mkF m 141 #[.val (.ref zs), .val (.ref zq), .val (.int zx), .val (.int va), .val (.int vb), .val (.int v1), .val (.int v2), .val (.int vm)] [])) (fun t k => XS.icmpYes Xj120.here hx rfl (pc0 := 133) (pc' := 141) rfl (Jvm.hb hby d5_133) rfl (feq hc133_60).2 (by decide) (by decide) k) ?_
                exact J141 hj120 Tj120 _ Xj120 ej120 Nj120 Zs K zg3 V_zq E_zs F_zs_parent F_zs_ranks F_zs_size F_zs_unions V_zp V_zk (own_sj4 hg3 (Or.inr ⟨hc125_58, hc133_60, rfl⟩))
          refine own_go (B := Tj99.setTop (mkF m 100 #[.val (.ref zs), .val (.ref zq), .val (.int zx), .val (.int va), .val (.int vb), .val (.int v1), .val (.int v2), .val (.int vm)] [(.ref zq)])) (fun t k => XS.aloadN Xj99.here hx rfl (Jvm.hb hby d5_99) rfl rfl k) ?_
          refine own_go (B := Tj99.setTop (mkF m 101 #[.val (.ref zs), .val (.ref zq), .val (.int zx), .val (.int va), .val (.int vb), .val (.int v1), .val (.int v2), .val (.int vm)] [(.int (2 : Int32)), (.ref zq)])) (fun t k => XS.iconst Xj99.here hx rfl (Jvm.hb hby d5_100) k) ?_
          refine own_go (B := Tj99.setTop (mkF m 102 #[.val (.ref zs), .val (.ref zq), .val (.int zx), .val (.int va), .val (.int vb), .val (.int v1), .val (.int v2), .val (.int vm)] [(.int (zg2 2))])) (fun t k => own_iaload Xj99 hx hZ ej99 V_zq (j := (2 : Int32)) (k := 2) (by decide) (by decide) (by decide) (Jvm.hb hby d5_101) t k) ?_
          refine own_go (B := Tj99.setTop (mkF m 104 #[.val (.ref zs), .val (.ref zq), .val (.int zx), .val (.int va), .val (.int vb), .val (.int v1), .val (.int v2), .val (.int vm)] [(.int v1), (.int (zg2 2))])) (fun t k => XS.iload Xj99.here hx rfl (Jvm.hb hby d5_102) rfl k) ?_
          by_cases hc104_62 : (zg2 2) = v1
          · refine own_go (B := Tj99.setTop (mkF m 115 #[.val (.ref zs), .val (.ref zq), .val (.int zx), .val (.int va), .val (.int vb), .val (.int v1), .val (.int v2), .val (.int vm)] [])) (fun t k => XS.icmpYes Xj99.here hx rfl (pc0 := 104) (pc' := 115) rfl (Jvm.hb hby d5_104) rfl (teq hc104_62).1 (by decide) (by decide) k) ?_
            refine own_go (B := Tj99.setTop (mkF m 116 #[.val (.ref zs), .val (.ref zq), .val (.int zx), .val (.int va), .val (.int vb), .val (.int v1), .val (.int v2), .val (.int vm)] [(.ref zq)])) (fun t k => XS.aloadN Xj99.here hx rfl (Jvm.hb hby d5_115) rfl rfl k) ?_
            refine own_go (B := Tj99.setTop (mkF m 117 #[.val (.ref zs), .val (.ref zq), .val (.int zx), .val (.int va), .val (.int vb), .val (.int v1), .val (.int v2), .val (.int vm)] [(.int (2 : Int32)), (.ref zq)])) (fun t k => XS.iconst Xj99.here hx rfl (Jvm.hb hby d5_116) k) ?_
            refine own_go (B := Tj99.setTop (mkF m 119 #[.val (.ref zs), .val (.ref zq), .val (.int zx), .val (.int va), .val (.int vb), .val (.int v1), .val (.int v2), .val (.int vm)] [(.int vm), (.int (2 : Int32)), (.ref zq)])) (fun t k => XS.iload Xj99.here hx rfl (Jvm.hb hby d5_117) rfl k) ?_
            obtain ⟨T63, h63, X63, e63, W63, V63, st63⟩ := own_iastore Xj99 hx hZ ej99 V_zq (j := (2 : Int32)) (k := 2) (by decide) (by decide) (by decide) (g := (mkF m 119 #[.val (.ref zs), .val (.ref zq), .val (.int zx), .val (.int va), .val (.int vb), .val (.int v1), .val (.int v2), .val (.int vm)] [(.int vm), (.int (2 : Int32)), (.ref zq)])) rfl rfl (Jvm.hb hby d5_119)
            have N63 := Fr.snoc X63 Nj99 g_zq
            have E_zs := E_zs.wr W63
            have F_zs_parent := F_zs_parent.other W63 (Or.inl ne_zs_zq)
            have F_zs_ranks := F_zs_ranks.other W63 (Or.inl ne_zs_zq)
            have F_zs_size := F_zs_size.other W63 (Or.inl ne_zs_zq)
            have F_zs_unions := F_zs_unions.other W63 (Or.inl ne_zs_zq)
            have V_zp := V_zp.other W63 ne_zp_zq
            have V_zk := V_zk.other W63 ne_zk_zq
            have K := K.wr W63 (Or.inl (List.mem_of_getElem? (i := 2) rfl))
            have Zs := Nat.le_trans Zs (Keep.of_wr W63).1
            have V_zq := V63
            refine own_go (B := T63.setTop (mkF m 120 #[.val (.ref zs), .val (.ref zq), .val (.int zx), .val (.int va), .val (.int vb), .val (.int v1), .val (.int v2), .val (.int vm)] [])) (fun t k => st63 _ k) ?_
            exact J120 h63 T63 _ X63 e63 N63 Zs K (own_upd zg2 2 vm) V_zq E_zs F_zs_parent F_zs_ranks F_zs_size F_zs_unions V_zp V_zk (own_sj3 hg2 (Or.inl ⟨Or.inl hc104_62, rfl⟩))
          · refine own_go (B := Tj99.setTop (mkF m 107 #[.val (.ref zs), .val (.ref zq), .val (.int zx), .val (.int va), .val (.int vb), .val (.int v1), .val (.int v2), .val (.int vm)] [])) (fun t k => XS.icmpNo Xj99.here hx rfl (Jvm.hb hby d5_104) rfl (feq hc104_62).1 k) ?_
            refine own_go (B := Tj99.setTop (mkF m 108 #[.val (.ref zs), .val (.ref zq), .val (.int zx), .val (.int va), .val (.int vb), .val (.int v1), .val (.int v2), .val (.int vm)] [(.ref zq)])) (fun t k => XS.aloadN Xj99.here hx rfl (Jvm.hb hby d5_107) rfl rfl k) ?_
            refine own_go (B := Tj99.setTop (mkF m 109 #[.val (.ref zs), .val (.ref zq), .val (.int zx), .val (.int va), .val (.int vb), .val (.int v1), .val (.int v2), .val (.int vm)] [(.int (2 : Int32)), (.ref zq)])) (fun t k => XS.iconst Xj99.here hx rfl (Jvm.hb hby d5_108) k) ?_
            refine own_go (B := Tj99.setTop (mkF m 110 #[.val (.ref zs), .val (.ref zq), .val (.int zx), .val (.int va), .val (.int vb), .val (.int v1), .val (.int v2), .val (.int vm)] [(.int (zg2 2))])) (fun t k => own_iaload Xj99 hx hZ ej99 V_zq (j := (2 : Int32)) (k := 2) (by decide) (by decide) (by decide) (Jvm.hb hby d5_109) t k) ?_
            refine own_go (B := Tj99.setTop (mkF m 112 #[.val (.ref zs), .val (.ref zq), .val (.int zx), .val (.int va), .val (.int vb), .val (.int v1), .val (.int v2), .val (.int vm)] [(.int v2), (.int (zg2 2))])) (fun t k => XS.iload Xj99.here hx rfl (Jvm.hb hby d5_110) rfl k) ?_
            by_cases hc112_64 : (zg2 2) = v2
            · refine own_go (B := Tj99.setTop (mkF m 115 #[.val (.ref zs), .val (.ref zq), .val (.int zx), .val (.int va), .val (.int vb), .val (.int v1), .val (.int v2), .val (.int vm)] [])) (fun t k => XS.icmpNo Xj99.here hx rfl (Jvm.hb hby d5_112) rfl (teq hc112_64).2 k) ?_
              refine own_go (B := Tj99.setTop (mkF m 116 #[.val (.ref zs), .val (.ref zq), .val (.int zx), .val (.int va), .val (.int vb), .val (.int v1), .val (.int v2), .val (.int vm)] [(.ref zq)])) (fun t k => XS.aloadN Xj99.here hx rfl (Jvm.hb hby d5_115) rfl rfl k) ?_
              refine own_go (B := Tj99.setTop (mkF m 117 #[.val (.ref zs), .val (.ref zq), .val (.int zx), .val (.int va), .val (.int vb), .val (.int v1), .val (.int v2), .val (.int vm)] [(.int (2 : Int32)), (.ref zq)])) (fun t k => XS.iconst Xj99.here hx rfl (Jvm.hb hby d5_116) k) ?_
              refine own_go (B := Tj99.setTop (mkF m 119 #[.val (.ref zs), .val (.ref zq), .val (.int zx), .val (.int va), .val (.int vb), .val (.int v1), .val (.int v2), .val (.int vm)] [(.int vm), (.int (2 : Int32)), (.ref zq)])) (fun t k => XS.iload Xj99.here hx rfl (Jvm.hb hby d5_117) rfl k) ?_
              obtain ⟨T65, h65, X65, e65, W65, V65, st65⟩ := own_iastore Xj99 hx hZ ej99 V_zq (j := (2 : Int32)) (k := 2) (by decide) (by decide) (by decide) (g := (mkF m 119 #[.val (.ref zs), .val (.ref zq), .val (.int zx), .val (.int va), .val (.int vb), .val (.int v1), .val (.int v2), .val (.int vm)] [(.int vm), (.int (2 : Int32)), (.ref zq)])) rfl rfl (Jvm.hb hby d5_119)
              have N65 := Fr.snoc X65 Nj99 g_zq
              have E_zs := E_zs.wr W65
              have F_zs_parent := F_zs_parent.other W65 (Or.inl ne_zs_zq)
              have F_zs_ranks := F_zs_ranks.other W65 (Or.inl ne_zs_zq)
              have F_zs_size := F_zs_size.other W65 (Or.inl ne_zs_zq)
              have F_zs_unions := F_zs_unions.other W65 (Or.inl ne_zs_zq)
              have V_zp := V_zp.other W65 ne_zp_zq
              have V_zk := V_zk.other W65 ne_zk_zq
              have K := K.wr W65 (Or.inl (List.mem_of_getElem? (i := 2) rfl))
              have Zs := Nat.le_trans Zs (Keep.of_wr W65).1
              have V_zq := V65
              refine own_go (B := T65.setTop (mkF m 120 #[.val (.ref zs), .val (.ref zq), .val (.int zx), .val (.int va), .val (.int vb), .val (.int v1), .val (.int v2), .val (.int vm)] [])) (fun t k => st65 _ k) ?_
              exact J120 h65 T65 _ X65 e65 N65 Zs K (own_upd zg2 2 vm) V_zq E_zs F_zs_parent F_zs_ranks F_zs_size F_zs_unions V_zp V_zk (own_sj3 hg2 (Or.inl ⟨Or.inr hc112_64, rfl⟩))
            · refine own_go (B := Tj99.setTop (mkF m 120 #[.val (.ref zs), .val (.ref zq), .val (.int zx), .val (.int va), .val (.int vb), .val (.int v1), .val (.int v2), .val (.int vm)] [])) (fun t k => XS.icmpYes Xj99.here hx rfl (pc0 := 112) (pc' := 120) rfl (Jvm.hb hby d5_112) rfl (feq hc112_64).2 (by decide) (by decide) k) ?_
              exact J120 hj99 Tj99 _ Xj99 ej99 Nj99 Zs K zg2 V_zq E_zs F_zs_parent F_zs_ranks F_zs_size F_zs_unions V_zp V_zk (own_sj3 hg2 (Or.inr ⟨hc104_62, hc112_64, rfl⟩))
        refine own_go (B := Tj78.setTop (mkF m 79 #[.val (.ref zs), .val (.ref zq), .val (.int zx), .val (.int va), .val (.int vb), .val (.int v1), .val (.int v2), .val (.int vm)] [(.ref zq)])) (fun t k => XS.aloadN Xj78.here hx rfl (Jvm.hb hby d5_78) rfl rfl k) ?_
        refine own_go (B := Tj78.setTop (mkF m 80 #[.val (.ref zs), .val (.ref zq), .val (.int zx), .val (.int va), .val (.int vb), .val (.int v1), .val (.int v2), .val (.int vm)] [(.int (1 : Int32)), (.ref zq)])) (fun t k => XS.iconst Xj78.here hx rfl (Jvm.hb hby d5_79) k) ?_
        refine own_go (B := Tj78.setTop (mkF m 81 #[.val (.ref zs), .val (.ref zq), .val (.int zx), .val (.int va), .val (.int vb), .val (.int v1), .val (.int v2), .val (.int vm)] [(.int (zg1 1))])) (fun t k => own_iaload Xj78 hx hZ ej78 V_zq (j := (1 : Int32)) (k := 1) (by decide) (by decide) (by decide) (Jvm.hb hby d5_80) t k) ?_
        refine own_go (B := Tj78.setTop (mkF m 83 #[.val (.ref zs), .val (.ref zq), .val (.int zx), .val (.int va), .val (.int vb), .val (.int v1), .val (.int v2), .val (.int vm)] [(.int v1), (.int (zg1 1))])) (fun t k => XS.iload Xj78.here hx rfl (Jvm.hb hby d5_81) rfl k) ?_
        by_cases hc83_66 : (zg1 1) = v1
        · refine own_go (B := Tj78.setTop (mkF m 94 #[.val (.ref zs), .val (.ref zq), .val (.int zx), .val (.int va), .val (.int vb), .val (.int v1), .val (.int v2), .val (.int vm)] [])) (fun t k => XS.icmpYes Xj78.here hx rfl (pc0 := 83) (pc' := 94) rfl (Jvm.hb hby d5_83) rfl (teq hc83_66).1 (by decide) (by decide) k) ?_
          refine own_go (B := Tj78.setTop (mkF m 95 #[.val (.ref zs), .val (.ref zq), .val (.int zx), .val (.int va), .val (.int vb), .val (.int v1), .val (.int v2), .val (.int vm)] [(.ref zq)])) (fun t k => XS.aloadN Xj78.here hx rfl (Jvm.hb hby d5_94) rfl rfl k) ?_
          refine own_go (B := Tj78.setTop (mkF m 96 #[.val (.ref zs), .val (.ref zq), .val (.int zx), .val (.int va), .val (.int vb), .val (.int v1), .val (.int v2), .val (.int vm)] [(.int (1 : Int32)), (.ref zq)])) (fun t k => XS.iconst Xj78.here hx rfl (Jvm.hb hby d5_95) k) ?_
          refine own_go (B := Tj78.setTop (mkF m 98 #[.val (.ref zs), .val (.ref zq), .val (.int zx), .val (.int va), .val (.int vb), .val (.int v1), .val (.int v2), .val (.int vm)] [(.int vm), (.int (1 : Int32)), (.ref zq)])) (fun t k => XS.iload Xj78.here hx rfl (Jvm.hb hby d5_96) rfl k) ?_
          obtain ⟨T67, h67, X67, e67, W67, V67, st67⟩ := own_iastore Xj78 hx hZ ej78 V_zq (j := (1 : Int32)) (k := 1) (by decide) (by decide) (by decide) (g := (mkF m 98 #[.val (.ref zs), .val (.ref zq), .val (.int zx), .val (.int va), .val (.int vb), .val (.int v1), .val (.int v2), .val (.int vm)] [(.int vm), (.int (1 : Int32)), (.ref zq)])) rfl rfl (Jvm.hb hby d5_98)
          have N67 := Fr.snoc X67 Nj78 g_zq
          have E_zs := E_zs.wr W67
          have F_zs_parent := F_zs_parent.other W67 (Or.inl ne_zs_zq)
          have F_zs_ranks := F_zs_ranks.other W67 (Or.inl ne_zs_zq)
          have F_zs_size := F_zs_size.other W67 (Or.inl ne_zs_zq)
          have F_zs_unions := F_zs_unions.other W67 (Or.inl ne_zs_zq)
          have V_zp := V_zp.other W67 ne_zp_zq
          have V_zk := V_zk.other W67 ne_zk_zq
          have K := K.wr W67 (Or.inl (List.mem_of_getElem? (i := 2) rfl))
          have Zs := Nat.le_trans Zs (Keep.of_wr W67).1
          have V_zq := V67
          refine own_go (B := T67.setTop (mkF m 99 #[.val (.ref zs), .val (.ref zq), .val (.int zx), .val (.int va), .val (.int vb), .val (.int v1), .val (.int v2), .val (.int vm)] [])) (fun t k => st67 _ k) ?_
          exact J99 h67 T67 _ X67 e67 N67 Zs K (own_upd zg1 1 vm) V_zq E_zs F_zs_parent F_zs_ranks F_zs_size F_zs_unions V_zp V_zk (own_sj2 hg1 (Or.inl ⟨Or.inl hc83_66, rfl⟩))
        · refine own_go (B := Tj78.setTop (mkF m 86 #[.val (.ref zs), .val (.ref zq), .val (.int zx), .val (.int va), .val (.int vb), .val (.int v1), .val (.int v2), .val (.int vm)] [])) (fun t k => XS.icmpNo Xj78.here hx rfl (Jvm.hb hby d5_83) rfl (feq hc83_66).1 k) ?_
          refine own_go (B := Tj78.setTop (mkF m 87 #[.val (.ref zs), .val (.ref zq), .val (.int zx), .val (.int va), .val (.int vb), .val (.int v1), .val (.int v2), .val (.int vm)] [(.ref zq)])) (fun t k => XS.aloadN Xj78.here hx rfl (Jvm.hb hby d5_86) rfl rfl k) ?_
          refine own_go (B := Tj78.setTop (mkF m 88 #[.val (.ref zs), .val (.ref zq), .val (.int zx), .val (.int va), .val (.int vb), .val (.int v1), .val (.int v2), .val (.int vm)] [(.int (1 : Int32)), (.ref zq)])) (fun t k => XS.iconst Xj78.here hx rfl (Jvm.hb hby d5_87) k) ?_
          refine own_go (B := Tj78.setTop (mkF m 89 #[.val (.ref zs), .val (.ref zq), .val (.int zx), .val (.int va), .val (.int vb), .val (.int v1), .val (.int v2), .val (.int vm)] [(.int (zg1 1))])) (fun t k => own_iaload Xj78 hx hZ ej78 V_zq (j := (1 : Int32)) (k := 1) (by decide) (by decide) (by decide) (Jvm.hb hby d5_88) t k) ?_
          refine own_go (B := Tj78.setTop (mkF m 91 #[.val (.ref zs), .val (.ref zq), .val (.int zx), .val (.int va), .val (.int vb), .val (.int v1), .val (.int v2), .val (.int vm)] [(.int v2), (.int (zg1 1))])) (fun t k => XS.iload Xj78.here hx rfl (Jvm.hb hby d5_89) rfl k) ?_
          by_cases hc91_68 : (zg1 1) = v2
          · refine own_go (B := Tj78.setTop (mkF m 94 #[.val (.ref zs), .val (.ref zq), .val (.int zx), .val (.int va), .val (.int vb), .val (.int v1), .val (.int v2), .val (.int vm)] [])) (fun t k => XS.icmpNo Xj78.here hx rfl (Jvm.hb hby d5_91) rfl (teq hc91_68).2 k) ?_
            refine own_go (B := Tj78.setTop (mkF m 95 #[.val (.ref zs), .val (.ref zq), .val (.int zx), .val (.int va), .val (.int vb), .val (.int v1), .val (.int v2), .val (.int vm)] [(.ref zq)])) (fun t k => XS.aloadN Xj78.here hx rfl (Jvm.hb hby d5_94) rfl rfl k) ?_
            refine own_go (B := Tj78.setTop (mkF m 96 #[.val (.ref zs), .val (.ref zq), .val (.int zx), .val (.int va), .val (.int vb), .val (.int v1), .val (.int v2), .val (.int vm)] [(.int (1 : Int32)), (.ref zq)])) (fun t k => XS.iconst Xj78.here hx rfl (Jvm.hb hby d5_95) k) ?_
            refine own_go (B := Tj78.setTop (mkF m 98 #[.val (.ref zs), .val (.ref zq), .val (.int zx), .val (.int va), .val (.int vb), .val (.int v1), .val (.int v2), .val (.int vm)] [(.int vm), (.int (1 : Int32)), (.ref zq)])) (fun t k => XS.iload Xj78.here hx rfl (Jvm.hb hby d5_96) rfl k) ?_
            obtain ⟨T69, h69, X69, e69, W69, V69, st69⟩ := own_iastore Xj78 hx hZ ej78 V_zq (j := (1 : Int32)) (k := 1) (by decide) (by decide) (by decide) (g := (mkF m 98 #[.val (.ref zs), .val (.ref zq), .val (.int zx), .val (.int va), .val (.int vb), .val (.int v1), .val (.int v2), .val (.int vm)] [(.int vm), (.int (1 : Int32)), (.ref zq)])) rfl rfl (Jvm.hb hby d5_98)
            have N69 := Fr.snoc X69 Nj78 g_zq
            have E_zs := E_zs.wr W69
            have F_zs_parent := F_zs_parent.other W69 (Or.inl ne_zs_zq)
            have F_zs_ranks := F_zs_ranks.other W69 (Or.inl ne_zs_zq)
            have F_zs_size := F_zs_size.other W69 (Or.inl ne_zs_zq)
            have F_zs_unions := F_zs_unions.other W69 (Or.inl ne_zs_zq)
            have V_zp := V_zp.other W69 ne_zp_zq
            have V_zk := V_zk.other W69 ne_zk_zq
            have K := K.wr W69 (Or.inl (List.mem_of_getElem? (i := 2) rfl))
            have Zs := Nat.le_trans Zs (Keep.of_wr W69).1
            have V_zq := V69
            refine own_go (B := T69.setTop (mkF m 99 #[.val (.ref zs), .val (.ref zq), .val (.int zx), .val (.int va), .val (.int vb), .val (.int v1), .val (.int v2), .val (.int vm)] [])) (fun t k => st69 _ k) ?_
            exact J99 h69 T69 _ X69 e69 N69 Zs K (own_upd zg1 1 vm) V_zq E_zs F_zs_parent F_zs_ranks F_zs_size F_zs_unions V_zp V_zk (own_sj2 hg1 (Or.inl ⟨Or.inr hc91_68, rfl⟩))
          · refine own_go (B := Tj78.setTop (mkF m 99 #[.val (.ref zs), .val (.ref zq), .val (.int zx), .val (.int va), .val (.int vb), .val (.int v1), .val (.int v2), .val (.int vm)] [])) (fun t k => XS.icmpYes Xj78.here hx rfl (pc0 := 91) (pc' := 99) rfl (Jvm.hb hby d5_91) rfl (feq hc91_68).2 (by decide) (by decide) k) ?_
            exact J99 hj78 Tj78 _ Xj78 ej78 Nj78 Zs K zg1 V_zq E_zs F_zs_parent F_zs_ranks F_zs_size F_zs_unions V_zp V_zk (own_sj2 hg1 (Or.inr ⟨hc83_66, hc91_68, rfl⟩))
      refine own_go (B := Tj57.setTop (mkF m 58 #[.val (.ref zs), .val (.ref zq), .val (.int zx), .val (.int va), .val (.int vb), .val (.int v1), .val (.int v2), .val (.int vm)] [(.ref zq)])) (fun t k => XS.aloadN Xj57.here hx rfl (Jvm.hb hby d5_57) rfl rfl k) ?_
      refine own_go (B := Tj57.setTop (mkF m 59 #[.val (.ref zs), .val (.ref zq), .val (.int zx), .val (.int va), .val (.int vb), .val (.int v1), .val (.int v2), .val (.int vm)] [(.int (0 : Int32)), (.ref zq)])) (fun t k => XS.iconst Xj57.here hx rfl (Jvm.hb hby d5_58) k) ?_
      refine own_go (B := Tj57.setTop (mkF m 60 #[.val (.ref zs), .val (.ref zq), .val (.int zx), .val (.int va), .val (.int vb), .val (.int v1), .val (.int v2), .val (.int vm)] [(.int (zq0 0))])) (fun t k => own_iaload Xj57 hx hZ ej57 V_zq (j := (0 : Int32)) (k := 0) (by decide) (by decide) (by decide) (Jvm.hb hby d5_59) t k) ?_
      refine own_go (B := Tj57.setTop (mkF m 62 #[.val (.ref zs), .val (.ref zq), .val (.int zx), .val (.int va), .val (.int vb), .val (.int v1), .val (.int v2), .val (.int vm)] [(.int v1), (.int (zq0 0))])) (fun t k => XS.iload Xj57.here hx rfl (Jvm.hb hby d5_60) rfl k) ?_
      by_cases hc62_70 : (zq0 0) = v1
      · refine own_go (B := Tj57.setTop (mkF m 73 #[.val (.ref zs), .val (.ref zq), .val (.int zx), .val (.int va), .val (.int vb), .val (.int v1), .val (.int v2), .val (.int vm)] [])) (fun t k => XS.icmpYes Xj57.here hx rfl (pc0 := 62) (pc' := 73) rfl (Jvm.hb hby d5_62) rfl (teq hc62_70).1 (by decide) (by decide) k) ?_
        refine own_go (B := Tj57.setTop (mkF m 74 #[.val (.ref zs), .val (.ref zq), .val (.int zx), .val (.int va), .val (.int vb), .val (.int v1), .val (.int v2), .val (.int vm)] [(.ref zq)])) (fun t k => XS.aloadN Xj57.here hx rfl (Jvm.hb hby d5_73) rfl rfl k) ?_
        refine own_go (B := Tj57.setTop (mkF m 75 #[.val (.ref zs), .val (.ref zq), .val (.int zx), .val (.int va), .val (.int vb), .val (.int v1), .val (.int v2), .val (.int vm)] [(.int (0 : Int32)), (.ref zq)])) (fun t k => XS.iconst Xj57.here hx rfl (Jvm.hb hby d5_74) k) ?_
        refine own_go (B := Tj57.setTop (mkF m 77 #[.val (.ref zs), .val (.ref zq), .val (.int zx), .val (.int va), .val (.int vb), .val (.int v1), .val (.int v2), .val (.int vm)] [(.int vm), (.int (0 : Int32)), (.ref zq)])) (fun t k => XS.iload Xj57.here hx rfl (Jvm.hb hby d5_75) rfl k) ?_
        obtain ⟨T71, h71, X71, e71, W71, V71, st71⟩ := own_iastore Xj57 hx hZ ej57 V_zq (j := (0 : Int32)) (k := 0) (by decide) (by decide) (by decide) (g := (mkF m 77 #[.val (.ref zs), .val (.ref zq), .val (.int zx), .val (.int va), .val (.int vb), .val (.int v1), .val (.int v2), .val (.int vm)] [(.int vm), (.int (0 : Int32)), (.ref zq)])) rfl rfl (Jvm.hb hby d5_77)
        have N71 := Fr.snoc X71 Nj57 g_zq
        have E_zs := E_zs.wr W71
        have F_zs_parent := F_zs_parent.other W71 (Or.inl ne_zs_zq)
        have F_zs_ranks := F_zs_ranks.other W71 (Or.inl ne_zs_zq)
        have F_zs_size := F_zs_size.other W71 (Or.inl ne_zs_zq)
        have F_zs_unions := F_zs_unions.other W71 (Or.inl ne_zs_zq)
        have V_zp := V_zp.other W71 ne_zp_zq
        have V_zk := V_zk.other W71 ne_zk_zq
        have K := K.wr W71 (Or.inl (List.mem_of_getElem? (i := 2) rfl))
        have Zs := Nat.le_trans Zs (Keep.of_wr W71).1
        have V_zq := V71
        refine own_go (B := T71.setTop (mkF m 78 #[.val (.ref zs), .val (.ref zq), .val (.int zx), .val (.int va), .val (.int vb), .val (.int v1), .val (.int v2), .val (.int vm)] [])) (fun t k => st71 _ k) ?_
        exact J78 h71 T71 _ X71 e71 N71 Zs K (own_upd zq0 0 vm) V_zq E_zs F_zs_parent F_zs_ranks F_zs_size F_zs_unions V_zp V_zk (own_sj1 hg0 (Or.inl ⟨Or.inl hc62_70, rfl⟩))
      · refine own_go (B := Tj57.setTop (mkF m 65 #[.val (.ref zs), .val (.ref zq), .val (.int zx), .val (.int va), .val (.int vb), .val (.int v1), .val (.int v2), .val (.int vm)] [])) (fun t k => XS.icmpNo Xj57.here hx rfl (Jvm.hb hby d5_62) rfl (feq hc62_70).1 k) ?_
        refine own_go (B := Tj57.setTop (mkF m 66 #[.val (.ref zs), .val (.ref zq), .val (.int zx), .val (.int va), .val (.int vb), .val (.int v1), .val (.int v2), .val (.int vm)] [(.ref zq)])) (fun t k => XS.aloadN Xj57.here hx rfl (Jvm.hb hby d5_65) rfl rfl k) ?_
        refine own_go (B := Tj57.setTop (mkF m 67 #[.val (.ref zs), .val (.ref zq), .val (.int zx), .val (.int va), .val (.int vb), .val (.int v1), .val (.int v2), .val (.int vm)] [(.int (0 : Int32)), (.ref zq)])) (fun t k => XS.iconst Xj57.here hx rfl (Jvm.hb hby d5_66) k) ?_
        refine own_go (B := Tj57.setTop (mkF m 68 #[.val (.ref zs), .val (.ref zq), .val (.int zx), .val (.int va), .val (.int vb), .val (.int v1), .val (.int v2), .val (.int vm)] [(.int (zq0 0))])) (fun t k => own_iaload Xj57 hx hZ ej57 V_zq (j := (0 : Int32)) (k := 0) (by decide) (by decide) (by decide) (Jvm.hb hby d5_67) t k) ?_
        refine own_go (B := Tj57.setTop (mkF m 70 #[.val (.ref zs), .val (.ref zq), .val (.int zx), .val (.int va), .val (.int vb), .val (.int v1), .val (.int v2), .val (.int vm)] [(.int v2), (.int (zq0 0))])) (fun t k => XS.iload Xj57.here hx rfl (Jvm.hb hby d5_68) rfl k) ?_
        by_cases hc70_72 : (zq0 0) = v2
        · refine own_go (B := Tj57.setTop (mkF m 73 #[.val (.ref zs), .val (.ref zq), .val (.int zx), .val (.int va), .val (.int vb), .val (.int v1), .val (.int v2), .val (.int vm)] [])) (fun t k => XS.icmpNo Xj57.here hx rfl (Jvm.hb hby d5_70) rfl (teq hc70_72).2 k) ?_
          refine own_go (B := Tj57.setTop (mkF m 74 #[.val (.ref zs), .val (.ref zq), .val (.int zx), .val (.int va), .val (.int vb), .val (.int v1), .val (.int v2), .val (.int vm)] [(.ref zq)])) (fun t k => XS.aloadN Xj57.here hx rfl (Jvm.hb hby d5_73) rfl rfl k) ?_
          refine own_go (B := Tj57.setTop (mkF m 75 #[.val (.ref zs), .val (.ref zq), .val (.int zx), .val (.int va), .val (.int vb), .val (.int v1), .val (.int v2), .val (.int vm)] [(.int (0 : Int32)), (.ref zq)])) (fun t k => XS.iconst Xj57.here hx rfl (Jvm.hb hby d5_74) k) ?_
          refine own_go (B := Tj57.setTop (mkF m 77 #[.val (.ref zs), .val (.ref zq), .val (.int zx), .val (.int va), .val (.int vb), .val (.int v1), .val (.int v2), .val (.int vm)] [(.int vm), (.int (0 : Int32)), (.ref zq)])) (fun t k => XS.iload Xj57.here hx rfl (Jvm.hb hby d5_75) rfl k) ?_
          obtain ⟨T73, h73, X73, e73, W73, V73, st73⟩ := own_iastore Xj57 hx hZ ej57 V_zq (j := (0 : Int32)) (k := 0) (by decide) (by decide) (by decide) (g := (mkF m 77 #[.val (.ref zs), .val (.ref zq), .val (.int zx), .val (.int va), .val (.int vb), .val (.int v1), .val (.int v2), .val (.int vm)] [(.int vm), (.int (0 : Int32)), (.ref zq)])) rfl rfl (Jvm.hb hby d5_77)
          have N73 := Fr.snoc X73 Nj57 g_zq
          have E_zs := E_zs.wr W73
          have F_zs_parent := F_zs_parent.other W73 (Or.inl ne_zs_zq)
          have F_zs_ranks := F_zs_ranks.other W73 (Or.inl ne_zs_zq)
          have F_zs_size := F_zs_size.other W73 (Or.inl ne_zs_zq)
          have F_zs_unions := F_zs_unions.other W73 (Or.inl ne_zs_zq)
          have V_zp := V_zp.other W73 ne_zp_zq
          have V_zk := V_zk.other W73 ne_zk_zq
          have K := K.wr W73 (Or.inl (List.mem_of_getElem? (i := 2) rfl))
          have Zs := Nat.le_trans Zs (Keep.of_wr W73).1
          have V_zq := V73
          refine own_go (B := T73.setTop (mkF m 78 #[.val (.ref zs), .val (.ref zq), .val (.int zx), .val (.int va), .val (.int vb), .val (.int v1), .val (.int v2), .val (.int vm)] [])) (fun t k => st73 _ k) ?_
          exact J78 h73 T73 _ X73 e73 N73 Zs K (own_upd zq0 0 vm) V_zq E_zs F_zs_parent F_zs_ranks F_zs_size F_zs_unions V_zp V_zk (own_sj1 hg0 (Or.inl ⟨Or.inr hc70_72, rfl⟩))
        · refine own_go (B := Tj57.setTop (mkF m 78 #[.val (.ref zs), .val (.ref zq), .val (.int zx), .val (.int va), .val (.int vb), .val (.int v1), .val (.int v2), .val (.int vm)] [])) (fun t k => XS.icmpYes Xj57.here hx rfl (pc0 := 70) (pc' := 78) rfl (Jvm.hb hby d5_70) rfl (feq hc70_72).2 (by decide) (by decide) k) ?_
          exact J78 T57.heap Tj57 _ Xj57 ej57 Nj57 Zs K zq0 V_zq E_zs F_zs_parent F_zs_ranks F_zs_size F_zs_unions V_zp V_zk (own_sj1 hg0 (Or.inr ⟨hc62_70, hc70_72, rfl⟩))
    refine own_go (B := T57.setTop (mkF m 43 #[.val (.ref zs), .val (.ref zq), .val (.int zx), .val (.int va), .val (.int vb), .val (.int v1), .val (.int v2), .val (.int vm)] [(.int vm)])) (fun t k => XS.iload X57.here hx rfl (Jvm.hb hby d5_41) rfl k) ?_
    refine own_go (B := T57.setTop (mkF m 45 #[.val (.ref zs), .val (.ref zq), .val (.int zx), .val (.int va), .val (.int vb), .val (.int v1), .val (.int v2), .val (.int vm)] [(.int v1), (.int vm)])) (fun t k => XS.iload X57.here hx rfl (Jvm.hb hby d5_43) rfl k) ?_
    by_cases hc45_74 : vm = v1
    · refine own_go (B := T57.setTop (mkF m 57 #[.val (.ref zs), .val (.ref zq), .val (.int zx), .val (.int va), .val (.int vb), .val (.int v1), .val (.int v2), .val (.int vm)] [])) (fun t k => XS.icmpYes X57.here hx rfl (pc0 := 45) (pc' := 57) rfl (Jvm.hb hby d5_45) rfl (teq hc45_74).1 (by decide) (by decide) k) ?_
      exact J57 T57 _ X57 rfl N57 
    · refine own_go (B := T57.setTop (mkF m 48 #[.val (.ref zs), .val (.ref zq), .val (.int zx), .val (.int va), .val (.int vb), .val (.int v1), .val (.int v2), .val (.int vm)] [])) (fun t k => XS.icmpNo X57.here hx rfl (Jvm.hb hby d5_45) rfl (feq hc45_74).1 k) ?_
      refine own_go (B := T57.setTop (mkF m 50 #[.val (.ref zs), .val (.ref zq), .val (.int zx), .val (.int va), .val (.int vb), .val (.int v1), .val (.int v2), .val (.int vm)] [(.int vm)])) (fun t k => XS.iload X57.here hx rfl (Jvm.hb hby d5_48) rfl k) ?_
      refine own_go (B := T57.setTop (mkF m 52 #[.val (.ref zs), .val (.ref zq), .val (.int zx), .val (.int va), .val (.int vb), .val (.int v1), .val (.int v2), .val (.int vm)] [(.int v2), (.int vm)])) (fun t k => XS.iload X57.here hx rfl (Jvm.hb hby d5_50) rfl k) ?_
      refine own_go (B := T57.setTop (mkF m 57 #[.val (.ref zs), .val (.ref zq), .val (.int zx), .val (.int va), .val (.int vb), .val (.int v1), .val (.int v2), .val (.int vm)] [])) (fun t k => XS.icmpYes X57.here hx rfl (pc0 := 52) (pc' := 57) rfl (Jvm.hb hby d5_52) rfl (teq (Or.resolve_left hvm hc45_74)).1 (by decide) (by decide) k) ?_
      exact J57 T57 _ X57 rfl N57 
theorem pd_2 : parseMethodDescriptor "(I)V" = some ⟨[.int], none⟩ := by decide +kernel
theorem pd_3 : parseMethodDescriptor "(Lcom/example/term_unifier/termunifier/UnionFind;[II)Z" = some ⟨[(.object "com/example/term_unifier/termunifier/UnionFind"), (.array .int), .int], some .boolean⟩ := by decide +kernel
theorem pd_4 : parseMethodDescriptor "(I)I" = some ⟨[.int], some .int⟩ := by decide +kernel
theorem ef_0 (m : MethodId) (x0 : Int32) (x1 : Int32) (x2 : Int32) (x3 : Int32) : entryFrame m #[(.int x0), (.int x1), (.int x2), (.int x3)] maxLocals = mkF m 0 #[.val (.int x0), .val (.int x1), .val (.int x2), .val (.int x3), .unset, .unset, .unset, .unset, .unset, .unset, .unset, .unset, .unset, .unset, .unset] [] := by first | (simp [entryFrame, mkF, argsToLocals, Value.category, maxLocals]; done) | rfl
def own_Q0 (Z : State) (p1 : Int32) (p2 : Int32) (p3 : Int32) (p4 : Int32) (h0 : Heap) (n0 : Nat) (v : Option Value) (h : Heap) (L : List Loc) : Prop := v = some (.int 1) ∧ Fr n0 L
set_option maxRecDepth 65536 in
set_option maxHeartbeats 40000000 in
theorem rm0 (l : Launch) (Z : State) (a0 : Array Value) (hw : ∀ d ∈ tables_1, d.before a0 Z = true) (ws : List Jvm.Cond) (p1 : Int32) (p2 : Int32) (p3 : Int32) (p4 : Int32) (h0 : Heap) (n0 : Nat) (Z0 : n0 ≤ h0.size)  :
    MetFree l x (head1 (Jvm.Cond.code x code maxLocals ret :: ws) room_1) (fun a U => a = #[(.int p1), (.int p2), (.int p3), (.int p4)] ∧ Z.Warmed39 U.vm ∧ U.heap = h0) (fun _ _ _ _ _ => True) (fun _ U o U' => ∃ v L, o = .returned v ∧ own_Q0 Z p1 p2 p3 p4 h0 n0 v U'.heap L ∧ FrameEnd U o U' L room_1.cells room_1.slots) := by
  refine MetFree.of_bodySF (plainFor_of_name pn_com_example_term_unifier_termunifier_UnionFindFindPinLaw) hisR ?_
  intro p e s m args below meth c s₁ Bd hml0 hP hK
  obtain ⟨rfl, hZ, hh⟩ := hP
  have hx := Bd.exec
  have hby := Bd.bytes
  have hml : c.maxLocals = 15 := hml0
  have hown : s.vm.findClass "com/example/term_unifier/termunifier/UnionFindFindPinLaw" = some m.cls := findClass_of_methodNamed Bd.named
  have hnm := (name_of_methodNamed Bd.named Bd.method).1
  have X0 : Stand p l e room_1 s m #[(.int p1), (.int p2), (.int p3), (.int p4)] below meth c s₁ [] 0 0 := Stand.of_body Bd
  have e0 : s₁.heap = h0 := by rw [← hh, Bd.state]; rfl
  have N0 := Fr.nil n0
  have Zs := Z0
  show own_Goes p e below s (own_Q0 Z p1 p2 p3 p4 h0 n0) room_1.cells room_1.slots _
  refine own_go (B := s₁.setTop (mkF m 0 #[.val (.int p1), .val (.int p2), .val (.int p3), .val (.int p4), .unset, .unset, .unset, .unset, .unset, .unset, .unset, .unset, .unset, .unset, .unset] [])) (fun t k => castTop (ef_0 m p1 p2 p3 p4) k) ?_
  obtain ⟨T75, h75, X75, e75, E75, A75, D75, -, st75⟩ := newO X0 hx hZ hown (own_w hw 0 rfl) (own_w hw 1 rfl) (own_w hw 2 rfl) e0 (g := (mkF m 0 #[.val (.int p1), .val (.int p2), .val (.int p3), .val (.int p4), .unset, .unset, .unset, .unset, .unset, .unset, .unset, .unset, .unset, .unset, .unset] [])) rfl (Jvm.hb hby at_0) (by decide) (by decide)
  obtain ⟨b75, g75⟩ : ∃ z, z = h0.size := ⟨_, rfl⟩
  rw [← g75] at A75 D75 st75
  have g_b75 : n0 ≤ b75 := Nat.le_trans Zs (Nat.le_of_eq g75.symm)
  have Zs := Nat.le_trans Zs E75.1
  have E_b75 := A75
  have F_b75_parent : Fld Z h75 b75 "com/example/term_unifier/termunifier/UnionFind" "parent" "[I" .null := D75 (Or.inl (own_w hw 18 rfl)) (ty := (.array .int)) (by decide)
  have F_b75_ranks : Fld Z h75 b75 "com/example/term_unifier/termunifier/UnionFind" "ranks" "[B" .null := D75 (Or.inl (own_w hw 21 rfl)) (ty := (.array .byte)) (by decide)
  have F_b75_size : Fld Z h75 b75 "com/example/term_unifier/termunifier/UnionFind" "size" "I" (.int (0 : Int32)) := D75 (Or.inl (own_w hw 23 rfl)) (ty := .int) (by decide)
  have F_b75_unions : Fld Z h75 b75 "com/example/term_unifier/termunifier/UnionFind" "unions" "Lcom/example/term_unifier/termunifier/IntStack;" .null := D75 (Or.inr (own_w hw 25 rfl)) (ty := (.object "com/example/term_unifier/termunifier/IntStack")) (by decide)
  refine own_go (B := T75.setTop (mkF m 3 #[.val (.int p1), .val (.int p2), .val (.int p3), .val (.int p4), .unset, .unset, .unset, .unset, .unset, .unset, .unset, .unset, .unset, .unset, .unset] [(.ref b75)])) (fun t k => st75 _ k) ?_
  refine own_go (B := T75.setTop (mkF m 4 #[.val (.int p1), .val (.int p2), .val (.int p3), .val (.int p4), .unset, .unset, .unset, .unset, .unset, .unset, .unset, .unset, .unset, .unset, .unset] [(.ref b75), (.ref b75)])) (fun t k => XS.dup X75.here hx rfl (Jvm.hb hby at_3) rfl rfl k) ?_
  refine own_go (B := T75.setTop (mkF m 5 #[.val (.int p1), .val (.int p2), .val (.int p3), .val (.int p4), .unset, .unset, .unset, .unset, .unset, .unset, .unset, .unset, .unset, .unset, .unset] [(.int (4 : Int32)), (.ref b75), (.ref b75)])) (fun t k => XS.iconst X75.here hx rfl (Jvm.hb hby at_4) k) ?_
  obtain ⟨_, _, ⟨T76, La76, ka76, na76⟩, -, X76, ⟨Lc76, hQ76, l76, y76, z76⟩, st76⟩ := X75.specialBack hx (y := (⟨"com/example/term_unifier/termunifier/UnionFind", "<init>", "(I)V"⟩ : MethodName)) rfl hown (mvT hZ (own_w hw 3 rfl)) (mvT hZ (own_w hw 4 rfl)) (mvT hZ (own_w hw 5 rfl)) (by decide) (backOf (W := 1) (rm1 l Z a0 hw [] b75 h75 n0 Zs E_b75 F_b75_parent F_b75_ranks F_b75_size F_b75_unions g_b75) hZ (own_w hw 5 rfl) (own_w hw 2 rfl) (by decide) (by decide)) (g := (mkF m 5 #[.val (.int p1), .val (.int p2), .val (.int p3), .val (.int p4), .unset, .unset, .unset, .unset, .unset, .unset, .unset, .unset, .unset, .unset, .unset] [(.int (4 : Int32)), (.ref b75), (.ref b75)])) rfl (by rw [hml]; rfl) (Steps.refl _) (a := b75) (argsL := [(.int (4 : Int32))]) (rest := [(.ref b75)]) (lenOf pd_2 rfl) rfl (by show 2 * 0 + _ ≤ _; exact Nat.le_of_eq rfl) (Jvm.hb hby at_5) (fun _ _ => ⟨rfl, e75, (by decide : 1 + 2 ≤ _), (by decide : 4 + 32 ≤ _)⟩)
  dsimp only [Pt.U, Pt.locs, Pt.cells, Pt.slots] at X76 l76 y76 z76 st76 hQ76
  subst l76 y76 z76
  obtain ⟨rfl, N76q, b77, sq_b77, b78, sq_b78, ne_b77_b78, Kc76, E_b75_q, F_b75_parent_q, F_b75_ranks_q, F_b75_size_q, F_b75_unions_q, V_b77_q, V_b78_q⟩ := hQ76
  have g_b77 : n0 ≤ b77 := Nat.le_trans Zs sq_b77
  have ne_b75_b77 : b75 ≠ b77 := Nat.ne_of_lt (Nat.lt_of_lt_of_le E_b75.lt sq_b77)
  have g_b78 : n0 ≤ b78 := Nat.le_trans Zs sq_b78
  have ne_b75_b78 : b75 ≠ b78 := Nat.ne_of_lt (Nat.lt_of_lt_of_le E_b75.lt sq_b78)
  have N76 := Fr.app N0 N76q
  have Zs := Nat.le_trans Zs Kc76.1
  have E_b75 := E_b75_q
  have F_b75_parent := F_b75_parent_q
  have F_b75_ranks := F_b75_ranks_q
  have F_b75_size := F_b75_size_q
  have F_b75_unions := F_b75_unions_q
  have V_b77 := V_b77_q
  have V_b78 := V_b78_q
  refine own_go (B := T76.setTop (mkF m 8 #[.val (.int p1), .val (.int p2), .val (.int p3), .val (.int p4), .unset, .unset, .unset, .unset, .unset, .unset, .unset, .unset, .unset, .unset, .unset] [(.ref b75)])) (fun t k => own_st st76 k) ?_
  refine own_go (B := T76.setTop (mkF m 10 #[.val (.int p1), .val (.int p2), .val (.int p3), .val (.int p4), .val (.ref b75), .unset, .unset, .unset, .unset, .unset, .unset, .unset, .unset, .unset, .unset] [])) (fun t k => XS.astore X76.here hx rfl (Jvm.hb hby at_8) rfl rfl (l' := #[.val (.int p1), .val (.int p2), .val (.int p3), .val (.int p4), .val (.ref b75), .unset, .unset, .unset, .unset, .unset, .unset, .unset, .unset, .unset, .unset]) rfl k) ?_
  refine own_go (B := T76.setTop (mkF m 11 #[.val (.int p1), .val (.int p2), .val (.int p3), .val (.int p4), .val (.ref b75), .unset, .unset, .unset, .unset, .unset, .unset, .unset, .unset, .unset, .unset] [(.int (4 : Int32))])) (fun t k => XS.iconst X76.here hx rfl (Jvm.hb hby at_10) k) ?_
  obtain ⟨T79, h79, k79, X79, e79, E79, A79, st79⟩ := newP X76 hx hZ (own_w hw 16 rfl) rfl (g := (mkF m 11 #[.val (.int p1), .val (.int p2), .val (.int p3), .val (.int p4), .val (.ref b75), .unset, .unset, .unset, .unset, .unset, .unset, .unset, .unset, .unset, .unset] [(.int (4 : Int32))])) rfl (Jvm.hb hby at_11) rfl (by decide) (cap := 4) (by decide) (by decide) (by decide) (by decide)
  obtain ⟨b79, g79⟩ : ∃ z, z = T76.heap.size := ⟨_, rfl⟩
  rw [← g79] at A79 st79
  have ne_b75_b79 : b75 ≠ b79 := Nat.ne_of_lt (Nat.lt_of_lt_of_le E_b75.lt (Nat.le_of_eq g79.symm))
  have ne_b77_b79 : b77 ≠ b79 := Nat.ne_of_lt (Nat.lt_of_lt_of_le V_b77.lt (Nat.le_of_eq g79.symm))
  have ne_b78_b79 : b78 ≠ b79 := Nat.ne_of_lt (Nat.lt_of_lt_of_le V_b78.lt (Nat.le_of_eq g79.symm))
  have g_b79 : n0 ≤ b79 := Nat.le_trans Zs (Nat.le_of_eq g79.symm)
  have E_b75 := E_b75.ext E79
  have F_b75_parent := F_b75_parent.ext E79
  have F_b75_ranks := F_b75_ranks.ext E79
  have F_b75_size := F_b75_size.ext E79
  have F_b75_unions := F_b75_unions.ext E79
  have V_b77 := V_b77.ext E79
  have V_b78 := V_b78.ext E79
  have Zs := Nat.le_trans Zs E79.1
  have V_b79 : own_IA Z h79 b79 .int 4 (fun _ => 0) := own_Inew A79 (by decide) rfl
  refine own_go (B := T79.setTop (mkF m 13 #[.val (.int p1), .val (.int p2), .val (.int p3), .val (.int p4), .val (.ref b75), .unset, .unset, .unset, .unset, .unset, .unset, .unset, .unset, .unset, .unset] [(.ref b79)])) (fun t k => st79 _ k) ?_
  refine own_go (B := T79.setTop (mkF m 14 #[.val (.int p1), .val (.int p2), .val (.int p3), .val (.int p4), .val (.ref b75), .unset, .unset, .unset, .unset, .unset, .unset, .unset, .unset, .unset, .unset] [(.ref b79), (.ref b79)])) (fun t k => XS.dup X79.here hx rfl (Jvm.hb hby at_13) rfl rfl k) ?_
  refine own_go (B := T79.setTop (mkF m 15 #[.val (.int p1), .val (.int p2), .val (.int p3), .val (.int p4), .val (.ref b75), .unset, .unset, .unset, .unset, .unset, .unset, .unset, .unset, .unset, .unset] [(.int (0 : Int32)), (.ref b79), (.ref b79)])) (fun t k => XS.iconst X79.here hx rfl (Jvm.hb hby at_14) k) ?_
  refine own_go (B := T79.setTop (mkF m 16 #[.val (.int p1), .val (.int p2), .val (.int p3), .val (.int p4), .val (.ref b75), .unset, .unset, .unset, .unset, .unset, .unset, .unset, .unset, .unset, .unset] [(.int (0 : Int32)), (.int (0 : Int32)), (.ref b79), (.ref b79)])) (fun t k => XS.iconst X79.here hx rfl (Jvm.hb hby at_15) k) ?_
  obtain ⟨T80, h80, X80, e80, W80, V80, st80⟩ := own_iastore X79 hx hZ e79 V_b79 (j := (0 : Int32)) (k := 0) (by decide) (by decide) (by decide) (g := (mkF m 16 #[.val (.int p1), .val (.int p2), .val (.int p3), .val (.int p4), .val (.ref b75), .unset, .unset, .unset, .unset, .unset, .unset, .unset, .unset, .unset, .unset] [(.int (0 : Int32)), (.int (0 : Int32)), (.ref b79), (.ref b79)])) rfl rfl (Jvm.hb hby at_16)
  have N80 := Fr.snoc X80 N76 g_b79
  have E_b75 := E_b75.wr W80
  have F_b75_parent := F_b75_parent.other W80 (Or.inl ne_b75_b79)
  have F_b75_ranks := F_b75_ranks.other W80 (Or.inl ne_b75_b79)
  have F_b75_size := F_b75_size.other W80 (Or.inl ne_b75_b79)
  have F_b75_unions := F_b75_unions.other W80 (Or.inl ne_b75_b79)
  have V_b77 := V_b77.other W80 ne_b77_b79
  have V_b78 := V_b78.other W80 ne_b78_b79
  have Zs := Nat.le_trans Zs (Keep.of_wr W80).1
  have V_b79 := V80
  refine own_go (B := T80.setTop (mkF m 17 #[.val (.int p1), .val (.int p2), .val (.int p3), .val (.int p4), .val (.ref b75), .unset, .unset, .unset, .unset, .unset, .unset, .unset, .unset, .unset, .unset] [(.ref b79)])) (fun t k => st80 _ k) ?_
  refine own_go (B := T80.setTop (mkF m 18 #[.val (.int p1), .val (.int p2), .val (.int p3), .val (.int p4), .val (.ref b75), .unset, .unset, .unset, .unset, .unset, .unset, .unset, .unset, .unset, .unset] [(.ref b79), (.ref b79)])) (fun t k => XS.dup X80.here hx rfl (Jvm.hb hby at_17) rfl rfl k) ?_
  refine own_go (B := T80.setTop (mkF m 19 #[.val (.int p1), .val (.int p2), .val (.int p3), .val (.int p4), .val (.ref b75), .unset, .unset, .unset, .unset, .unset, .unset, .unset, .unset, .unset, .unset] [(.int (1 : Int32)), (.ref b79), (.ref b79)])) (fun t k => XS.iconst X80.here hx rfl (Jvm.hb hby at_18) k) ?_
  refine own_go (B := T80.setTop (mkF m 20 #[.val (.int p1), .val (.int p2), .val (.int p3), .val (.int p4), .val (.ref b75), .unset, .unset, .unset, .unset, .unset, .unset, .unset, .unset, .unset, .unset] [(.int (1 : Int32)), (.int (1 : Int32)), (.ref b79), (.ref b79)])) (fun t k => XS.iconst X80.here hx rfl (Jvm.hb hby at_19) k) ?_
  obtain ⟨T81, h81, X81, e81, W81, V81, st81⟩ := own_iastore X80 hx hZ e80 V_b79 (j := (1 : Int32)) (k := 1) (by decide) (by decide) (by decide) (g := (mkF m 20 #[.val (.int p1), .val (.int p2), .val (.int p3), .val (.int p4), .val (.ref b75), .unset, .unset, .unset, .unset, .unset, .unset, .unset, .unset, .unset, .unset] [(.int (1 : Int32)), (.int (1 : Int32)), (.ref b79), (.ref b79)])) rfl rfl (Jvm.hb hby at_20)
  have N81 := Fr.snoc X81 N80 g_b79
  have E_b75 := E_b75.wr W81
  have F_b75_parent := F_b75_parent.other W81 (Or.inl ne_b75_b79)
  have F_b75_ranks := F_b75_ranks.other W81 (Or.inl ne_b75_b79)
  have F_b75_size := F_b75_size.other W81 (Or.inl ne_b75_b79)
  have F_b75_unions := F_b75_unions.other W81 (Or.inl ne_b75_b79)
  have V_b77 := V_b77.other W81 ne_b77_b79
  have V_b78 := V_b78.other W81 ne_b78_b79
  have Zs := Nat.le_trans Zs (Keep.of_wr W81).1
  have V_b79 := V81
  refine own_go (B := T81.setTop (mkF m 21 #[.val (.int p1), .val (.int p2), .val (.int p3), .val (.int p4), .val (.ref b75), .unset, .unset, .unset, .unset, .unset, .unset, .unset, .unset, .unset, .unset] [(.ref b79)])) (fun t k => st81 _ k) ?_
  refine own_go (B := T81.setTop (mkF m 22 #[.val (.int p1), .val (.int p2), .val (.int p3), .val (.int p4), .val (.ref b75), .unset, .unset, .unset, .unset, .unset, .unset, .unset, .unset, .unset, .unset] [(.ref b79), (.ref b79)])) (fun t k => XS.dup X81.here hx rfl (Jvm.hb hby at_21) rfl rfl k) ?_
  refine own_go (B := T81.setTop (mkF m 23 #[.val (.int p1), .val (.int p2), .val (.int p3), .val (.int p4), .val (.ref b75), .unset, .unset, .unset, .unset, .unset, .unset, .unset, .unset, .unset, .unset] [(.int (2 : Int32)), (.ref b79), (.ref b79)])) (fun t k => XS.iconst X81.here hx rfl (Jvm.hb hby at_22) k) ?_
  refine own_go (B := T81.setTop (mkF m 24 #[.val (.int p1), .val (.int p2), .val (.int p3), .val (.int p4), .val (.ref b75), .unset, .unset, .unset, .unset, .unset, .unset, .unset, .unset, .unset, .unset] [(.int (2 : Int32)), (.int (2 : Int32)), (.ref b79), (.ref b79)])) (fun t k => XS.iconst X81.here hx rfl (Jvm.hb hby at_23) k) ?_
  obtain ⟨T82, h82, X82, e82, W82, V82, st82⟩ := own_iastore X81 hx hZ e81 V_b79 (j := (2 : Int32)) (k := 2) (by decide) (by decide) (by decide) (g := (mkF m 24 #[.val (.int p1), .val (.int p2), .val (.int p3), .val (.int p4), .val (.ref b75), .unset, .unset, .unset, .unset, .unset, .unset, .unset, .unset, .unset, .unset] [(.int (2 : Int32)), (.int (2 : Int32)), (.ref b79), (.ref b79)])) rfl rfl (Jvm.hb hby at_24)
  have N82 := Fr.snoc X82 N81 g_b79
  have E_b75 := E_b75.wr W82
  have F_b75_parent := F_b75_parent.other W82 (Or.inl ne_b75_b79)
  have F_b75_ranks := F_b75_ranks.other W82 (Or.inl ne_b75_b79)
  have F_b75_size := F_b75_size.other W82 (Or.inl ne_b75_b79)
  have F_b75_unions := F_b75_unions.other W82 (Or.inl ne_b75_b79)
  have V_b77 := V_b77.other W82 ne_b77_b79
  have V_b78 := V_b78.other W82 ne_b78_b79
  have Zs := Nat.le_trans Zs (Keep.of_wr W82).1
  have V_b79 := V82
  refine own_go (B := T82.setTop (mkF m 25 #[.val (.int p1), .val (.int p2), .val (.int p3), .val (.int p4), .val (.ref b75), .unset, .unset, .unset, .unset, .unset, .unset, .unset, .unset, .unset, .unset] [(.ref b79)])) (fun t k => st82 _ k) ?_
  refine own_go (B := T82.setTop (mkF m 26 #[.val (.int p1), .val (.int p2), .val (.int p3), .val (.int p4), .val (.ref b75), .unset, .unset, .unset, .unset, .unset, .unset, .unset, .unset, .unset, .unset] [(.ref b79), (.ref b79)])) (fun t k => XS.dup X82.here hx rfl (Jvm.hb hby at_25) rfl rfl k) ?_
  refine own_go (B := T82.setTop (mkF m 27 #[.val (.int p1), .val (.int p2), .val (.int p3), .val (.int p4), .val (.ref b75), .unset, .unset, .unset, .unset, .unset, .unset, .unset, .unset, .unset, .unset] [(.int (3 : Int32)), (.ref b79), (.ref b79)])) (fun t k => XS.iconst X82.here hx rfl (Jvm.hb hby at_26) k) ?_
  refine own_go (B := T82.setTop (mkF m 28 #[.val (.int p1), .val (.int p2), .val (.int p3), .val (.int p4), .val (.ref b75), .unset, .unset, .unset, .unset, .unset, .unset, .unset, .unset, .unset, .unset] [(.int (3 : Int32)), (.int (3 : Int32)), (.ref b79), (.ref b79)])) (fun t k => XS.iconst X82.here hx rfl (Jvm.hb hby at_27) k) ?_
  obtain ⟨T83, h83, X83, e83, W83, V83, st83⟩ := own_iastore X82 hx hZ e82 V_b79 (j := (3 : Int32)) (k := 3) (by decide) (by decide) (by decide) (g := (mkF m 28 #[.val (.int p1), .val (.int p2), .val (.int p3), .val (.int p4), .val (.ref b75), .unset, .unset, .unset, .unset, .unset, .unset, .unset, .unset, .unset, .unset] [(.int (3 : Int32)), (.int (3 : Int32)), (.ref b79), (.ref b79)])) rfl rfl (Jvm.hb hby at_28)
  have N83 := Fr.snoc X83 N82 g_b79
  have E_b75 := E_b75.wr W83
  have F_b75_parent := F_b75_parent.other W83 (Or.inl ne_b75_b79)
  have F_b75_ranks := F_b75_ranks.other W83 (Or.inl ne_b75_b79)
  have F_b75_size := F_b75_size.other W83 (Or.inl ne_b75_b79)
  have F_b75_unions := F_b75_unions.other W83 (Or.inl ne_b75_b79)
  have V_b77 := V_b77.other W83 ne_b77_b79
  have V_b78 := V_b78.other W83 ne_b78_b79
  have Zs := Nat.le_trans Zs (Keep.of_wr W83).1
  have V_b79 := V83
  refine own_go (B := T83.setTop (mkF m 29 #[.val (.int p1), .val (.int p2), .val (.int p3), .val (.int p4), .val (.ref b75), .unset, .unset, .unset, .unset, .unset, .unset, .unset, .unset, .unset, .unset] [(.ref b79)])) (fun t k => st83 _ k) ?_
  refine own_go (B := T83.setTop (mkF m 31 #[.val (.int p1), .val (.int p2), .val (.int p3), .val (.int p4), .val (.ref b75), .val (.ref b79), .unset, .unset, .unset, .unset, .unset, .unset, .unset, .unset, .unset] [])) (fun t k => XS.astore X83.here hx rfl (Jvm.hb hby at_29) rfl rfl (l' := #[.val (.int p1), .val (.int p2), .val (.int p3), .val (.int p4), .val (.ref b75), .val (.ref b79), .unset, .unset, .unset, .unset, .unset, .unset, .unset, .unset, .unset]) rfl k) ?_
  refine own_go (B := T83.setTop (mkF m 32 #[.val (.int p1), .val (.int p2), .val (.int p3), .val (.int p4), .val (.ref b75), .val (.ref b79), .unset, .unset, .unset, .unset, .unset, .unset, .unset, .unset, .unset] [(.int (1 : Int32))])) (fun t k => XS.iconst X83.here hx rfl (Jvm.hb hby at_31) k) ?_
  refine own_go (B := T83.setTop (mkF m 34 #[.val (.int p1), .val (.int p2), .val (.int p3), .val (.int p4), .val (.ref b75), .val (.ref b79), .val (.int (1 : Int32)), .unset, .unset, .unset, .unset, .unset, .unset, .unset, .unset] [])) (fun t k => XS.istore X83.here hx rfl (Jvm.hb hby at_32) rfl (l' := #[.val (.int p1), .val (.int p2), .val (.int p3), .val (.int p4), .val (.ref b75), .val (.ref b79), .val (.int (1 : Int32)), .unset, .unset, .unset, .unset, .unset, .unset, .unset, .unset]) rfl k) ?_
  have hI0 : own_INV (own_upd (own_upd (own_upd (own_upd (fun _ => 0) 0 (0 : Int32)) 1 (1 : Int32)) 2 (2 : Int32)) 3 (3 : Int32)) (own_upd (own_upd (own_upd (own_upd (fun _ => 0) 0 (0 : Int32)) 1 (1 : Int32)) 2 (2 : Int32)) 3 (3 : Int32)) := own_INV0
  refine own_go (B := T83.setTop (mkF m 36 #[.val (.int p1), .val (.int p2), .val (.int p3), .val (.int p4), .val (.ref b75), .val (.ref b79), .val (.int (1 : Int32)), .unset, .unset, .unset, .unset, .unset, .unset, .unset, .unset] [(.ref b75)])) (fun t k => XS.aload X83.here hx rfl (Jvm.hb hby at_34) rfl rfl k) ?_
  refine own_go (B := T83.setTop (mkF m 38 #[.val (.int p1), .val (.int p2), .val (.int p3), .val (.int p4), .val (.ref b75), .val (.ref b79), .val (.int (1 : Int32)), .unset, .unset, .unset, .unset, .unset, .unset, .unset, .unset] [(.ref b79), (.ref b75)])) (fun t k => XS.aload X83.here hx rfl (Jvm.hb hby at_36) rfl rfl k) ?_
  refine own_go (B := T83.setTop (mkF m 39 #[.val (.int p1), .val (.int p2), .val (.int p3), .val (.int p4), .val (.ref b75), .val (.ref b79), .val (.int (1 : Int32)), .unset, .unset, .unset, .unset, .unset, .unset, .unset, .unset] [(.int p1), (.ref b79), (.ref b75)])) (fun t k => XS.iloadN X83.here hx rfl (Jvm.hb hby at_38) rfl k) ?_
  obtain ⟨_, _, ⟨T84, La84, ka84, na84⟩, -, X84, ⟨Lc84, hQ84, l84, y84, z84⟩, st84⟩ := Jvm.LawKit.callS X83 hx (y := (⟨"com/example/term_unifier/termunifier/UnionFindFindPinLaw", "step", "(Lcom/example/term_unifier/termunifier/UnionFind;[II)Z"⟩ : MethodName)) hown (mvT hZ (own_w hw 26 rfl)) (mvT hZ (own_w hw 27 rfl)) (mvT hZ (own_w hw 28 rfl)) (mvT hZ (own_w hw 29 rfl)) (by decide) (backOf (W := 0) (rm5 l Z a0 hw [] b75 b79 p1 b77 b78 (own_upd (own_upd (own_upd (own_upd (fun _ => 0) 0 (0 : Int32)) 1 (1 : Int32)) 2 (2 : Int32)) 3 (3 : Int32)) (fun _ => 0) (own_upd (own_upd (own_upd (own_upd (fun _ => 0) 0 (0 : Int32)) 1 (1 : Int32)) 2 (2 : Int32)) 3 (3 : Int32)) h83 n0 Zs E_b75 F_b75_parent F_b75_ranks F_b75_size F_b75_unions V_b77 V_b78 V_b79 g_b77 g_b78 g_b79 ne_b75_b77 ne_b75_b78 ne_b77_b78 ne_b75_b79 ne_b77_b79 ne_b78_b79 hI0) hZ (own_w hw 29 rfl) (own_w hw 28 rfl) (by decide) (by decide)) (g := (mkF m 39 #[.val (.int p1), .val (.int p2), .val (.int p3), .val (.int p4), .val (.ref b75), .val (.ref b79), .val (.int (1 : Int32)), .unset, .unset, .unset, .unset, .unset, .unset, .unset, .unset] [(.int p1), (.ref b79), (.ref b75)])) rfl (by rw [hml]; rfl) (argsL := [(.ref b75), (.ref b79), (.int p1)]) (rest := []) (lenOf pd_3 rfl) rfl (by show 2 * 0 + _ ≤ _; exact Nat.le_of_eq rfl) (Jvm.hb hby at_39) (fun _ _ => ⟨rfl, e83, (by decide : 4 + 0 ≤ _), (by decide : 40 + 0 ≤ _)⟩)
  dsimp only [Pt.U, Pt.locs, Pt.cells, Pt.slots] at X84 l84 y84 z84 st84 hQ84
  subst l84 y84 z84
  obtain ⟨rfl, N84q, zf1_84, -, zh1_84, -, zq1_84, -, hI_84, Kc84, E_b75_q, F_b75_parent_q, F_b75_ranks_q, F_b75_size_q, F_b75_unions_q, V_b77_q, V_b78_q, V_b79_q⟩ := hQ84
  have N84 := Fr.app N83 N84q
  have Zs := Nat.le_trans Zs Kc84.1
  have E_b75 := E_b75_q
  have F_b75_parent := F_b75_parent_q
  have F_b75_ranks := F_b75_ranks_q
  have F_b75_size := F_b75_size_q
  have F_b75_unions := F_b75_unions_q
  have V_b77 := V_b77_q
  have V_b78 := V_b78_q
  have V_b79 := V_b79_q
  refine own_go (B := T84.setTop (mkF m 42 #[.val (.int p1), .val (.int p2), .val (.int p3), .val (.int p4), .val (.ref b75), .val (.ref b79), .val (.int (1 : Int32)), .unset, .unset, .unset, .unset, .unset, .unset, .unset, .unset] [(.int (1 : Int32))])) (fun t k => st84 _ k) ?_
  refine own_go (B := T84.setTop (mkF m 45 #[.val (.int p1), .val (.int p2), .val (.int p3), .val (.int p4), .val (.ref b75), .val (.ref b79), .val (.int (1 : Int32)), .unset, .unset, .unset, .unset, .unset, .unset, .unset, .unset] [])) (fun t k => XS.ifNo X84.here hx rfl (Jvm.hb hby at_42) rfl ((if0 _ _).trans (feq (by decide : ¬ ((1 : Int32) = (0 : Int32)))).1) k) ?_
  refine own_go (B := T84.setTop (mkF m 47 #[.val (.int p1), .val (.int p2), .val (.int p3), .val (.int p4), .val (.ref b75), .val (.ref b79), .val (.int (1 : Int32)), .unset, .unset, .unset, .unset, .unset, .unset, .unset, .unset] [(.int (1 : Int32))])) (fun t k => XS.iload X84.here hx rfl (Jvm.hb hby at_45) rfl k) ?_
  refine own_go (B := T84.setTop (mkF m 50 #[.val (.int p1), .val (.int p2), .val (.int p3), .val (.int p4), .val (.ref b75), .val (.ref b79), .val (.int (1 : Int32)), .unset, .unset, .unset, .unset, .unset, .unset, .unset, .unset] [])) (fun t k => XS.ifNo X84.here hx rfl (Jvm.hb hby at_47) rfl ((if0 _ _).trans (feq (by decide : ¬ ((1 : Int32) = (0 : Int32)))).1) k) ?_
  refine own_go (B := T84.setTop (mkF m 51 #[.val (.int p1), .val (.int p2), .val (.int p3), .val (.int p4), .val (.ref b75), .val (.ref b79), .val (.int (1 : Int32)), .unset, .unset, .unset, .unset, .unset, .unset, .unset, .unset] [(.int (1 : Int32))])) (fun t k => XS.iconst X84.here hx rfl (Jvm.hb hby at_50) k) ?_
  refine own_go (B := T84.setTop (mkF m 55 #[.val (.int p1), .val (.int p2), .val (.int p3), .val (.int p4), .val (.ref b75), .val (.ref b79), .val (.int (1 : Int32)), .unset, .unset, .unset, .unset, .unset, .unset, .unset, .unset] [(.int (1 : Int32))])) (fun t k => XS.goto X84.here hx rfl (pc0 := 51) (pc' := 55) rfl (Jvm.hb hby at_51) (by decide) (by decide) k) ?_
  refine own_go (B := T84.setTop (mkF m 57 #[.val (.int p1), .val (.int p2), .val (.int p3), .val (.int p4), .val (.ref b75), .val (.ref b79), .val (.int (1 : Int32)), .unset, .unset, .unset, .unset, .unset, .unset, .unset, .unset] [])) (fun t k => XS.istore X84.here hx rfl (Jvm.hb hby at_55) rfl (l' := #[.val (.int p1), .val (.int p2), .val (.int p3), .val (.int p4), .val (.ref b75), .val (.ref b79), .val (.int (1 : Int32)), .unset, .unset, .unset, .unset, .unset, .unset, .unset, .unset]) rfl k) ?_
  refine own_go (B := T84.setTop (mkF m 59 #[.val (.int p1), .val (.int p2), .val (.int p3), .val (.int p4), .val (.ref b75), .val (.ref b79), .val (.int (1 : Int32)), .unset, .unset, .unset, .unset, .unset, .unset, .unset, .unset] [(.ref b75)])) (fun t k => XS.aload X84.here hx rfl (Jvm.hb hby at_57) rfl rfl k) ?_
  refine own_go (B := T84.setTop (mkF m 61 #[.val (.int p1), .val (.int p2), .val (.int p3), .val (.int p4), .val (.ref b75), .val (.ref b79), .val (.int (1 : Int32)), .unset, .unset, .unset, .unset, .unset, .unset, .unset, .unset] [(.ref b79), (.ref b75)])) (fun t k => XS.aload X84.here hx rfl (Jvm.hb hby at_59) rfl rfl k) ?_
  refine own_go (B := T84.setTop (mkF m 62 #[.val (.int p1), .val (.int p2), .val (.int p3), .val (.int p4), .val (.ref b75), .val (.ref b79), .val (.int (1 : Int32)), .unset, .unset, .unset, .unset, .unset, .unset, .unset, .unset] [(.int p2), (.ref b79), (.ref b75)])) (fun t k => XS.iloadN X84.here hx rfl (Jvm.hb hby at_61) rfl k) ?_
  obtain ⟨_, _, ⟨T85, La85, ka85, na85⟩, -, X85, ⟨Lc85, hQ85, l85, y85, z85⟩, st85⟩ := Jvm.LawKit.callS X84 hx (y := (⟨"com/example/term_unifier/termunifier/UnionFindFindPinLaw", "step", "(Lcom/example/term_unifier/termunifier/UnionFind;[II)Z"⟩ : MethodName)) hown (mvT hZ (own_w hw 26 rfl)) (mvT hZ (own_w hw 27 rfl)) (mvT hZ (own_w hw 28 rfl)) (mvT hZ (own_w hw 29 rfl)) (by decide) (backOf (W := 0) (rm5 l Z a0 hw [] b75 b79 p2 b77 b78 zf1_84 zh1_84 zq1_84 T84.heap n0 Zs E_b75 F_b75_parent F_b75_ranks F_b75_size F_b75_unions V_b77 V_b78 V_b79 g_b77 g_b78 g_b79 ne_b75_b77 ne_b75_b78 ne_b77_b78 ne_b75_b79 ne_b77_b79 ne_b78_b79 hI_84) hZ (own_w hw 29 rfl) (own_w hw 28 rfl) (by decide) (by decide)) (g := (mkF m 62 #[.val (.int p1), .val (.int p2), .val (.int p3), .val (.int p4), .val (.ref b75), .val (.ref b79), .val (.int (1 : Int32)), .unset, .unset, .unset, .unset, .unset, .unset, .unset, .unset] [(.int p2), (.ref b79), (.ref b75)])) rfl (by rw [hml]; rfl) (argsL := [(.ref b75), (.ref b79), (.int p2)]) (rest := []) (lenOf pd_3 rfl) rfl (by show 2 * 0 + _ ≤ _; exact Nat.le_of_eq rfl) (Jvm.hb hby at_62) (fun _ _ => ⟨rfl, rfl, (by decide : 4 + 0 ≤ _), (by decide : 40 + 0 ≤ _)⟩)
  dsimp only [Pt.U, Pt.locs, Pt.cells, Pt.slots] at X85 l85 y85 z85 st85 hQ85
  subst l85 y85 z85
  obtain ⟨rfl, N85q, zf1_85, -, zh1_85, -, zq1_85, -, hI_85, Kc85, E_b75_q, F_b75_parent_q, F_b75_ranks_q, F_b75_size_q, F_b75_unions_q, V_b77_q, V_b78_q, V_b79_q⟩ := hQ85
  have N85 := Fr.app N84 N85q
  have Zs := Nat.le_trans Zs Kc85.1
  have E_b75 := E_b75_q
  have F_b75_parent := F_b75_parent_q
  have F_b75_ranks := F_b75_ranks_q
  have F_b75_size := F_b75_size_q
  have F_b75_unions := F_b75_unions_q
  have V_b77 := V_b77_q
  have V_b78 := V_b78_q
  have V_b79 := V_b79_q
  refine own_go (B := T85.setTop (mkF m 65 #[.val (.int p1), .val (.int p2), .val (.int p3), .val (.int p4), .val (.ref b75), .val (.ref b79), .val (.int (1 : Int32)), .unset, .unset, .unset, .unset, .unset, .unset, .unset, .unset] [(.int (1 : Int32))])) (fun t k => st85 _ k) ?_
  refine own_go (B := T85.setTop (mkF m 68 #[.val (.int p1), .val (.int p2), .val (.int p3), .val (.int p4), .val (.ref b75), .val (.ref b79), .val (.int (1 : Int32)), .unset, .unset, .unset, .unset, .unset, .unset, .unset, .unset] [])) (fun t k => XS.ifNo X85.here hx rfl (Jvm.hb hby at_65) rfl ((if0 _ _).trans (feq (by decide : ¬ ((1 : Int32) = (0 : Int32)))).1) k) ?_
  refine own_go (B := T85.setTop (mkF m 70 #[.val (.int p1), .val (.int p2), .val (.int p3), .val (.int p4), .val (.ref b75), .val (.ref b79), .val (.int (1 : Int32)), .unset, .unset, .unset, .unset, .unset, .unset, .unset, .unset] [(.int (1 : Int32))])) (fun t k => XS.iload X85.here hx rfl (Jvm.hb hby at_68) rfl k) ?_
  refine own_go (B := T85.setTop (mkF m 73 #[.val (.int p1), .val (.int p2), .val (.int p3), .val (.int p4), .val (.ref b75), .val (.ref b79), .val (.int (1 : Int32)), .unset, .unset, .unset, .unset, .unset, .unset, .unset, .unset] [])) (fun t k => XS.ifNo X85.here hx rfl (Jvm.hb hby at_70) rfl ((if0 _ _).trans (feq (by decide : ¬ ((1 : Int32) = (0 : Int32)))).1) k) ?_
  refine own_go (B := T85.setTop (mkF m 74 #[.val (.int p1), .val (.int p2), .val (.int p3), .val (.int p4), .val (.ref b75), .val (.ref b79), .val (.int (1 : Int32)), .unset, .unset, .unset, .unset, .unset, .unset, .unset, .unset] [(.int (1 : Int32))])) (fun t k => XS.iconst X85.here hx rfl (Jvm.hb hby at_73) k) ?_
  refine own_go (B := T85.setTop (mkF m 78 #[.val (.int p1), .val (.int p2), .val (.int p3), .val (.int p4), .val (.ref b75), .val (.ref b79), .val (.int (1 : Int32)), .unset, .unset, .unset, .unset, .unset, .unset, .unset, .unset] [(.int (1 : Int32))])) (fun t k => XS.goto X85.here hx rfl (pc0 := 74) (pc' := 78) rfl (Jvm.hb hby at_74) (by decide) (by decide) k) ?_
  refine own_go (B := T85.setTop (mkF m 80 #[.val (.int p1), .val (.int p2), .val (.int p3), .val (.int p4), .val (.ref b75), .val (.ref b79), .val (.int (1 : Int32)), .unset, .unset, .unset, .unset, .unset, .unset, .unset, .unset] [])) (fun t k => XS.istore X85.here hx rfl (Jvm.hb hby at_78) rfl (l' := #[.val (.int p1), .val (.int p2), .val (.int p3), .val (.int p4), .val (.ref b75), .val (.ref b79), .val (.int (1 : Int32)), .unset, .unset, .unset, .unset, .unset, .unset, .unset, .unset]) rfl k) ?_
  refine own_go (B := T85.setTop (mkF m 82 #[.val (.int p1), .val (.int p2), .val (.int p3), .val (.int p4), .val (.ref b75), .val (.ref b79), .val (.int (1 : Int32)), .unset, .unset, .unset, .unset, .unset, .unset, .unset, .unset] [(.ref b75)])) (fun t k => XS.aload X85.here hx rfl (Jvm.hb hby at_80) rfl rfl k) ?_
  refine own_go (B := T85.setTop (mkF m 84 #[.val (.int p1), .val (.int p2), .val (.int p3), .val (.int p4), .val (.ref b75), .val (.ref b79), .val (.int (1 : Int32)), .unset, .unset, .unset, .unset, .unset, .unset, .unset, .unset] [(.ref b79), (.ref b75)])) (fun t k => XS.aload X85.here hx rfl (Jvm.hb hby at_82) rfl rfl k) ?_
  refine own_go (B := T85.setTop (mkF m 85 #[.val (.int p1), .val (.int p2), .val (.int p3), .val (.int p4), .val (.ref b75), .val (.ref b79), .val (.int (1 : Int32)), .unset, .unset, .unset, .unset, .unset, .unset, .unset, .unset] [(.int p3), (.ref b79), (.ref b75)])) (fun t k => XS.iloadN X85.here hx rfl (Jvm.hb hby at_84) rfl k) ?_
  obtain ⟨_, _, ⟨T86, La86, ka86, na86⟩, -, X86, ⟨Lc86, hQ86, l86, y86, z86⟩, st86⟩ := Jvm.LawKit.callS X85 hx (y := (⟨"com/example/term_unifier/termunifier/UnionFindFindPinLaw", "step", "(Lcom/example/term_unifier/termunifier/UnionFind;[II)Z"⟩ : MethodName)) hown (mvT hZ (own_w hw 26 rfl)) (mvT hZ (own_w hw 27 rfl)) (mvT hZ (own_w hw 28 rfl)) (mvT hZ (own_w hw 29 rfl)) (by decide) (backOf (W := 0) (rm5 l Z a0 hw [] b75 b79 p3 b77 b78 zf1_85 zh1_85 zq1_85 T85.heap n0 Zs E_b75 F_b75_parent F_b75_ranks F_b75_size F_b75_unions V_b77 V_b78 V_b79 g_b77 g_b78 g_b79 ne_b75_b77 ne_b75_b78 ne_b77_b78 ne_b75_b79 ne_b77_b79 ne_b78_b79 hI_85) hZ (own_w hw 29 rfl) (own_w hw 28 rfl) (by decide) (by decide)) (g := (mkF m 85 #[.val (.int p1), .val (.int p2), .val (.int p3), .val (.int p4), .val (.ref b75), .val (.ref b79), .val (.int (1 : Int32)), .unset, .unset, .unset, .unset, .unset, .unset, .unset, .unset] [(.int p3), (.ref b79), (.ref b75)])) rfl (by rw [hml]; rfl) (argsL := [(.ref b75), (.ref b79), (.int p3)]) (rest := []) (lenOf pd_3 rfl) rfl (by show 2 * 0 + _ ≤ _; exact Nat.le_of_eq rfl) (Jvm.hb hby at_85) (fun _ _ => ⟨rfl, rfl, (by decide : 4 + 0 ≤ _), (by decide : 40 + 0 ≤ _)⟩)
  dsimp only [Pt.U, Pt.locs, Pt.cells, Pt.slots] at X86 l86 y86 z86 st86 hQ86
  subst l86 y86 z86
  obtain ⟨rfl, N86q, zf1_86, -, zh1_86, -, zq1_86, -, hI_86, Kc86, E_b75_q, F_b75_parent_q, F_b75_ranks_q, F_b75_size_q, F_b75_unions_q, V_b77_q, V_b78_q, V_b79_q⟩ := hQ86
  have N86 := Fr.app N85 N86q
  have Zs := Nat.le_trans Zs Kc86.1
  have E_b75 := E_b75_q
  have F_b75_parent := F_b75_parent_q
  have F_b75_ranks := F_b75_ranks_q
  have F_b75_size := F_b75_size_q
  have F_b75_unions := F_b75_unions_q
  have V_b77 := V_b77_q
  have V_b78 := V_b78_q
  have V_b79 := V_b79_q
  refine own_go (B := T86.setTop (mkF m 88 #[.val (.int p1), .val (.int p2), .val (.int p3), .val (.int p4), .val (.ref b75), .val (.ref b79), .val (.int (1 : Int32)), .unset, .unset, .unset, .unset, .unset, .unset, .unset, .unset] [(.int (1 : Int32))])) (fun t k => st86 _ k) ?_
  refine own_go (B := T86.setTop (mkF m 91 #[.val (.int p1), .val (.int p2), .val (.int p3), .val (.int p4), .val (.ref b75), .val (.ref b79), .val (.int (1 : Int32)), .unset, .unset, .unset, .unset, .unset, .unset, .unset, .unset] [])) (fun t k => XS.ifNo X86.here hx rfl (Jvm.hb hby at_88) rfl ((if0 _ _).trans (feq (by decide : ¬ ((1 : Int32) = (0 : Int32)))).1) k) ?_
  refine own_go (B := T86.setTop (mkF m 93 #[.val (.int p1), .val (.int p2), .val (.int p3), .val (.int p4), .val (.ref b75), .val (.ref b79), .val (.int (1 : Int32)), .unset, .unset, .unset, .unset, .unset, .unset, .unset, .unset] [(.int (1 : Int32))])) (fun t k => XS.iload X86.here hx rfl (Jvm.hb hby at_91) rfl k) ?_
  refine own_go (B := T86.setTop (mkF m 96 #[.val (.int p1), .val (.int p2), .val (.int p3), .val (.int p4), .val (.ref b75), .val (.ref b79), .val (.int (1 : Int32)), .unset, .unset, .unset, .unset, .unset, .unset, .unset, .unset] [])) (fun t k => XS.ifNo X86.here hx rfl (Jvm.hb hby at_93) rfl ((if0 _ _).trans (feq (by decide : ¬ ((1 : Int32) = (0 : Int32)))).1) k) ?_
  refine own_go (B := T86.setTop (mkF m 97 #[.val (.int p1), .val (.int p2), .val (.int p3), .val (.int p4), .val (.ref b75), .val (.ref b79), .val (.int (1 : Int32)), .unset, .unset, .unset, .unset, .unset, .unset, .unset, .unset] [(.int (1 : Int32))])) (fun t k => XS.iconst X86.here hx rfl (Jvm.hb hby at_96) k) ?_
  refine own_go (B := T86.setTop (mkF m 101 #[.val (.int p1), .val (.int p2), .val (.int p3), .val (.int p4), .val (.ref b75), .val (.ref b79), .val (.int (1 : Int32)), .unset, .unset, .unset, .unset, .unset, .unset, .unset, .unset] [(.int (1 : Int32))])) (fun t k => XS.goto X86.here hx rfl (pc0 := 97) (pc' := 101) rfl (Jvm.hb hby at_97) (by decide) (by decide) k) ?_
  refine own_go (B := T86.setTop (mkF m 103 #[.val (.int p1), .val (.int p2), .val (.int p3), .val (.int p4), .val (.ref b75), .val (.ref b79), .val (.int (1 : Int32)), .unset, .unset, .unset, .unset, .unset, .unset, .unset, .unset] [])) (fun t k => XS.istore X86.here hx rfl (Jvm.hb hby at_101) rfl (l' := #[.val (.int p1), .val (.int p2), .val (.int p3), .val (.int p4), .val (.ref b75), .val (.ref b79), .val (.int (1 : Int32)), .unset, .unset, .unset, .unset, .unset, .unset, .unset, .unset]) rfl k) ?_
  refine own_go (B := T86.setTop (mkF m 104 #[.val (.int p1), .val (.int p2), .val (.int p3), .val (.int p4), .val (.ref b75), .val (.ref b79), .val (.int (1 : Int32)), .unset, .unset, .unset, .unset, .unset, .unset, .unset, .unset] [(.int p4)])) (fun t k => XS.iloadN X86.here hx rfl (Jvm.hb hby at_103) rfl k) ?_
  refine own_go (B := T86.setTop (mkF m 105 #[.val (.int p1), .val (.int p2), .val (.int p3), .val (.int p4), .val (.ref b75), .val (.ref b79), .val (.int (1 : Int32)), .unset, .unset, .unset, .unset, .unset, .unset, .unset, .unset] [(.int (3 : Int32)), (.int p4)])) (fun t k => XS.iconst X86.here hx rfl (Jvm.hb hby at_104) k) ?_
  refine own_go (B := T86.setTop (mkF m 106 #[.val (.int p1), .val (.int p2), .val (.int p3), .val (.int p4), .val (.ref b75), .val (.ref b79), .val (.int (1 : Int32)), .unset, .unset, .unset, .unset, .unset, .unset, .unset, .unset] [(.int (p4 &&& (3 : Int32)))])) (fun t k => XS.iand X86.here hx rfl (Jvm.hb hby at_105) rfl k) ?_
  obtain ⟨va, hva⟩ : ∃ z : Int32, z = (p4 &&& (3 : Int32)) := ⟨_, rfl⟩
  rw [← hva]
  obtain ⟨vak, hak⟩ := own_and3 _ va hva
  refine own_go (B := T86.setTop (mkF m 108 #[.val (.int p1), .val (.int p2), .val (.int p3), .val (.int p4), .val (.ref b75), .val (.ref b79), .val (.int (1 : Int32)), .val (.int va), .unset, .unset, .unset, .unset, .unset, .unset, .unset] [])) (fun t k => XS.istore X86.here hx rfl (Jvm.hb hby at_106) rfl (l' := #[.val (.int p1), .val (.int p2), .val (.int p3), .val (.int p4), .val (.ref b75), .val (.ref b79), .val (.int (1 : Int32)), .val (.int va), .unset, .unset, .unset, .unset, .unset, .unset, .unset]) rfl k) ?_
  refine own_go (B := T86.setTop (mkF m 109 #[.val (.int p1), .val (.int p2), .val (.int p3), .val (.int p4), .val (.ref b75), .val (.ref b79), .val (.int (1 : Int32)), .val (.int va), .unset, .unset, .unset, .unset, .unset, .unset, .unset] [(.int p4)])) (fun t k => XS.iloadN X86.here hx rfl (Jvm.hb hby at_108) rfl k) ?_
  refine own_go (B := T86.setTop (mkF m 110 #[.val (.int p1), .val (.int p2), .val (.int p3), .val (.int p4), .val (.ref b75), .val (.ref b79), .val (.int (1 : Int32)), .val (.int va), .unset, .unset, .unset, .unset, .unset, .unset, .unset] [(.int (2 : Int32)), (.int p4)])) (fun t k => XS.iconst X86.here hx rfl (Jvm.hb hby at_109) k) ?_
  refine own_go (B := T86.setTop (mkF m 111 #[.val (.int p1), .val (.int p2), .val (.int p3), .val (.int p4), .val (.ref b75), .val (.ref b79), .val (.int (1 : Int32)), .val (.int va), .unset, .unset, .unset, .unset, .unset, .unset, .unset] [(.int ((p4.toUInt32 >>> ((2 : Int32) &&& 31).toUInt32).toInt32))])) (fun t k => XS.iushr X86.here hx rfl (Jvm.hb hby at_110) rfl k) ?_
  refine own_go (B := T86.setTop (mkF m 112 #[.val (.int p1), .val (.int p2), .val (.int p3), .val (.int p4), .val (.ref b75), .val (.ref b79), .val (.int (1 : Int32)), .val (.int va), .unset, .unset, .unset, .unset, .unset, .unset, .unset] [(.int (3 : Int32)), (.int ((p4.toUInt32 >>> ((2 : Int32) &&& 31).toUInt32).toInt32))])) (fun t k => XS.iconst X86.here hx rfl (Jvm.hb hby at_111) k) ?_
  refine own_go (B := T86.setTop (mkF m 113 #[.val (.int p1), .val (.int p2), .val (.int p3), .val (.int p4), .val (.ref b75), .val (.ref b79), .val (.int (1 : Int32)), .val (.int va), .unset, .unset, .unset, .unset, .unset, .unset, .unset] [(.int (((p4.toUInt32 >>> ((2 : Int32) &&& 31).toUInt32).toInt32) &&& (3 : Int32)))])) (fun t k => XS.iand X86.here hx rfl (Jvm.hb hby at_112) rfl k) ?_
  obtain ⟨vb, hvb⟩ : ∃ z : Int32, z = (((p4.toUInt32 >>> ((2 : Int32) &&& 31).toUInt32).toInt32) &&& (3 : Int32)) := ⟨_, rfl⟩
  rw [← hvb]
  obtain ⟨vbk, hbk⟩ := own_and3 _ vb hvb
  refine own_go (B := T86.setTop (mkF m 115 #[.val (.int p1), .val (.int p2), .val (.int p3), .val (.int p4), .val (.ref b75), .val (.ref b79), .val (.int (1 : Int32)), .val (.int va), .val (.int vb), .unset, .unset, .unset, .unset, .unset, .unset] [])) (fun t k => XS.istore X86.here hx rfl (Jvm.hb hby at_113) rfl (l' := #[.val (.int p1), .val (.int p2), .val (.int p3), .val (.int p4), .val (.ref b75), .val (.ref b79), .val (.int (1 : Int32)), .val (.int va), .val (.int vb), .unset, .unset, .unset, .unset, .unset, .unset]) rfl k) ?_
  refine own_go (B := T86.setTop (mkF m 117 #[.val (.int p1), .val (.int p2), .val (.int p3), .val (.int p4), .val (.ref b75), .val (.ref b79), .val (.int (1 : Int32)), .val (.int va), .val (.int vb), .unset, .unset, .unset, .unset, .unset, .unset] [(.ref b75)])) (fun t k => XS.aload X86.here hx rfl (Jvm.hb hby at_115) rfl rfl k) ?_
  refine own_go (B := T86.setTop (mkF m 119 #[.val (.int p1), .val (.int p2), .val (.int p3), .val (.int p4), .val (.ref b75), .val (.ref b79), .val (.int (1 : Int32)), .val (.int va), .val (.int vb), .unset, .unset, .unset, .unset, .unset, .unset] [(.int va), (.ref b75)])) (fun t k => XS.iload X86.here hx rfl (Jvm.hb hby at_117) rfl k) ?_
  obtain ⟨nh119, hh119⟩ := own_HT_mk hI_86 va vak hak.1 hak.2
  obtain ⟨cq87, kq87, q87a, q87b, q87c⟩ := isOf hZ rfl E_b75
  obtain ⟨_, _, ⟨T87, La87, ka87, na87⟩, -, X87, ⟨Lc87, hQ87, l87, y87, z87⟩, st87⟩ := X86.virtualBack hx (y := (⟨"com/example/term_unifier/termunifier/UnionFind", "find", "(I)I"⟩ : MethodName)) (z := (⟨"com/example/term_unifier/termunifier/UnionFind", "find", "(I)I"⟩ : MethodName)) hown (mvT hZ (own_w hw 35 rfl)) (mvT hZ (own_w hw 36 rfl)) (notFace_of_selects (args := #[]) (mvT hZ (own_w hw 38 rfl))) (mvT hZ (own_w hw 38 rfl)) (mvT hZ (own_w hw 37 rfl)) (by decide) (backOf (W := 0) (rm7 l Z a0 hw [] b75 va b77 zf1_86 zq1_86 (zq1_86 vak) nh119 T86.heap n0 Zs E_b75 F_b75_parent F_b75_unions V_b77 g_b77 ne_b75_b77 hh119 (by rw [own_tn _ _ hak.1])) hZ (own_w hw 39 rfl) (own_w hw 2 rfl) (by decide) (by decide)) q87a q87c (g := (mkF m 119 #[.val (.int p1), .val (.int p2), .val (.int p3), .val (.int p4), .val (.ref b75), .val (.ref b79), .val (.int (1 : Int32)), .val (.int va), .val (.int vb), .unset, .unset, .unset, .unset, .unset, .unset] [(.int va), (.ref b75)])) rfl (by rw [hml]; rfl) (Steps.refl _) (argsL := [(.int va)]) (rest := []) (lenOf pd_4 rfl) rfl (by show 2 * 0 + _ ≤ _; exact Nat.le_of_eq rfl) (Jvm.hb hby at_119) (fun _ _ => ⟨rfl, rfl, (by decide : 4 + 0 ≤ _), (by decide : 40 + 0 ≤ _)⟩)
  dsimp only [Pt.U, Pt.locs, Pt.cells, Pt.slots] at X87 l87 y87 z87 st87 hQ87
  subst l87 y87 z87
  obtain ⟨rfl, N87q, zg_87, -, hI_87, Kc87, E_b75_q, F_b75_parent_q, F_b75_unions_q, V_b77_q⟩ := hQ87
  have N87 := Fr.app N86 N87q
  have F_b75_ranks := F_b75_ranks.keep Kc87 (ninS ne_b75_b77 nin0)
  have F_b75_size := F_b75_size.keep Kc87 (ninS ne_b75_b77 nin0)
  have V_b78 := V_b78.keep Kc87 (ninS (Ne.symm ne_b77_b78) nin0)
  have V_b79 := V_b79.keep Kc87 (ninS (Ne.symm ne_b77_b79) nin0)
  have Zs := Nat.le_trans Zs Kc87.1
  have E_b75 := E_b75_q
  have F_b75_parent := F_b75_parent_q
  have F_b75_unions := F_b75_unions_q
  have V_b77 := V_b77_q
  refine own_go (B := T87.setTop (mkF m 122 #[.val (.int p1), .val (.int p2), .val (.int p3), .val (.int p4), .val (.ref b75), .val (.ref b79), .val (.int (1 : Int32)), .val (.int va), .val (.int vb), .unset, .unset, .unset, .unset, .unset, .unset] [(.int (zq1_86 vak))])) (fun t k => own_st st87 k) ?_
  refine own_go (B := T87.setTop (mkF m 124 #[.val (.int p1), .val (.int p2), .val (.int p3), .val (.int p4), .val (.ref b75), .val (.ref b79), .val (.int (1 : Int32)), .val (.int va), .val (.int vb), .val (.int (zq1_86 vak)), .unset, .unset, .unset, .unset, .unset] [])) (fun t k => XS.istore X87.here hx rfl (Jvm.hb hby at_122) rfl (l' := #[.val (.int p1), .val (.int p2), .val (.int p3), .val (.int p4), .val (.ref b75), .val (.ref b79), .val (.int (1 : Int32)), .val (.int va), .val (.int vb), .val (.int (zq1_86 vak)), .unset, .unset, .unset, .unset, .unset]) rfl k) ?_
  refine own_go (B := T87.setTop (mkF m 126 #[.val (.int p1), .val (.int p2), .val (.int p3), .val (.int p4), .val (.ref b75), .val (.ref b79), .val (.int (1 : Int32)), .val (.int va), .val (.int vb), .val (.int (zq1_86 vak)), .unset, .unset, .unset, .unset, .unset] [(.ref b75)])) (fun t k => XS.aload X87.here hx rfl (Jvm.hb hby at_124) rfl rfl k) ?_
  refine own_go (B := T87.setTop (mkF m 128 #[.val (.int p1), .val (.int p2), .val (.int p3), .val (.int p4), .val (.ref b75), .val (.ref b79), .val (.int (1 : Int32)), .val (.int va), .val (.int vb), .val (.int (zq1_86 vak)), .unset, .unset, .unset, .unset, .unset] [(.int vb), (.ref b75)])) (fun t k => XS.iload X87.here hx rfl (Jvm.hb hby at_126) rfl k) ?_
  obtain ⟨nh128, hh128⟩ := own_HT_mk hI_87 vb vbk hbk.1 hbk.2
  obtain ⟨cq88, kq88, q88a, q88b, q88c⟩ := isOf hZ rfl E_b75
  obtain ⟨_, _, ⟨T88, La88, ka88, na88⟩, -, X88, ⟨Lc88, hQ88, l88, y88, z88⟩, st88⟩ := X87.virtualBack hx (y := (⟨"com/example/term_unifier/termunifier/UnionFind", "find", "(I)I"⟩ : MethodName)) (z := (⟨"com/example/term_unifier/termunifier/UnionFind", "find", "(I)I"⟩ : MethodName)) hown (mvT hZ (own_w hw 35 rfl)) (mvT hZ (own_w hw 36 rfl)) (notFace_of_selects (args := #[]) (mvT hZ (own_w hw 38 rfl))) (mvT hZ (own_w hw 38 rfl)) (mvT hZ (own_w hw 37 rfl)) (by decide) (backOf (W := 0) (rm7 l Z a0 hw [] b75 vb b77 zg_87 zq1_86 (zq1_86 vbk) nh128 T87.heap n0 Zs E_b75 F_b75_parent F_b75_unions V_b77 g_b77 ne_b75_b77 hh128 (by rw [own_tn _ _ hbk.1])) hZ (own_w hw 39 rfl) (own_w hw 2 rfl) (by decide) (by decide)) q88a q88c (g := (mkF m 128 #[.val (.int p1), .val (.int p2), .val (.int p3), .val (.int p4), .val (.ref b75), .val (.ref b79), .val (.int (1 : Int32)), .val (.int va), .val (.int vb), .val (.int (zq1_86 vak)), .unset, .unset, .unset, .unset, .unset] [(.int vb), (.ref b75)])) rfl (by rw [hml]; rfl) (Steps.refl _) (argsL := [(.int vb)]) (rest := []) (lenOf pd_4 rfl) rfl (by show 2 * 0 + _ ≤ _; exact Nat.le_of_eq rfl) (Jvm.hb hby at_128) (fun _ _ => ⟨rfl, rfl, (by decide : 4 + 0 ≤ _), (by decide : 40 + 0 ≤ _)⟩)
  dsimp only [Pt.U, Pt.locs, Pt.cells, Pt.slots] at X88 l88 y88 z88 st88 hQ88
  subst l88 y88 z88
  obtain ⟨rfl, N88q, zg_88, -, hI_88, Kc88, E_b75_q, F_b75_parent_q, F_b75_unions_q, V_b77_q⟩ := hQ88
  have N88 := Fr.app N87 N88q
  have F_b75_ranks := F_b75_ranks.keep Kc88 (ninS ne_b75_b77 nin0)
  have F_b75_size := F_b75_size.keep Kc88 (ninS ne_b75_b77 nin0)
  have V_b78 := V_b78.keep Kc88 (ninS (Ne.symm ne_b77_b78) nin0)
  have V_b79 := V_b79.keep Kc88 (ninS (Ne.symm ne_b77_b79) nin0)
  have Zs := Nat.le_trans Zs Kc88.1
  have E_b75 := E_b75_q
  have F_b75_parent := F_b75_parent_q
  have F_b75_unions := F_b75_unions_q
  have V_b77 := V_b77_q
  refine own_go (B := T88.setTop (mkF m 131 #[.val (.int p1), .val (.int p2), .val (.int p3), .val (.int p4), .val (.ref b75), .val (.ref b79), .val (.int (1 : Int32)), .val (.int va), .val (.int vb), .val (.int (zq1_86 vak)), .unset, .unset, .unset, .unset, .unset] [(.int (zq1_86 vbk))])) (fun t k => own_st st88 k) ?_
  refine own_go (B := T88.setTop (mkF m 133 #[.val (.int p1), .val (.int p2), .val (.int p3), .val (.int p4), .val (.ref b75), .val (.ref b79), .val (.int (1 : Int32)), .val (.int va), .val (.int vb), .val (.int (zq1_86 vak)), .val (.int (zq1_86 vbk)), .unset, .unset, .unset, .unset] [])) (fun t k => XS.istore X88.here hx rfl (Jvm.hb hby at_131) rfl (l' := #[.val (.int p1), .val (.int p2), .val (.int p3), .val (.int p4), .val (.ref b75), .val (.ref b79), .val (.int (1 : Int32)), .val (.int va), .val (.int vb), .val (.int (zq1_86 vak)), .val (.int (zq1_86 vbk)), .unset, .unset, .unset, .unset]) rfl k) ?_
  refine own_go (B := T88.setTop (mkF m 135 #[.val (.int p1), .val (.int p2), .val (.int p3), .val (.int p4), .val (.ref b75), .val (.ref b79), .val (.int (1 : Int32)), .val (.int va), .val (.int vb), .val (.int (zq1_86 vak)), .val (.int (zq1_86 vbk)), .unset, .unset, .unset, .unset] [(.ref b75)])) (fun t k => XS.aload X88.here hx rfl (Jvm.hb hby at_133) rfl rfl k) ?_
  refine own_go (B := T88.setTop (mkF m 136 #[.val (.int p1), .val (.int p2), .val (.int p3), .val (.int p4), .val (.ref b75), .val (.ref b79), .val (.int (1 : Int32)), .val (.int va), .val (.int vb), .val (.int (zq1_86 vak)), .val (.int (zq1_86 vbk)), .unset, .unset, .unset, .unset] [(.int (0 : Int32)), (.ref b75)])) (fun t k => XS.iconst X88.here hx rfl (Jvm.hb hby at_135) k) ?_
  obtain ⟨nh136, hh136⟩ := own_HT_mk hI_88 (0 : Int32) 0 (by decide) (by decide)
  obtain ⟨cq89, kq89, q89a, q89b, q89c⟩ := isOf hZ rfl E_b75
  obtain ⟨_, _, ⟨T89, La89, ka89, na89⟩, -, X89, ⟨Lc89, hQ89, l89, y89, z89⟩, st89⟩ := X88.virtualBack hx (y := (⟨"com/example/term_unifier/termunifier/UnionFind", "find", "(I)I"⟩ : MethodName)) (z := (⟨"com/example/term_unifier/termunifier/UnionFind", "find", "(I)I"⟩ : MethodName)) hown (mvT hZ (own_w hw 35 rfl)) (mvT hZ (own_w hw 36 rfl)) (notFace_of_selects (args := #[]) (mvT hZ (own_w hw 38 rfl))) (mvT hZ (own_w hw 38 rfl)) (mvT hZ (own_w hw 37 rfl)) (by decide) (backOf (W := 0) (rm7 l Z a0 hw [] b75 (0 : Int32) b77 zg_88 zq1_86 (zq1_86 0) nh136 T88.heap n0 Zs E_b75 F_b75_parent F_b75_unions V_b77 g_b77 ne_b75_b77 hh136 (by rw [own_tn _ 0 (by decide)])) hZ (own_w hw 39 rfl) (own_w hw 2 rfl) (by decide) (by decide)) q89a q89c (g := (mkF m 136 #[.val (.int p1), .val (.int p2), .val (.int p3), .val (.int p4), .val (.ref b75), .val (.ref b79), .val (.int (1 : Int32)), .val (.int va), .val (.int vb), .val (.int (zq1_86 vak)), .val (.int (zq1_86 vbk)), .unset, .unset, .unset, .unset] [(.int (0 : Int32)), (.ref b75)])) rfl (by rw [hml]; rfl) (Steps.refl _) (argsL := [(.int (0 : Int32))]) (rest := []) (lenOf pd_4 rfl) rfl (by show 2 * 0 + _ ≤ _; exact Nat.le_of_eq rfl) (Jvm.hb hby at_136) (fun _ _ => ⟨rfl, rfl, (by decide : 4 + 0 ≤ _), (by decide : 40 + 0 ≤ _)⟩)
  dsimp only [Pt.U, Pt.locs, Pt.cells, Pt.slots] at X89 l89 y89 z89 st89 hQ89
  subst l89 y89 z89
  obtain ⟨rfl, N89q, zg_89, -, hI_89, Kc89, E_b75_q, F_b75_parent_q, F_b75_unions_q, V_b77_q⟩ := hQ89
  have N89 := Fr.app N88 N89q
  have F_b75_ranks := F_b75_ranks.keep Kc89 (ninS ne_b75_b77 nin0)
  have F_b75_size := F_b75_size.keep Kc89 (ninS ne_b75_b77 nin0)
  have V_b78 := V_b78.keep Kc89 (ninS (Ne.symm ne_b77_b78) nin0)
  have V_b79 := V_b79.keep Kc89 (ninS (Ne.symm ne_b77_b79) nin0)
  have Zs := Nat.le_trans Zs Kc89.1
  have E_b75 := E_b75_q
  have F_b75_parent := F_b75_parent_q
  have F_b75_unions := F_b75_unions_q
  have V_b77 := V_b77_q
  refine own_go (B := T89.setTop (mkF m 139 #[.val (.int p1), .val (.int p2), .val (.int p3), .val (.int p4), .val (.ref b75), .val (.ref b79), .val (.int (1 : Int32)), .val (.int va), .val (.int vb), .val (.int (zq1_86 vak)), .val (.int (zq1_86 vbk)), .unset, .unset, .unset, .unset] [(.int (zq1_86 0))])) (fun t k => own_st st89 k) ?_
  refine own_go (B := T89.setTop (mkF m 141 #[.val (.int p1), .val (.int p2), .val (.int p3), .val (.int p4), .val (.ref b75), .val (.ref b79), .val (.int (1 : Int32)), .val (.int va), .val (.int vb), .val (.int (zq1_86 vak)), .val (.int (zq1_86 vbk)), .val (.int (zq1_86 0)), .unset, .unset, .unset] [])) (fun t k => XS.istore X89.here hx rfl (Jvm.hb hby at_139) rfl (l' := #[.val (.int p1), .val (.int p2), .val (.int p3), .val (.int p4), .val (.ref b75), .val (.ref b79), .val (.int (1 : Int32)), .val (.int va), .val (.int vb), .val (.int (zq1_86 vak)), .val (.int (zq1_86 vbk)), .val (.int (zq1_86 0)), .unset, .unset, .unset]) rfl k) ?_
  refine own_go (B := T89.setTop (mkF m 143 #[.val (.int p1), .val (.int p2), .val (.int p3), .val (.int p4), .val (.ref b75), .val (.ref b79), .val (.int (1 : Int32)), .val (.int va), .val (.int vb), .val (.int (zq1_86 vak)), .val (.int (zq1_86 vbk)), .val (.int (zq1_86 0)), .unset, .unset, .unset] [(.ref b75)])) (fun t k => XS.aload X89.here hx rfl (Jvm.hb hby at_141) rfl rfl k) ?_
  refine own_go (B := T89.setTop (mkF m 144 #[.val (.int p1), .val (.int p2), .val (.int p3), .val (.int p4), .val (.ref b75), .val (.ref b79), .val (.int (1 : Int32)), .val (.int va), .val (.int vb), .val (.int (zq1_86 vak)), .val (.int (zq1_86 vbk)), .val (.int (zq1_86 0)), .unset, .unset, .unset] [(.int (1 : Int32)), (.ref b75)])) (fun t k => XS.iconst X89.here hx rfl (Jvm.hb hby at_143) k) ?_
  obtain ⟨nh144, hh144⟩ := own_HT_mk hI_89 (1 : Int32) 1 (by decide) (by decide)
  obtain ⟨cq90, kq90, q90a, q90b, q90c⟩ := isOf hZ rfl E_b75
  obtain ⟨_, _, ⟨T90, La90, ka90, na90⟩, -, X90, ⟨Lc90, hQ90, l90, y90, z90⟩, st90⟩ := X89.virtualBack hx (y := (⟨"com/example/term_unifier/termunifier/UnionFind", "find", "(I)I"⟩ : MethodName)) (z := (⟨"com/example/term_unifier/termunifier/UnionFind", "find", "(I)I"⟩ : MethodName)) hown (mvT hZ (own_w hw 35 rfl)) (mvT hZ (own_w hw 36 rfl)) (notFace_of_selects (args := #[]) (mvT hZ (own_w hw 38 rfl))) (mvT hZ (own_w hw 38 rfl)) (mvT hZ (own_w hw 37 rfl)) (by decide) (backOf (W := 0) (rm7 l Z a0 hw [] b75 (1 : Int32) b77 zg_89 zq1_86 (zq1_86 1) nh144 T89.heap n0 Zs E_b75 F_b75_parent F_b75_unions V_b77 g_b77 ne_b75_b77 hh144 (by rw [own_tn _ 1 (by decide)])) hZ (own_w hw 39 rfl) (own_w hw 2 rfl) (by decide) (by decide)) q90a q90c (g := (mkF m 144 #[.val (.int p1), .val (.int p2), .val (.int p3), .val (.int p4), .val (.ref b75), .val (.ref b79), .val (.int (1 : Int32)), .val (.int va), .val (.int vb), .val (.int (zq1_86 vak)), .val (.int (zq1_86 vbk)), .val (.int (zq1_86 0)), .unset, .unset, .unset] [(.int (1 : Int32)), (.ref b75)])) rfl (by rw [hml]; rfl) (Steps.refl _) (argsL := [(.int (1 : Int32))]) (rest := []) (lenOf pd_4 rfl) rfl (by show 2 * 0 + _ ≤ _; exact Nat.le_of_eq rfl) (Jvm.hb hby at_144) (fun _ _ => ⟨rfl, rfl, (by decide : 4 + 0 ≤ _), (by decide : 40 + 0 ≤ _)⟩)
  dsimp only [Pt.U, Pt.locs, Pt.cells, Pt.slots] at X90 l90 y90 z90 st90 hQ90
  subst l90 y90 z90
  obtain ⟨rfl, N90q, zg_90, -, hI_90, Kc90, E_b75_q, F_b75_parent_q, F_b75_unions_q, V_b77_q⟩ := hQ90
  have N90 := Fr.app N89 N90q
  have F_b75_ranks := F_b75_ranks.keep Kc90 (ninS ne_b75_b77 nin0)
  have F_b75_size := F_b75_size.keep Kc90 (ninS ne_b75_b77 nin0)
  have V_b78 := V_b78.keep Kc90 (ninS (Ne.symm ne_b77_b78) nin0)
  have V_b79 := V_b79.keep Kc90 (ninS (Ne.symm ne_b77_b79) nin0)
  have Zs := Nat.le_trans Zs Kc90.1
  have E_b75 := E_b75_q
  have F_b75_parent := F_b75_parent_q
  have F_b75_unions := F_b75_unions_q
  have V_b77 := V_b77_q
  refine own_go (B := T90.setTop (mkF m 147 #[.val (.int p1), .val (.int p2), .val (.int p3), .val (.int p4), .val (.ref b75), .val (.ref b79), .val (.int (1 : Int32)), .val (.int va), .val (.int vb), .val (.int (zq1_86 vak)), .val (.int (zq1_86 vbk)), .val (.int (zq1_86 0)), .unset, .unset, .unset] [(.int (zq1_86 1))])) (fun t k => own_st st90 k) ?_
  refine own_go (B := T90.setTop (mkF m 149 #[.val (.int p1), .val (.int p2), .val (.int p3), .val (.int p4), .val (.ref b75), .val (.ref b79), .val (.int (1 : Int32)), .val (.int va), .val (.int vb), .val (.int (zq1_86 vak)), .val (.int (zq1_86 vbk)), .val (.int (zq1_86 0)), .val (.int (zq1_86 1)), .unset, .unset] [])) (fun t k => XS.istore X90.here hx rfl (Jvm.hb hby at_147) rfl (l' := #[.val (.int p1), .val (.int p2), .val (.int p3), .val (.int p4), .val (.ref b75), .val (.ref b79), .val (.int (1 : Int32)), .val (.int va), .val (.int vb), .val (.int (zq1_86 vak)), .val (.int (zq1_86 vbk)), .val (.int (zq1_86 0)), .val (.int (zq1_86 1)), .unset, .unset]) rfl k) ?_
  refine own_go (B := T90.setTop (mkF m 151 #[.val (.int p1), .val (.int p2), .val (.int p3), .val (.int p4), .val (.ref b75), .val (.ref b79), .val (.int (1 : Int32)), .val (.int va), .val (.int vb), .val (.int (zq1_86 vak)), .val (.int (zq1_86 vbk)), .val (.int (zq1_86 0)), .val (.int (zq1_86 1)), .unset, .unset] [(.ref b75)])) (fun t k => XS.aload X90.here hx rfl (Jvm.hb hby at_149) rfl rfl k) ?_
  refine own_go (B := T90.setTop (mkF m 152 #[.val (.int p1), .val (.int p2), .val (.int p3), .val (.int p4), .val (.ref b75), .val (.ref b79), .val (.int (1 : Int32)), .val (.int va), .val (.int vb), .val (.int (zq1_86 vak)), .val (.int (zq1_86 vbk)), .val (.int (zq1_86 0)), .val (.int (zq1_86 1)), .unset, .unset] [(.int (2 : Int32)), (.ref b75)])) (fun t k => XS.iconst X90.here hx rfl (Jvm.hb hby at_151) k) ?_
  obtain ⟨nh152, hh152⟩ := own_HT_mk hI_90 (2 : Int32) 2 (by decide) (by decide)
  obtain ⟨cq91, kq91, q91a, q91b, q91c⟩ := isOf hZ rfl E_b75
  obtain ⟨_, _, ⟨T91, La91, ka91, na91⟩, -, X91, ⟨Lc91, hQ91, l91, y91, z91⟩, st91⟩ := X90.virtualBack hx (y := (⟨"com/example/term_unifier/termunifier/UnionFind", "find", "(I)I"⟩ : MethodName)) (z := (⟨"com/example/term_unifier/termunifier/UnionFind", "find", "(I)I"⟩ : MethodName)) hown (mvT hZ (own_w hw 35 rfl)) (mvT hZ (own_w hw 36 rfl)) (notFace_of_selects (args := #[]) (mvT hZ (own_w hw 38 rfl))) (mvT hZ (own_w hw 38 rfl)) (mvT hZ (own_w hw 37 rfl)) (by decide) (backOf (W := 0) (rm7 l Z a0 hw [] b75 (2 : Int32) b77 zg_90 zq1_86 (zq1_86 2) nh152 T90.heap n0 Zs E_b75 F_b75_parent F_b75_unions V_b77 g_b77 ne_b75_b77 hh152 (by rw [own_tn _ 2 (by decide)])) hZ (own_w hw 39 rfl) (own_w hw 2 rfl) (by decide) (by decide)) q91a q91c (g := (mkF m 152 #[.val (.int p1), .val (.int p2), .val (.int p3), .val (.int p4), .val (.ref b75), .val (.ref b79), .val (.int (1 : Int32)), .val (.int va), .val (.int vb), .val (.int (zq1_86 vak)), .val (.int (zq1_86 vbk)), .val (.int (zq1_86 0)), .val (.int (zq1_86 1)), .unset, .unset] [(.int (2 : Int32)), (.ref b75)])) rfl (by rw [hml]; rfl) (Steps.refl _) (argsL := [(.int (2 : Int32))]) (rest := []) (lenOf pd_4 rfl) rfl (by show 2 * 0 + _ ≤ _; exact Nat.le_of_eq rfl) (Jvm.hb hby at_152) (fun _ _ => ⟨rfl, rfl, (by decide : 4 + 0 ≤ _), (by decide : 40 + 0 ≤ _)⟩)
  dsimp only [Pt.U, Pt.locs, Pt.cells, Pt.slots] at X91 l91 y91 z91 st91 hQ91
  subst l91 y91 z91
  obtain ⟨rfl, N91q, zg_91, -, hI_91, Kc91, E_b75_q, F_b75_parent_q, F_b75_unions_q, V_b77_q⟩ := hQ91
  have N91 := Fr.app N90 N91q
  have F_b75_ranks := F_b75_ranks.keep Kc91 (ninS ne_b75_b77 nin0)
  have F_b75_size := F_b75_size.keep Kc91 (ninS ne_b75_b77 nin0)
  have V_b78 := V_b78.keep Kc91 (ninS (Ne.symm ne_b77_b78) nin0)
  have V_b79 := V_b79.keep Kc91 (ninS (Ne.symm ne_b77_b79) nin0)
  have Zs := Nat.le_trans Zs Kc91.1
  have E_b75 := E_b75_q
  have F_b75_parent := F_b75_parent_q
  have F_b75_unions := F_b75_unions_q
  have V_b77 := V_b77_q
  refine own_go (B := T91.setTop (mkF m 155 #[.val (.int p1), .val (.int p2), .val (.int p3), .val (.int p4), .val (.ref b75), .val (.ref b79), .val (.int (1 : Int32)), .val (.int va), .val (.int vb), .val (.int (zq1_86 vak)), .val (.int (zq1_86 vbk)), .val (.int (zq1_86 0)), .val (.int (zq1_86 1)), .unset, .unset] [(.int (zq1_86 2))])) (fun t k => own_st st91 k) ?_
  refine own_go (B := T91.setTop (mkF m 157 #[.val (.int p1), .val (.int p2), .val (.int p3), .val (.int p4), .val (.ref b75), .val (.ref b79), .val (.int (1 : Int32)), .val (.int va), .val (.int vb), .val (.int (zq1_86 vak)), .val (.int (zq1_86 vbk)), .val (.int (zq1_86 0)), .val (.int (zq1_86 1)), .val (.int (zq1_86 2)), .unset] [])) (fun t k => XS.istore X91.here hx rfl (Jvm.hb hby at_155) rfl (l' := #[.val (.int p1), .val (.int p2), .val (.int p3), .val (.int p4), .val (.ref b75), .val (.ref b79), .val (.int (1 : Int32)), .val (.int va), .val (.int vb), .val (.int (zq1_86 vak)), .val (.int (zq1_86 vbk)), .val (.int (zq1_86 0)), .val (.int (zq1_86 1)), .val (.int (zq1_86 2)), .unset]) rfl k) ?_
  refine own_go (B := T91.setTop (mkF m 159 #[.val (.int p1), .val (.int p2), .val (.int p3), .val (.int p4), .val (.ref b75), .val (.ref b79), .val (.int (1 : Int32)), .val (.int va), .val (.int vb), .val (.int (zq1_86 vak)), .val (.int (zq1_86 vbk)), .val (.int (zq1_86 0)), .val (.int (zq1_86 1)), .val (.int (zq1_86 2)), .unset] [(.ref b75)])) (fun t k => XS.aload X91.here hx rfl (Jvm.hb hby at_157) rfl rfl k) ?_
  refine own_go (B := T91.setTop (mkF m 160 #[.val (.int p1), .val (.int p2), .val (.int p3), .val (.int p4), .val (.ref b75), .val (.ref b79), .val (.int (1 : Int32)), .val (.int va), .val (.int vb), .val (.int (zq1_86 vak)), .val (.int (zq1_86 vbk)), .val (.int (zq1_86 0)), .val (.int (zq1_86 1)), .val (.int (zq1_86 2)), .unset] [(.int (3 : Int32)), (.ref b75)])) (fun t k => XS.iconst X91.here hx rfl (Jvm.hb hby at_159) k) ?_
  obtain ⟨nh160, hh160⟩ := own_HT_mk hI_91 (3 : Int32) 3 (by decide) (by decide)
  obtain ⟨cq92, kq92, q92a, q92b, q92c⟩ := isOf hZ rfl E_b75
  obtain ⟨_, _, ⟨T92, La92, ka92, na92⟩, -, X92, ⟨Lc92, hQ92, l92, y92, z92⟩, st92⟩ := X91.virtualBack hx (y := (⟨"com/example/term_unifier/termunifier/UnionFind", "find", "(I)I"⟩ : MethodName)) (z := (⟨"com/example/term_unifier/termunifier/UnionFind", "find", "(I)I"⟩ : MethodName)) hown (mvT hZ (own_w hw 35 rfl)) (mvT hZ (own_w hw 36 rfl)) (notFace_of_selects (args := #[]) (mvT hZ (own_w hw 38 rfl))) (mvT hZ (own_w hw 38 rfl)) (mvT hZ (own_w hw 37 rfl)) (by decide) (backOf (W := 0) (rm7 l Z a0 hw [] b75 (3 : Int32) b77 zg_91 zq1_86 (zq1_86 3) nh160 T91.heap n0 Zs E_b75 F_b75_parent F_b75_unions V_b77 g_b77 ne_b75_b77 hh160 (by rw [own_tn _ 3 (by decide)])) hZ (own_w hw 39 rfl) (own_w hw 2 rfl) (by decide) (by decide)) q92a q92c (g := (mkF m 160 #[.val (.int p1), .val (.int p2), .val (.int p3), .val (.int p4), .val (.ref b75), .val (.ref b79), .val (.int (1 : Int32)), .val (.int va), .val (.int vb), .val (.int (zq1_86 vak)), .val (.int (zq1_86 vbk)), .val (.int (zq1_86 0)), .val (.int (zq1_86 1)), .val (.int (zq1_86 2)), .unset] [(.int (3 : Int32)), (.ref b75)])) rfl (by rw [hml]; rfl) (Steps.refl _) (argsL := [(.int (3 : Int32))]) (rest := []) (lenOf pd_4 rfl) rfl (by show 2 * 0 + _ ≤ _; exact Nat.le_of_eq rfl) (Jvm.hb hby at_160) (fun _ _ => ⟨rfl, rfl, (by decide : 4 + 0 ≤ _), (by decide : 40 + 0 ≤ _)⟩)
  dsimp only [Pt.U, Pt.locs, Pt.cells, Pt.slots] at X92 l92 y92 z92 st92 hQ92
  subst l92 y92 z92
  obtain ⟨rfl, N92q, zg_92, -, hI_92, Kc92, E_b75_q, F_b75_parent_q, F_b75_unions_q, V_b77_q⟩ := hQ92
  have N92 := Fr.app N91 N92q
  have F_b75_ranks := F_b75_ranks.keep Kc92 (ninS ne_b75_b77 nin0)
  have F_b75_size := F_b75_size.keep Kc92 (ninS ne_b75_b77 nin0)
  have V_b78 := V_b78.keep Kc92 (ninS (Ne.symm ne_b77_b78) nin0)
  have V_b79 := V_b79.keep Kc92 (ninS (Ne.symm ne_b77_b79) nin0)
  have Zs := Nat.le_trans Zs Kc92.1
  have E_b75 := E_b75_q
  have F_b75_parent := F_b75_parent_q
  have F_b75_unions := F_b75_unions_q
  have V_b77 := V_b77_q
  refine own_go (B := T92.setTop (mkF m 163 #[.val (.int p1), .val (.int p2), .val (.int p3), .val (.int p4), .val (.ref b75), .val (.ref b79), .val (.int (1 : Int32)), .val (.int va), .val (.int vb), .val (.int (zq1_86 vak)), .val (.int (zq1_86 vbk)), .val (.int (zq1_86 0)), .val (.int (zq1_86 1)), .val (.int (zq1_86 2)), .unset] [(.int (zq1_86 3))])) (fun t k => own_st st92 k) ?_
  refine own_go (B := T92.setTop (mkF m 165 #[.val (.int p1), .val (.int p2), .val (.int p3), .val (.int p4), .val (.ref b75), .val (.ref b79), .val (.int (1 : Int32)), .val (.int va), .val (.int vb), .val (.int (zq1_86 vak)), .val (.int (zq1_86 vbk)), .val (.int (zq1_86 0)), .val (.int (zq1_86 1)), .val (.int (zq1_86 2)), .val (.int (zq1_86 3))] [])) (fun t k => XS.istore X92.here hx rfl (Jvm.hb hby at_163) rfl (l' := #[.val (.int p1), .val (.int p2), .val (.int p3), .val (.int p4), .val (.ref b75), .val (.ref b79), .val (.int (1 : Int32)), .val (.int va), .val (.int vb), .val (.int (zq1_86 vak)), .val (.int (zq1_86 vbk)), .val (.int (zq1_86 0)), .val (.int (zq1_86 1)), .val (.int (zq1_86 2)), .val (.int (zq1_86 3))]) rfl k) ?_
  refine own_go (B := T92.setTop (mkF m 167 #[.val (.int p1), .val (.int p2), .val (.int p3), .val (.int p4), .val (.ref b75), .val (.ref b79), .val (.int (1 : Int32)), .val (.int va), .val (.int vb), .val (.int (zq1_86 vak)), .val (.int (zq1_86 vbk)), .val (.int (zq1_86 0)), .val (.int (zq1_86 1)), .val (.int (zq1_86 2)), .val (.int (zq1_86 3))] [(.int (1 : Int32))])) (fun t k => XS.iload X92.here hx rfl (Jvm.hb hby at_165) rfl k) ?_
  refine own_go (B := T92.setTop (mkF m 170 #[.val (.int p1), .val (.int p2), .val (.int p3), .val (.int p4), .val (.ref b75), .val (.ref b79), .val (.int (1 : Int32)), .val (.int va), .val (.int vb), .val (.int (zq1_86 vak)), .val (.int (zq1_86 vbk)), .val (.int (zq1_86 0)), .val (.int (zq1_86 1)), .val (.int (zq1_86 2)), .val (.int (zq1_86 3))] [])) (fun t k => XS.ifNo X92.here hx rfl (Jvm.hb hby at_167) rfl ((if0 _ _).trans (feq (by decide : ¬ ((1 : Int32) = (0 : Int32)))).1) k) ?_
  refine own_go (B := T92.setTop (mkF m 172 #[.val (.int p1), .val (.int p2), .val (.int p3), .val (.int p4), .val (.ref b75), .val (.ref b79), .val (.int (1 : Int32)), .val (.int va), .val (.int vb), .val (.int (zq1_86 vak)), .val (.int (zq1_86 vbk)), .val (.int (zq1_86 0)), .val (.int (zq1_86 1)), .val (.int (zq1_86 2)), .val (.int (zq1_86 3))] [(.int (zq1_86 vak))])) (fun t k => XS.iload X92.here hx rfl (Jvm.hb hby at_170) rfl k) ?_
  refine own_go (B := T92.setTop (mkF m 174 #[.val (.int p1), .val (.int p2), .val (.int p3), .val (.int p4), .val (.ref b75), .val (.ref b79), .val (.int (1 : Int32)), .val (.int va), .val (.int vb), .val (.int (zq1_86 vak)), .val (.int (zq1_86 vbk)), .val (.int (zq1_86 0)), .val (.int (zq1_86 1)), .val (.int (zq1_86 2)), .val (.int (zq1_86 3))] [(.ref b79), (.int (zq1_86 vak))])) (fun t k => XS.aload X92.here hx rfl (Jvm.hb hby at_172) rfl rfl k) ?_
  refine own_go (B := T92.setTop (mkF m 176 #[.val (.int p1), .val (.int p2), .val (.int p3), .val (.int p4), .val (.ref b75), .val (.ref b79), .val (.int (1 : Int32)), .val (.int va), .val (.int vb), .val (.int (zq1_86 vak)), .val (.int (zq1_86 vbk)), .val (.int (zq1_86 0)), .val (.int (zq1_86 1)), .val (.int (zq1_86 2)), .val (.int (zq1_86 3))] [(.int va), (.ref b79), (.int (zq1_86 vak))])) (fun t k => XS.iload X92.here hx rfl (Jvm.hb hby at_174) rfl k) ?_
  refine own_go (B := T92.setTop (mkF m 177 #[.val (.int p1), .val (.int p2), .val (.int p3), .val (.int p4), .val (.ref b75), .val (.ref b79), .val (.int (1 : Int32)), .val (.int va), .val (.int vb), .val (.int (zq1_86 vak)), .val (.int (zq1_86 vbk)), .val (.int (zq1_86 0)), .val (.int (zq1_86 1)), .val (.int (zq1_86 2)), .val (.int (zq1_86 3))] [(.int (zq1_86 vak)), (.int (zq1_86 vak))])) (fun t k => own_iaload X92 hx hZ rfl V_b79 (j := va) (k := vak) (by rw [own_nn]; omega) (own_tn _ _ hak.1) hak.2 (Jvm.hb hby at_176) t k) ?_
  refine own_go (B := T92.setTop (mkF m 180 #[.val (.int p1), .val (.int p2), .val (.int p3), .val (.int p4), .val (.ref b75), .val (.ref b79), .val (.int (1 : Int32)), .val (.int va), .val (.int vb), .val (.int (zq1_86 vak)), .val (.int (zq1_86 vbk)), .val (.int (zq1_86 0)), .val (.int (zq1_86 1)), .val (.int (zq1_86 2)), .val (.int (zq1_86 3))] [])) (fun t k => XS.icmpNo X92.here hx rfl (Jvm.hb hby at_177) rfl (teq (rfl : (zq1_86 vak) = (zq1_86 vak))).2 k) ?_
  refine own_go (B := T92.setTop (mkF m 182 #[.val (.int p1), .val (.int p2), .val (.int p3), .val (.int p4), .val (.ref b75), .val (.ref b79), .val (.int (1 : Int32)), .val (.int va), .val (.int vb), .val (.int (zq1_86 vak)), .val (.int (zq1_86 vbk)), .val (.int (zq1_86 0)), .val (.int (zq1_86 1)), .val (.int (zq1_86 2)), .val (.int (zq1_86 3))] [(.int (zq1_86 vbk))])) (fun t k => XS.iload X92.here hx rfl (Jvm.hb hby at_180) rfl k) ?_
  refine own_go (B := T92.setTop (mkF m 184 #[.val (.int p1), .val (.int p2), .val (.int p3), .val (.int p4), .val (.ref b75), .val (.ref b79), .val (.int (1 : Int32)), .val (.int va), .val (.int vb), .val (.int (zq1_86 vak)), .val (.int (zq1_86 vbk)), .val (.int (zq1_86 0)), .val (.int (zq1_86 1)), .val (.int (zq1_86 2)), .val (.int (zq1_86 3))] [(.ref b79), (.int (zq1_86 vbk))])) (fun t k => XS.aload X92.here hx rfl (Jvm.hb hby at_182) rfl rfl k) ?_
  refine own_go (B := T92.setTop (mkF m 186 #[.val (.int p1), .val (.int p2), .val (.int p3), .val (.int p4), .val (.ref b75), .val (.ref b79), .val (.int (1 : Int32)), .val (.int va), .val (.int vb), .val (.int (zq1_86 vak)), .val (.int (zq1_86 vbk)), .val (.int (zq1_86 0)), .val (.int (zq1_86 1)), .val (.int (zq1_86 2)), .val (.int (zq1_86 3))] [(.int vb), (.ref b79), (.int (zq1_86 vbk))])) (fun t k => XS.iload X92.here hx rfl (Jvm.hb hby at_184) rfl k) ?_
  refine own_go (B := T92.setTop (mkF m 187 #[.val (.int p1), .val (.int p2), .val (.int p3), .val (.int p4), .val (.ref b75), .val (.ref b79), .val (.int (1 : Int32)), .val (.int va), .val (.int vb), .val (.int (zq1_86 vak)), .val (.int (zq1_86 vbk)), .val (.int (zq1_86 0)), .val (.int (zq1_86 1)), .val (.int (zq1_86 2)), .val (.int (zq1_86 3))] [(.int (zq1_86 vbk)), (.int (zq1_86 vbk))])) (fun t k => own_iaload X92 hx hZ rfl V_b79 (j := vb) (k := vbk) (by rw [own_nn]; omega) (own_tn _ _ hbk.1) hbk.2 (Jvm.hb hby at_186) t k) ?_
  refine own_go (B := T92.setTop (mkF m 190 #[.val (.int p1), .val (.int p2), .val (.int p3), .val (.int p4), .val (.ref b75), .val (.ref b79), .val (.int (1 : Int32)), .val (.int va), .val (.int vb), .val (.int (zq1_86 vak)), .val (.int (zq1_86 vbk)), .val (.int (zq1_86 0)), .val (.int (zq1_86 1)), .val (.int (zq1_86 2)), .val (.int (zq1_86 3))] [])) (fun t k => XS.icmpNo X92.here hx rfl (Jvm.hb hby at_187) rfl (teq (rfl : (zq1_86 vbk) = (zq1_86 vbk))).2 k) ?_
  refine own_go (B := T92.setTop (mkF m 192 #[.val (.int p1), .val (.int p2), .val (.int p3), .val (.int p4), .val (.ref b75), .val (.ref b79), .val (.int (1 : Int32)), .val (.int va), .val (.int vb), .val (.int (zq1_86 vak)), .val (.int (zq1_86 vbk)), .val (.int (zq1_86 0)), .val (.int (zq1_86 1)), .val (.int (zq1_86 2)), .val (.int (zq1_86 3))] [(.int (zq1_86 0))])) (fun t k => XS.iload X92.here hx rfl (Jvm.hb hby at_190) rfl k) ?_
  refine own_go (B := T92.setTop (mkF m 194 #[.val (.int p1), .val (.int p2), .val (.int p3), .val (.int p4), .val (.ref b75), .val (.ref b79), .val (.int (1 : Int32)), .val (.int va), .val (.int vb), .val (.int (zq1_86 vak)), .val (.int (zq1_86 vbk)), .val (.int (zq1_86 0)), .val (.int (zq1_86 1)), .val (.int (zq1_86 2)), .val (.int (zq1_86 3))] [(.ref b79), (.int (zq1_86 0))])) (fun t k => XS.aload X92.here hx rfl (Jvm.hb hby at_192) rfl rfl k) ?_
  refine own_go (B := T92.setTop (mkF m 195 #[.val (.int p1), .val (.int p2), .val (.int p3), .val (.int p4), .val (.ref b75), .val (.ref b79), .val (.int (1 : Int32)), .val (.int va), .val (.int vb), .val (.int (zq1_86 vak)), .val (.int (zq1_86 vbk)), .val (.int (zq1_86 0)), .val (.int (zq1_86 1)), .val (.int (zq1_86 2)), .val (.int (zq1_86 3))] [(.int (0 : Int32)), (.ref b79), (.int (zq1_86 0))])) (fun t k => XS.iconst X92.here hx rfl (Jvm.hb hby at_194) k) ?_
  refine own_go (B := T92.setTop (mkF m 196 #[.val (.int p1), .val (.int p2), .val (.int p3), .val (.int p4), .val (.ref b75), .val (.ref b79), .val (.int (1 : Int32)), .val (.int va), .val (.int vb), .val (.int (zq1_86 vak)), .val (.int (zq1_86 vbk)), .val (.int (zq1_86 0)), .val (.int (zq1_86 1)), .val (.int (zq1_86 2)), .val (.int (zq1_86 3))] [(.int (zq1_86 0)), (.int (zq1_86 0))])) (fun t k => own_iaload X92 hx hZ rfl V_b79 (j := (0 : Int32)) (k := 0) (by decide) (by decide) (by decide) (Jvm.hb hby at_195) t k) ?_
  refine own_go (B := T92.setTop (mkF m 199 #[.val (.int p1), .val (.int p2), .val (.int p3), .val (.int p4), .val (.ref b75), .val (.ref b79), .val (.int (1 : Int32)), .val (.int va), .val (.int vb), .val (.int (zq1_86 vak)), .val (.int (zq1_86 vbk)), .val (.int (zq1_86 0)), .val (.int (zq1_86 1)), .val (.int (zq1_86 2)), .val (.int (zq1_86 3))] [])) (fun t k => XS.icmpNo X92.here hx rfl (Jvm.hb hby at_196) rfl (teq (rfl : (zq1_86 0) = (zq1_86 0))).2 k) ?_
  refine own_go (B := T92.setTop (mkF m 201 #[.val (.int p1), .val (.int p2), .val (.int p3), .val (.int p4), .val (.ref b75), .val (.ref b79), .val (.int (1 : Int32)), .val (.int va), .val (.int vb), .val (.int (zq1_86 vak)), .val (.int (zq1_86 vbk)), .val (.int (zq1_86 0)), .val (.int (zq1_86 1)), .val (.int (zq1_86 2)), .val (.int (zq1_86 3))] [(.int (zq1_86 1))])) (fun t k => XS.iload X92.here hx rfl (Jvm.hb hby at_199) rfl k) ?_
  refine own_go (B := T92.setTop (mkF m 203 #[.val (.int p1), .val (.int p2), .val (.int p3), .val (.int p4), .val (.ref b75), .val (.ref b79), .val (.int (1 : Int32)), .val (.int va), .val (.int vb), .val (.int (zq1_86 vak)), .val (.int (zq1_86 vbk)), .val (.int (zq1_86 0)), .val (.int (zq1_86 1)), .val (.int (zq1_86 2)), .val (.int (zq1_86 3))] [(.ref b79), (.int (zq1_86 1))])) (fun t k => XS.aload X92.here hx rfl (Jvm.hb hby at_201) rfl rfl k) ?_
  refine own_go (B := T92.setTop (mkF m 204 #[.val (.int p1), .val (.int p2), .val (.int p3), .val (.int p4), .val (.ref b75), .val (.ref b79), .val (.int (1 : Int32)), .val (.int va), .val (.int vb), .val (.int (zq1_86 vak)), .val (.int (zq1_86 vbk)), .val (.int (zq1_86 0)), .val (.int (zq1_86 1)), .val (.int (zq1_86 2)), .val (.int (zq1_86 3))] [(.int (1 : Int32)), (.ref b79), (.int (zq1_86 1))])) (fun t k => XS.iconst X92.here hx rfl (Jvm.hb hby at_203) k) ?_
  refine own_go (B := T92.setTop (mkF m 205 #[.val (.int p1), .val (.int p2), .val (.int p3), .val (.int p4), .val (.ref b75), .val (.ref b79), .val (.int (1 : Int32)), .val (.int va), .val (.int vb), .val (.int (zq1_86 vak)), .val (.int (zq1_86 vbk)), .val (.int (zq1_86 0)), .val (.int (zq1_86 1)), .val (.int (zq1_86 2)), .val (.int (zq1_86 3))] [(.int (zq1_86 1)), (.int (zq1_86 1))])) (fun t k => own_iaload X92 hx hZ rfl V_b79 (j := (1 : Int32)) (k := 1) (by decide) (by decide) (by decide) (Jvm.hb hby at_204) t k) ?_
  refine own_go (B := T92.setTop (mkF m 208 #[.val (.int p1), .val (.int p2), .val (.int p3), .val (.int p4), .val (.ref b75), .val (.ref b79), .val (.int (1 : Int32)), .val (.int va), .val (.int vb), .val (.int (zq1_86 vak)), .val (.int (zq1_86 vbk)), .val (.int (zq1_86 0)), .val (.int (zq1_86 1)), .val (.int (zq1_86 2)), .val (.int (zq1_86 3))] [])) (fun t k => XS.icmpNo X92.here hx rfl (Jvm.hb hby at_205) rfl (teq (rfl : (zq1_86 1) = (zq1_86 1))).2 k) ?_
  refine own_go (B := T92.setTop (mkF m 210 #[.val (.int p1), .val (.int p2), .val (.int p3), .val (.int p4), .val (.ref b75), .val (.ref b79), .val (.int (1 : Int32)), .val (.int va), .val (.int vb), .val (.int (zq1_86 vak)), .val (.int (zq1_86 vbk)), .val (.int (zq1_86 0)), .val (.int (zq1_86 1)), .val (.int (zq1_86 2)), .val (.int (zq1_86 3))] [(.int (zq1_86 2))])) (fun t k => XS.iload X92.here hx rfl (Jvm.hb hby at_208) rfl k) ?_
  refine own_go (B := T92.setTop (mkF m 212 #[.val (.int p1), .val (.int p2), .val (.int p3), .val (.int p4), .val (.ref b75), .val (.ref b79), .val (.int (1 : Int32)), .val (.int va), .val (.int vb), .val (.int (zq1_86 vak)), .val (.int (zq1_86 vbk)), .val (.int (zq1_86 0)), .val (.int (zq1_86 1)), .val (.int (zq1_86 2)), .val (.int (zq1_86 3))] [(.ref b79), (.int (zq1_86 2))])) (fun t k => XS.aload X92.here hx rfl (Jvm.hb hby at_210) rfl rfl k) ?_
  refine own_go (B := T92.setTop (mkF m 213 #[.val (.int p1), .val (.int p2), .val (.int p3), .val (.int p4), .val (.ref b75), .val (.ref b79), .val (.int (1 : Int32)), .val (.int va), .val (.int vb), .val (.int (zq1_86 vak)), .val (.int (zq1_86 vbk)), .val (.int (zq1_86 0)), .val (.int (zq1_86 1)), .val (.int (zq1_86 2)), .val (.int (zq1_86 3))] [(.int (2 : Int32)), (.ref b79), (.int (zq1_86 2))])) (fun t k => XS.iconst X92.here hx rfl (Jvm.hb hby at_212) k) ?_
  refine own_go (B := T92.setTop (mkF m 214 #[.val (.int p1), .val (.int p2), .val (.int p3), .val (.int p4), .val (.ref b75), .val (.ref b79), .val (.int (1 : Int32)), .val (.int va), .val (.int vb), .val (.int (zq1_86 vak)), .val (.int (zq1_86 vbk)), .val (.int (zq1_86 0)), .val (.int (zq1_86 1)), .val (.int (zq1_86 2)), .val (.int (zq1_86 3))] [(.int (zq1_86 2)), (.int (zq1_86 2))])) (fun t k => own_iaload X92 hx hZ rfl V_b79 (j := (2 : Int32)) (k := 2) (by decide) (by decide) (by decide) (Jvm.hb hby at_213) t k) ?_
  refine own_go (B := T92.setTop (mkF m 217 #[.val (.int p1), .val (.int p2), .val (.int p3), .val (.int p4), .val (.ref b75), .val (.ref b79), .val (.int (1 : Int32)), .val (.int va), .val (.int vb), .val (.int (zq1_86 vak)), .val (.int (zq1_86 vbk)), .val (.int (zq1_86 0)), .val (.int (zq1_86 1)), .val (.int (zq1_86 2)), .val (.int (zq1_86 3))] [])) (fun t k => XS.icmpNo X92.here hx rfl (Jvm.hb hby at_214) rfl (teq (rfl : (zq1_86 2) = (zq1_86 2))).2 k) ?_
  refine own_go (B := T92.setTop (mkF m 219 #[.val (.int p1), .val (.int p2), .val (.int p3), .val (.int p4), .val (.ref b75), .val (.ref b79), .val (.int (1 : Int32)), .val (.int va), .val (.int vb), .val (.int (zq1_86 vak)), .val (.int (zq1_86 vbk)), .val (.int (zq1_86 0)), .val (.int (zq1_86 1)), .val (.int (zq1_86 2)), .val (.int (zq1_86 3))] [(.int (zq1_86 3))])) (fun t k => XS.iload X92.here hx rfl (Jvm.hb hby at_217) rfl k) ?_
  refine own_go (B := T92.setTop (mkF m 221 #[.val (.int p1), .val (.int p2), .val (.int p3), .val (.int p4), .val (.ref b75), .val (.ref b79), .val (.int (1 : Int32)), .val (.int va), .val (.int vb), .val (.int (zq1_86 vak)), .val (.int (zq1_86 vbk)), .val (.int (zq1_86 0)), .val (.int (zq1_86 1)), .val (.int (zq1_86 2)), .val (.int (zq1_86 3))] [(.ref b79), (.int (zq1_86 3))])) (fun t k => XS.aload X92.here hx rfl (Jvm.hb hby at_219) rfl rfl k) ?_
  refine own_go (B := T92.setTop (mkF m 222 #[.val (.int p1), .val (.int p2), .val (.int p3), .val (.int p4), .val (.ref b75), .val (.ref b79), .val (.int (1 : Int32)), .val (.int va), .val (.int vb), .val (.int (zq1_86 vak)), .val (.int (zq1_86 vbk)), .val (.int (zq1_86 0)), .val (.int (zq1_86 1)), .val (.int (zq1_86 2)), .val (.int (zq1_86 3))] [(.int (3 : Int32)), (.ref b79), (.int (zq1_86 3))])) (fun t k => XS.iconst X92.here hx rfl (Jvm.hb hby at_221) k) ?_
  refine own_go (B := T92.setTop (mkF m 223 #[.val (.int p1), .val (.int p2), .val (.int p3), .val (.int p4), .val (.ref b75), .val (.ref b79), .val (.int (1 : Int32)), .val (.int va), .val (.int vb), .val (.int (zq1_86 vak)), .val (.int (zq1_86 vbk)), .val (.int (zq1_86 0)), .val (.int (zq1_86 1)), .val (.int (zq1_86 2)), .val (.int (zq1_86 3))] [(.int (zq1_86 3)), (.int (zq1_86 3))])) (fun t k => own_iaload X92 hx hZ rfl V_b79 (j := (3 : Int32)) (k := 3) (by decide) (by decide) (by decide) (Jvm.hb hby at_222) t k) ?_
  refine own_go (B := T92.setTop (mkF m 226 #[.val (.int p1), .val (.int p2), .val (.int p3), .val (.int p4), .val (.ref b75), .val (.ref b79), .val (.int (1 : Int32)), .val (.int va), .val (.int vb), .val (.int (zq1_86 vak)), .val (.int (zq1_86 vbk)), .val (.int (zq1_86 0)), .val (.int (zq1_86 1)), .val (.int (zq1_86 2)), .val (.int (zq1_86 3))] [])) (fun t k => XS.icmpNo X92.here hx rfl (Jvm.hb hby at_223) rfl (teq (rfl : (zq1_86 3) = (zq1_86 3))).2 k) ?_
  refine own_go (B := T92.setTop (mkF m 227 #[.val (.int p1), .val (.int p2), .val (.int p3), .val (.int p4), .val (.ref b75), .val (.ref b79), .val (.int (1 : Int32)), .val (.int va), .val (.int vb), .val (.int (zq1_86 vak)), .val (.int (zq1_86 vbk)), .val (.int (zq1_86 0)), .val (.int (zq1_86 1)), .val (.int (zq1_86 2)), .val (.int (zq1_86 3))] [(.int (1 : Int32))])) (fun t k => XS.iconst X92.here hx rfl (Jvm.hb hby at_226) k) ?_
  refine own_go (B := T92.setTop (mkF m 231 #[.val (.int p1), .val (.int p2), .val (.int p3), .val (.int p4), .val (.ref b75), .val (.ref b79), .val (.int (1 : Int32)), .val (.int va), .val (.int vb), .val (.int (zq1_86 vak)), .val (.int (zq1_86 vbk)), .val (.int (zq1_86 0)), .val (.int (zq1_86 1)), .val (.int (zq1_86 2)), .val (.int (zq1_86 3))] [(.int (1 : Int32))])) (fun t k => XS.goto X92.here hx rfl (pc0 := 227) (pc' := 231) rfl (Jvm.hb hby at_227) (by decide) (by decide) k) ?_
  refine own_out X92 (v := (some (.int (1 : Int32)))) (fun h => by rw [Bd.returns] at h; cases h) Bd.notSynchronized (fun fs hr => retOut X92 hx (t := .boolean) Bd.returns rfl (by first | exact Or.inl ⟨rfl, by simp, _, rfl⟩) (Jvm.hb hby at_231) hr) ?_ (by decide) (by decide)
  show own_Q0 Z p1 p2 p3 p4 h0 n0 (some (.int (1 : Int32))) T92.heap _
  exact ⟨rfl, N92⟩
set_option maxRecDepth 65536 in
set_option maxHeartbeats 40000000 in
theorem comes_1 {Post : Tables → Env → Array Value → State → Outcome → State → Prop} (hpost : ∀ tb e args s v u, (limb_1_1.after args s (.returned v) u = true ∧ limb_1_2.after args s (.returned v) u = true ∧ True) → FrameEnd s (.returned v) u (Jvm.fieldLocs frame_1_writes args s ++ Jvm.arrayLocs frame_1_arrays args s ++ Jvm.staticLocs frame_1_statics s) 16 192 → Post tb e args s (.returned v) u) :
    ArmFor flags0 classFile x code maxLocals ret World_1 tables_1 room_1 Calls_1 rest_1 Pre_1 Post := by
  intro l hfl _ _ p e ha hc hk s m args below hf hA hF happ hP
  obtain ⟨hcalls, hrest, hpre⟩ := hP
  obtain ⟨-, -, -, hnamed, -, -, -, hat⟩ := (Spec.applies_iff hf).mp happ
  obtain ⟨hg, hn⟩ := and_e (Cond.before_iff.mp (show (Jvm.Cond.and given_1 narrow_1).before args s = true from hpre))
  obtain ⟨g1a, g1b⟩ := and_e hg
  obtain ⟨g2a, g2b⟩ := and_e g1b
  obtain ⟨g3a, g3b⟩ := and_e g2b
  obtain ⟨g4a, g4b⟩ := and_e g3b
  obtain ⟨w0, w1, w2, w3, rfl⟩ : ∃ w0 w1 w2 w3 : Value, args = #[w0, w1, w2, w3] := by
    have hs : args.size = 4 := by simpa [Cond.value, given_1] using g1a
    obtain ⟨L⟩ := args
    match L, hs with
    | [w0, w1, w2, w3], _ => exact ⟨w0, w1, w2, w3, rfl⟩
  have hw := fun d (hd : d ∈ tables_1) => atoms_spec (ws := Jvm.Cond.code x code maxLocals ret :: tables_1) hat d (List.mem_cons_of_mem _ hd)
  obtain ⟨i0, ei0⟩ := is_v g2a
  obtain rfl : w0 = (.int i0) := Option.some.inj ei0
  obtain ⟨i1, ei1⟩ := is_v g3a
  obtain rfl : w1 = (.int i1) := Option.some.inj ei1
  obtain ⟨i2, ei2⟩ := is_v g4a
  obtain rfl : w2 = (.int i2) := Option.some.inj ei2
  obtain ⟨i3, ei3⟩ := is_v g4b
  obtain rfl : w3 = (.int i3) := Option.some.inj ei3
  obtain ⟨n, o, h1, h2, h3, _, L, rfl, ⟨rfl, N⟩, hq⟩ := rm0 l s _ hw tables_1 i0 i1 i2 i3 s.heap s.heap.size (Nat.le_refl _) p e ha hc hk s m _ below hf ((Spec.applies_iff_loose hf).mp happ).1 ⟨rfl, State.Warmed39.refl s, rfl⟩ trivial
  refine ⟨n, _, h1, h2, h3, hpost _ _ _ _ _ _ ⟨Cond.after_iff.mpr rfl, Cond.after_iff.mpr (eq_i res_at (Term.int_eval (1)) rfl), trivial⟩ ⟨hq.1, hq.2.1, (hq.2.2.sift fun y hy => Or.inr (N y hy)).mono (by decide) (by decide)⟩⟩
theorem main_1_1 : Claimed_1_1 := comes_1 fun _ _ _ _ _ _ h hF => ⟨h.1, hF⟩
theorem main_1_2 : Claimed_1_2 := comes_1 fun _ _ _ _ _ _ h hF => ⟨h.2.1, hF⟩
end Jvm.Pilot.@@N@@
namespace Jvm.Pilot.@@N@@
open Jvm Jvm.ClassFile Sem Op Lib Jvm.Free Jvm.Stand Jvm.Pilot.@@N@@.Jvm.D
/-! MADE BY PROGRAM (witnessworld.py) out of the Statement's table words and the real class files: 10 classes; the members and pool entries that the words name. The judged class is class 1, her method 1. -/
namespace start1
open Jvm.ClassFile
def u (s : String) : CpInfo := .utf8 (stringToUtf16 s)
/-- a pool by its gaps: so many unusable entries, then the entry; so many at the end -/
def gap : Nat → List CpInfo → List CpInfo
  | 0, r => r
  | n + 1, r => .unusable :: gap n r
def poolList (es : List (Nat × CpInfo)) (last : Nat) : List CpInfo := es.foldr (fun e r => gap e.1 (e.2 :: r)) (gap last [])
def pool (es : List (Nat × CpInfo)) (last : Nat) : Array CpInfo := ⟨poolList es last⟩
def fileOf (pool : Array CpInfo) (this : Nat) (attrs : Array Attribute := #[]) (ms : Array MethodInfo := #[]) (fl : Nat := 33) (sup : Nat := 0) (ifs : Array Nat := #[]) (fds : Array FieldInfo := #[]) : ClassFile where
  minorVersion := 0
  majorVersion := 65
  constantPool := pool
  accessFlags := fl
  thisClass := this
  superClass := sup
  interfaces := ifs
  fields := fds
  methods := ms
  attributes := attrs
def plain (name : String) (sup : Option ClassId) : Class where
  name := name
  kind := .ordinary
  loader := none
  accessFlags := 33
  super := sup
  interfaces := #[]
  cf := none
  fields := #[]
  methods := #[]
  instanceTypes := #[]
  staticTypes := #[]
  resolved := #[]
  callSites := []
  init := .initialized
  statics := none
  mirror := none

def pool0 : Array CpInfo := pool [(5, u "<init>"), (0, u "()V"), (1, .class_ 10), (1, u "java/lang/Object")] 113

def k0c0 : Code := { maxStack := 0, maxLocals := 1, code := object_method_1_code, exceptionTable := #[], attributes := #[] }
def k0m0 : Method := { name := "<init>", desc := "()V", sig := { parameters := [], returnType := none }, accessFlags := 1, code := some k0c0 }
/-- java/lang/Object -/
def k0 : Class := { plain "java/lang/Object" none with
  accessFlags := 33
  interfaces := #[]
  cf := some (fileOf pool0 8 #[] #[{ accessFlags := 1, nameIndex := 5, descriptorIndex := 6, attributes := #[] }] 33 0 #[] #[])
  fields := #[]
  methods := #[k0m0]
  instanceTypes := #[]
  staticTypes := #[]
  resolved := Array.replicate 124 none
  statics := none }

def pool1 : Array CpInfo := pool [(2, .class_ 4), (1, u "java/lang/Object"), (0, u "<init>"), (0, u "()V"), (0, .class_ 8), (0, u "com/example/term_unifier/termunifier/UnionFind"), (0, .methodref 7 10), (0, .nameAndType 5 11), (0, u "(I)V"), (0, .methodref 13 14), (0, .class_ 15), (0, .nameAndType 16 17), (0, u "com/example/term_unifier/termunifier/UnionFindFindPinLaw"), (0, u "step"), (0, u "(Lcom/example/term_unifier/termunifier/UnionFind;[II)Z"), (0, .methodref 7 19), (0, .nameAndType 20 21), (0, u "find"), (0, u "(I)I"), (0, .methodref 7 23), (0, .nameAndType 24 25), (0, u "union"), (0, u "(II)I"), (2, u "law"), (0, u "(IIII)Z")] 5

def k1m0 : Method := { name := "<init>", desc := "()V", sig := { parameters := [], returnType := none }, accessFlags := 1, code := none }
def k1c1 : Code := { maxStack := 4, maxLocals := 15, code := code, exceptionTable := #[], attributes := #[] }
def k1m1 : Method := { name := "law", desc := "(IIII)Z", sig := { parameters := [.int, .int, .int, .int], returnType := some .boolean }, accessFlags := 9, code := some k1c1 }
def k1c2 : Code := { maxStack := 3, maxLocals := 8, code := method_3_code, exceptionTable := #[], attributes := #[] }
def k1m2 : Method := { name := "step", desc := "(Lcom/example/term_unifier/termunifier/UnionFind;[II)Z", sig := { parameters := [(.object "com/example/term_unifier/termunifier/UnionFind"), (.array .int), .int], returnType := some .boolean }, accessFlags := 10, code := some k1c2 }
/-- com/example/term_unifier/termunifier/UnionFindFindPinLaw -/
def k1 : Class := { plain "com/example/term_unifier/termunifier/UnionFindFindPinLaw" (some 0) with
  accessFlags := 49
  interfaces := #[]
  cf := some (fileOf pool1 13 #[] #[{ accessFlags := 1, nameIndex := 5, descriptorIndex := 6, attributes := #[] }, { accessFlags := 9, nameIndex := 28, descriptorIndex := 29, attributes := #[] }, { accessFlags := 10, nameIndex := 16, descriptorIndex := 17, attributes := #[] }] 49 2 #[] #[])
  fields := #[]
  methods := #[k1m0, k1m1, k1m2]
  instanceTypes := #[]
  staticTypes := #[]
  resolved := Array.replicate 35 none
  statics := none }

def pool2 : Array CpInfo := pool [(1, .methodref 2 3), (0, .class_ 4), (0, .nameAndType 5 6), (0, u "com/example/term_unifier/termunifier/UnionFind"), (0, u "<init>"), (0, u "(ILcom/example/term_unifier/termunifier/IntStack;)V"), (0, .methodref 8 9), (0, .class_ 10), (0, .nameAndType 5 11), (0, u "java/lang/Object"), (0, u "()V"), (0, .methodref 13 14), (0, .class_ 15), (0, .nameAndType 16 17), (0, u "java/lang/Math"), (0, u "max"), (0, u "(II)I"), (0, .fieldref 2 19), (0, .nameAndType 20 21), (0, u "parent"), (0, u "[I"), (0, .fieldref 2 23), (0, .nameAndType 24 25), (0, u "ranks"), (0, u "[B"), (0, .fieldref 2 27), (0, .nameAndType 28 29), (0, u "size"), (0, u "I"), (0, .fieldref 2 31), (0, .nameAndType 32 33), (0, u "unions"), (0, u "Lcom/example/term_unifier/termunifier/IntStack;"), (15, u "(I)V"), (12, u "find"), (0, u "(I)I"), (0, u "union")] 4

def k2c0 : Code := { maxStack := 3, maxLocals := 2, code := prog_51_method_1_code, exceptionTable := #[], attributes := #[] }
def k2m0 : Method := { name := "<init>", desc := "(I)V", sig := { parameters := [.int], returnType := none }, accessFlags := 0, code := some k2c0 }
def k2c1 : Code := { maxStack := 3, maxLocals := 4, code := prog_51_method_2_code, exceptionTable := #[], attributes := #[] }
def k2m1 : Method := { name := "<init>", desc := "(ILcom/example/term_unifier/termunifier/IntStack;)V", sig := { parameters := [.int, (.object "com/example/term_unifier/termunifier/IntStack")], returnType := none }, accessFlags := 2, code := some k2c1 }
def k2c2 : Code := { maxStack := 5, maxLocals := 3, code := prog_51_method_6_code, exceptionTable := #[], attributes := #[] }
def k2m2 : Method := { name := "find", desc := "(I)I", sig := { parameters := [.int], returnType := some .int }, accessFlags := 0, code := some k2c2 }
def k2c3 : Code := { maxStack := 4, maxLocals := 6, code := prog_51_method_7_code, exceptionTable := #[], attributes := #[] }
def k2m3 : Method := { name := "union", desc := "(II)I", sig := { parameters := [.int, .int], returnType := some .int }, accessFlags := 0, code := some k2c3 }
/-- com/example/term_unifier/termunifier/UnionFind -/
def k2 : Class := { plain "com/example/term_unifier/termunifier/UnionFind" (some 0) with
  accessFlags := 32
  interfaces := #[]
  cf := some (fileOf pool2 2 #[] #[{ accessFlags := 0, nameIndex := 5, descriptorIndex := 49, attributes := #[] }, { accessFlags := 2, nameIndex := 5, descriptorIndex := 6, attributes := #[] }, { accessFlags := 0, nameIndex := 62, descriptorIndex := 63, attributes := #[] }, { accessFlags := 0, nameIndex := 64, descriptorIndex := 17, attributes := #[] }] 32 8 #[] #[{ accessFlags := 2, nameIndex := 20, descriptorIndex := 21, attributes := #[] }, { accessFlags := 2, nameIndex := 24, descriptorIndex := 25, attributes := #[] }, { accessFlags := 2, nameIndex := 28, descriptorIndex := 29, attributes := #[] }, { accessFlags := 18, nameIndex := 32, descriptorIndex := 33, attributes := #[] }])
  fields := #[{ name := "parent", type := (.array .int), accessFlags := 2, slot := 0, constantValue := 0 }, { name := "ranks", type := (.array .byte), accessFlags := 2, slot := 1, constantValue := 0 }, { name := "size", type := .int, accessFlags := 2, slot := 2, constantValue := 0 }, { name := "unions", type := (.object "com/example/term_unifier/termunifier/IntStack"), accessFlags := 18, slot := 3, constantValue := 0 }]
  methods := #[k2m0, k2m1, k2m2, k2m3]
  instanceTypes := #[(.array .int), (.array .byte), .int, (.object "com/example/term_unifier/termunifier/IntStack")]
  staticTypes := #[]
  resolved := Array.replicate 69 none
  statics := none }

def pool3 : Array CpInfo := pool [(1, .class_ 2), (0, u "java/lang/Math"), (1, .class_ 6), (1, u "java/lang/Object"), (0, u "<init>"), (0, u "()V"), (89, .class_ 100), (1, u "java/lang/Math$RandomNumberGeneratorHolder"), (71, u "negativeZeroFloatBits"), (0, u "J"), (2, u "negativeZeroDoubleBits"), (21, u "max"), (46, u "$assertionsDisabled"), (0, u "Z"), (88, u "(II)I"), (2, u "twoToTheDoubleScaleDown"), (0, u "D"), (4, u "twoToTheDoubleScaleUp"), (9, u "E"), (3, u "PI"), (2, u "TAU"), (2, u "DEGREES_TO_RADIANS"), (0, u "RADIANS_TO_DEGREES")] 94

def k3m0 : Method := { name := "<init>", desc := "()V", sig := { parameters := [], returnType := none }, accessFlags := 2, code := none }
def k3c1 : Code := { maxStack := 2, maxLocals := 2, code := jdk_29_method_65_code, exceptionTable := #[], attributes := #[] }
def k3m1 : Method := { name := "max", desc := "(II)I", sig := { parameters := [.int, .int], returnType := some .int }, accessFlags := 9, code := some k3c1 }
/-- java/lang/Math -/
def k3 : Class := { plain "java/lang/Math" (some 0) with
  accessFlags := 49
  interfaces := #[]
  cf := some (fileOf pool3 1 #[.nestMembers #[98]] #[{ accessFlags := 2, nameIndex := 7, descriptorIndex := 8, attributes := #[] }, { accessFlags := 9, nameIndex := 198, descriptorIndex := 335, attributes := #[] }] 49 4 #[] #[{ accessFlags := 25, nameIndex := 354, descriptorIndex := 339, attributes := #[] }, { accessFlags := 25, nameIndex := 358, descriptorIndex := 339, attributes := #[] }, { accessFlags := 25, nameIndex := 361, descriptorIndex := 339, attributes := #[] }, { accessFlags := 26, nameIndex := 364, descriptorIndex := 339, attributes := #[] }, { accessFlags := 26, nameIndex := 365, descriptorIndex := 339, attributes := #[] }, { accessFlags := 26, nameIndex := 172, descriptorIndex := 173, attributes := #[] }, { accessFlags := 26, nameIndex := 176, descriptorIndex := 173, attributes := #[] }, { accessFlags := 8, nameIndex := 344, descriptorIndex := 339, attributes := #[] }, { accessFlags := 8, nameIndex := 338, descriptorIndex := 339, attributes := #[] }, { accessFlags := 4120, nameIndex := 245, descriptorIndex := 246, attributes := #[] }])
  fields := #[{ name := "E", type := .double, accessFlags := 25, slot := 0, constantValue := 0 }, { name := "PI", type := .double, accessFlags := 25, slot := 1, constantValue := 0 }, { name := "TAU", type := .double, accessFlags := 25, slot := 2, constantValue := 0 }, { name := "DEGREES_TO_RADIANS", type := .double, accessFlags := 26, slot := 3, constantValue := 0 }, { name := "RADIANS_TO_DEGREES", type := .double, accessFlags := 26, slot := 4, constantValue := 0 }, { name := "negativeZeroFloatBits", type := .long, accessFlags := 26, slot := 5, constantValue := 0 }, { name := "negativeZeroDoubleBits", type := .long, accessFlags := 26, slot := 6, constantValue := 0 }, { name := "twoToTheDoubleScaleUp", type := .double, accessFlags := 8, slot := 7, constantValue := 0 }, { name := "twoToTheDoubleScaleDown", type := .double, accessFlags := 8, slot := 8, constantValue := 0 }, { name := "$assertionsDisabled", type := .boolean, accessFlags := 4120, slot := 9, constantValue := 0 }]
  methods := #[k3m0, k3m1]
  instanceTypes := #[]
  staticTypes := #[.double, .double, .double, .double, .double, .long, .long, .double, .double, .boolean]
  resolved := Array.replicate 460 none
  statics := none }

def pool4 : Array CpInfo := pool [(1, u "java/lang/Cloneable"), (0, .class_ 1), (0, u "java/lang/Object"), (0, .class_ 3)] 3

/-- java/lang/Cloneable -/
def k4 : Class := { plain "java/lang/Cloneable" (some 0) with
  accessFlags := 1537
  interfaces := #[]
  cf := some (fileOf pool4 2 #[] #[] 1537 4 #[] #[])
  fields := #[]
  methods := #[]
  instanceTypes := #[]
  staticTypes := #[]
  resolved := Array.replicate 8 none
  statics := none }

def pool5 : Array CpInfo := pool [(1, u "java/io/Serializable"), (0, .class_ 1), (0, u "java/lang/Object"), (0, .class_ 3)] 3

/-- java/io/Serializable -/
def k5 : Class := { plain "java/io/Serializable" (some 0) with
  accessFlags := 1537
  interfaces := #[]
  cf := some (fileOf pool5 2 #[] #[] 1537 4 #[] #[])
  fields := #[]
  methods := #[]
  instanceTypes := #[]
  staticTypes := #[]
  resolved := Array.replicate 8 none
  statics := none }

/-- the primitive byte -/
def k6 : Class := { plain "byte" none with kind := .primitive 'B', accessFlags := 0x411 }
/-- [B -/
def k7 : Class := { plain "[B" (some 0) with kind := .array 6 .byte, interfaces := #[4, 5], accessFlags := 1041 }

/-- the primitive int -/
def k8 : Class := { plain "int" none with kind := .primitive 'I', accessFlags := 0x411 }
/-- [I -/
def k9 : Class := { plain "[I" (some 0) with kind := .array 8 .int, interfaces := #[4, 5], accessFlags := 1041 }

def heap : Heap := #[]
def classes : Array Class := #[k0, k1, k2, k3, k4, k5, k6, k7, k8, k9]
def interned : List (Array UInt16 × Addr) := []
def slotsUsed : Nat := 0
def theMethod : MethodId := ⟨1, 1⟩
def args0 : Array Value := #[.int 5, .int 5, .int 5, .int 5]
def aboutOver (below : List Frame) : State where
  vm := { classes := classes, interned := interned.toArray }
  heap := heap
  slotsUsed := slotsUsed
  threads := #[{ frames := .invoking theMethod args0 :: below }]
def below0 : List Frame := [.native { method := ⟨0, 0⟩, args := #[] }]
def about1 : State := aboutOver below0
def p0 : Program := .bare "" "" ""
def e0 : Env := launch0.env 0 0 0
theorem w_frames : about1.frames = Frame.invoking theMethod args0 :: below0 := rfl
set_option maxRecDepth 65536 in
theorem w_args : argsFit about1.vm theMethod args0 = true := by decide +kernel
set_option maxRecDepth 65536 in
theorem w_heap : heapFits about1 = true := by decide +kernel
set_option maxRecDepth 65536 in
theorem w_runnable : about1.curStatus? = some .runnable := by decide +kernel
set_option maxRecDepth 65536 in
theorem w_alone : about1.alone = true := by decide +kernel
set_option maxRecDepth 65536 in
theorem w_named : about1.methodNamed? x = some theMethod := by decide +kernel
set_option maxRecDepth 65536 in
theorem w_hears : about1.hears theMethod below0 = true := by decide +kernel
set_option maxRecDepth 65536 in
theorem w_ripe : about1.ripe theMethod args0 below0 = true := by decide +kernel
theorem w_running : about1.status = .running := rfl
set_option maxRecDepth 65536 in
theorem w_room : about1.hasRoom e0.platform room_1 = true :=
  launch0.hasRoom_least _ room_1 (by decide +kernel) (by decide +kernel) (by decide +kernel) (by decide +kernel) (by decide +kernel) (by decide +kernel)
theorem allAtoms_all (ts : List Jvm.Cond) (a : Array Jvm.Value) (st : Jvm.State) : (allAtoms ts).before a st = ts.all (fun c => c.before a st) := by
  induction ts with
  | nil => rfl
  | cons c t ih =>
    show (Jvm.Cond.and c (allAtoms t)).before a st = _
    rw [Jvm.Cond.before_and, ih, List.all_cons]
def words1 : List Jvm.Cond := Jvm.Cond.code x code maxLocals ret :: tables_1
/-- a 'code' word, met by the world's own term for the bytes: nothing is compared byte by byte -/
theorem code_word {y : MethodName} {bytes : ByteArray} {mx : Nat} {rt : Option FieldType} {a : Array Value} {s : State} {m : MethodId} {meth : Method} {c : Code} (h1 : s.methodNamed? y = some m) (h2 : s.vm.method? m = some meth) (h3 : meth.code = some c) (h4 : c.code = bytes)
    (h5 : (c.maxLocals == mx && c.exceptionTable.isEmpty && decide (c.maxStack ≤ mostOperands) && decide (meth.sig.returnType = rt) && !meth.locks && decide (parseMethodDescriptor y.desc = some meth.sig)) = true) : (Jvm.Cond.code y bytes mx rt).before a s = true := by
  simp only [Bool.and_eq_true, beq_iff_eq, Bool.not_eq_true', decide_eq_true_eq] at h5
  obtain ⟨⟨⟨⟨⟨g1, g2⟩, g3⟩, g4⟩, g5⟩, g6⟩ := h5
  simp [Cond.before, Cond.holds, Cond.value, h1, h2, h3, h4, g1, g2, g3, g4, g5, g6]
def isCode : Jvm.Cond → Bool
  | .code _ _ _ _ => true
  | _ => false
theorem all_split {L : List Jvm.Cond} {P : Jvm.Cond → Bool} (h1 : L.all (fun c => isCode c || P c) = true) (h2 : ∀ c ∈ L.filter isCode, P c = true) : L.all P = true := by
  refine List.all_eq_true.mpr fun c hc => ?_
  have h := List.all_eq_true.mp h1 c hc
  rcases Bool.eq_false_or_eq_true (isCode c) with hi | hi
  · exact h2 c (List.mem_filter.mpr ⟨hc, hi⟩)
  · simpa [hi] using h
set_option maxRecDepth 65536 in
theorem w_c0 : (Jvm.Cond.code x code maxLocals ret).before args0 about1 = true := code_word (m := ⟨1, 1⟩) (meth := k1m1) (c := k1c1) (by decide +kernel) rfl rfl rfl (by decide +kernel)
set_option maxRecDepth 65536 in
theorem w_c1 : (Jvm.Cond.code ({ cls := "com/example/term_unifier/termunifier/UnionFind", name := "<init>", desc := "(I)V" } : Jvm.MethodName) prog_51_method_1_code (2 : Nat) (Option.none : Option Jvm.ClassFile.FieldType)).before args0 about1 = true := code_word (m := ⟨2, 0⟩) (meth := k2m0) (c := k2c0) (by decide +kernel) rfl rfl rfl (by decide +kernel)
set_option maxRecDepth 65536 in
theorem w_c2 : (Jvm.Cond.code ({ cls := "com/example/term_unifier/termunifier/UnionFind", name := "<init>", desc := "(ILcom/example/term_unifier/termunifier/IntStack;)V" } : Jvm.MethodName) prog_51_method_2_code (4 : Nat) (Option.none : Option Jvm.ClassFile.FieldType)).before args0 about1 = true := code_word (m := ⟨2, 1⟩) (meth := k2m1) (c := k2c1) (by decide +kernel) rfl rfl rfl (by decide +kernel)
set_option maxRecDepth 65536 in
theorem w_c3 : (Jvm.Cond.code ({ cls := "java/lang/Object", name := "<init>", desc := "()V" } : Jvm.MethodName) object_method_1_code (1 : Nat) (Option.none : Option Jvm.ClassFile.FieldType)).before args0 about1 = true := code_word (m := ⟨0, 0⟩) (meth := k0m0) (c := k0c0) (by decide +kernel) rfl rfl rfl (by decide +kernel)
set_option maxRecDepth 65536 in
theorem w_c4 : (Jvm.Cond.code ({ cls := "java/lang/Math", name := "max", desc := "(II)I" } : Jvm.MethodName) jdk_29_method_65_code (2 : Nat) (Option.some Jvm.ClassFile.FieldType.int)).before args0 about1 = true := code_word (m := ⟨3, 1⟩) (meth := k3m1) (c := k3c1) (by decide +kernel) rfl rfl rfl (by decide +kernel)
set_option maxRecDepth 65536 in
theorem w_c5 : (Jvm.Cond.code ({ cls := "com/example/term_unifier/termunifier/UnionFindFindPinLaw", name := "step", desc := "(Lcom/example/term_unifier/termunifier/UnionFind;[II)Z" } : Jvm.MethodName) method_3_code (8 : Nat) (Option.some Jvm.ClassFile.FieldType.boolean)).before args0 about1 = true := code_word (m := ⟨1, 2⟩) (meth := k1m2) (c := k1c2) (by decide +kernel) rfl rfl rfl (by decide +kernel)
set_option maxRecDepth 65536 in
theorem w_c6 : (Jvm.Cond.code ({ cls := "com/example/term_unifier/termunifier/UnionFind", name := "union", desc := "(II)I" } : Jvm.MethodName) prog_51_method_7_code (6 : Nat) (Option.some Jvm.ClassFile.FieldType.int)).before args0 about1 = true := code_word (m := ⟨2, 3⟩) (meth := k2m3) (c := k2c3) (by decide +kernel) rfl rfl rfl (by decide +kernel)
set_option maxRecDepth 65536 in
theorem w_c7 : (Jvm.Cond.code ({ cls := "com/example/term_unifier/termunifier/UnionFind", name := "find", desc := "(I)I" } : Jvm.MethodName) prog_51_method_6_code (3 : Nat) (Option.some Jvm.ClassFile.FieldType.int)).before args0 about1 = true := code_word (m := ⟨2, 2⟩) (meth := k2m2) (c := k2c2) (by decide +kernel) rfl rfl rfl (by decide +kernel)
def codes1 : List Jvm.Cond := [Jvm.Cond.code x code maxLocals ret, Jvm.Cond.code ({ cls := "com/example/term_unifier/termunifier/UnionFind", name := "<init>", desc := "(I)V" } : Jvm.MethodName) prog_51_method_1_code (2 : Nat) (Option.none : Option Jvm.ClassFile.FieldType), Jvm.Cond.code ({ cls := "com/example/term_unifier/termunifier/UnionFind", name := "<init>", desc := "(ILcom/example/term_unifier/termunifier/IntStack;)V" } : Jvm.MethodName) prog_51_method_2_code (4 : Nat) (Option.none : Option Jvm.ClassFile.FieldType), Jvm.Cond.code ({ cls := "java/lang/Object", name := "<init>", desc := "()V" } : Jvm.MethodName) object_method_1_code (1 : Nat) (Option.none : Option Jvm.ClassFile.FieldType), Jvm.Cond.code ({ cls := "java/lang/Math", name := "max", desc := "(II)I" } : Jvm.MethodName) jdk_29_method_65_code (2 : Nat) (Option.some Jvm.ClassFile.FieldType.int), Jvm.Cond.code ({ cls := "com/example/term_unifier/termunifier/UnionFindFindPinLaw", name := "step", desc := "(Lcom/example/term_unifier/termunifier/UnionFind;[II)Z" } : Jvm.MethodName) method_3_code (8 : Nat) (Option.some Jvm.ClassFile.FieldType.boolean), Jvm.Cond.code ({ cls := "com/example/term_unifier/termunifier/UnionFind", name := "union", desc := "(II)I" } : Jvm.MethodName) prog_51_method_7_code (6 : Nat) (Option.some Jvm.ClassFile.FieldType.int), Jvm.Cond.code ({ cls := "com/example/term_unifier/termunifier/UnionFind", name := "find", desc := "(I)I" } : Jvm.MethodName) prog_51_method_6_code (3 : Nat) (Option.some Jvm.ClassFile.FieldType.int)]
set_option maxRecDepth 65536 in
theorem codes_eq : words1.filter isCode = codes1 := rfl
theorem w_codes : ∀ c ∈ words1.filter isCode, c.before args0 about1 = true := by
  rw [codes_eq]
  intro c hc
  simp only [codes1, List.mem_cons, List.not_mem_nil, or_false] at hc
  rcases hc with rfl | rfl | rfl | rfl | rfl | rfl | rfl | rfl
  · exact w_c0
  · exact w_c1
  · exact w_c2
  · exact w_c3
  · exact w_c4
  · exact w_c5
  · exact w_c6
  · exact w_c7
set_option maxRecDepth 65536 in
theorem w_t1 : (words1.take 24).all (fun c => isCode c || c.before args0 about1) = true := by decide +kernel
set_option maxRecDepth 65536 in
theorem w_t2 : (words1.drop 24).all (fun c => isCode c || c.before args0 about1) = true := by decide +kernel
theorem w_tables : (allAtoms (Jvm.Cond.code x code maxLocals ret :: tables_1)).before args0 about1 = true := by
  rw [allAtoms_all]
  show words1.all (fun c => c.before args0 about1) = true
  refine all_split ?_ w_codes
  rw [← List.take_append_drop 24 words1, List.all_append, w_t1, w_t2]
  rfl
set_option maxRecDepth 65536 in
theorem w_case : (Jvm.Cond.and given_1 narrow_1).before args0 about1 = true := by decide +kernel
theorem w_applies : (headSpec (Jvm.Cond.code x code maxLocals ret :: tables_1) room_1).applies x e0.platform about1 = true :=
  (Spec.applies_iff w_frames).mpr ⟨w_running, w_runnable, w_alone, w_named, w_hears, w_ripe, w_room, w_tables⟩
theorem atStart : AtStart classFile x code maxLocals ret World_1 tables_1 room_1 Calls_1 rest_1 Pre_1 launch0 p0 e0 about1 theMethod args0 below0 :=
  ⟨lists_1, trivial, launch0.admits_env _ _ _, launch0.least_env, fairChoices_fair.cas, fairChoices_fair.clock, w_frames, w_args, w_heap, w_applies, trivial, trivial, w_case⟩
end start1
theorem witness_1 : WitnessClaimed_1 := ⟨start1.p0, start1.e0, start1.about1, start1.theMethod, start1.args0, start1.below0, start1.atStart⟩
end Jvm.Pilot.@@N@@
