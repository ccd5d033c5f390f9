import JvmDerived
import JvmDerived.Pilot.@@N@@Statement
import JvmDerived.Pilot.@@N@@Code
set_option linter.unusedVariables false
set_option linter.unusedSimpArgs false
namespace Jvm.Pilot.@@N@@
open Jvm Jvm.ClassFile Sem Op Lib Jvm.Free Jvm.Stand Jvm.LawKit Jvm.RoadKit Bundle Jvm.Pilot.@@N@@.Jvm.D
section Own
variable {p : Program} {l : Launch} {e : Env} {R : Room} {s : State} {m : MethodId} {args : Array Value} {below : List Frame} {meth : Method} {c : Code} {T : State} {locs : List Loc} {cells slots : Nat} {Z : State} {h h' : Heap} {a b : Addr}
/-- from A the run comes to its return, and Q holds there -/
def own_Goes (p : Program) (e : Env) (below : List Frame) (s : State) (Q : Option Value → Heap → List Loc → Prop) (kc ks : Nat) (A : State) : Prop :=
  ∃ s₂ o, Steps p.tables e below A s₂ ∧ s₂.status = .running ∧ Ended s₂ below o ∧ ∃ v L, o = .returned v ∧ Q v s₂.heap L ∧ FrameEnd s o s₂ L kc ks
theorem own_go {Q : Option Value → Heap → List Loc → Prop} {kc ks : Nat} {A B : State} (st : ∀ t, Steps p.tables e below B t → Steps p.tables e below A t) (k : own_Goes p e below s Q kc ks B) : own_Goes p e below s Q kc ks A := by
  obtain ⟨s2, o, h1, h2⟩ := k
  exact ⟨s2, o, st _ h1, h2⟩
theorem own_w {a0 : Array Value} {Z : State} (hw : ∀ d ∈ tables_1, d.before a0 Z = true) (i : Nat) {d : Jvm.Cond} (h : tables_1[i]? = some d) : d.before a0 Z = true := hw d (List.mem_of_getElem? h)
theorem own_selP {y y' : MethodName} (hs : (Cond.selects y'.cls y' y').before args s = true) (he : y.cls = y'.cls) (hpriv : s.PrivateAt y) (hinst : (Cond.instanceMethod y).before args s = true) (hy : y.cls ≠ "java/lang/invoke/MethodHandle" ∧ y.cls ≠ "java/lang/invoke/VarHandle") : (Cond.selects y.cls y y).before args s = true := by
  obtain ⟨c2, r2, m2, q1, q2, q3, q4, kP, hkP, hkPi⟩ := Cond.selects_spec hs
  exact selects_self_of_private (by rw [he]; exact findClass_of_methodNamed q3) hkP hkPi hpriv hinst hy
theorem own_st {tb : Tables} {A B t : State} (h1 : Steps tb e below A B) (k : Steps tb e below B t) : Steps tb e below A t := h1.trans k
theorem own_out {Q : Option Value → Heap → List Loc → Prop} {kc ks : Nat} {A : State} (X : Stand p l e R s m args below meth c T locs cells slots) {v : Option Value} (hv : meth.sig.returnType = none → v = none) (hlk : meth.locks = false)
    (st : ∀ fs, (∀ (f : JFrame) (acts : List Action), f.method = m → f.locked = none → f.entered = [] → (doReturn e (T.setTop f) acts v).1 = T.setFrames fs) → Steps p.tables e below A (T.setFrames fs))
    (hq : Q v T.heap locs) (hc : cells ≤ kc) (hs : slots ≤ ks) : own_Goes p e below s Q kc ks A := by
  obtain ⟨fs, hr, hrun, hended, hW, hsame⟩ := X.leave hv hlk
  exact ⟨_, _, st fs hr, hrun, hended, _, _, rfl, hq, ⟨_, rfl⟩, hW, hsame.mono hc hs⟩
theorem own_irem {tb : Tables} [Ours tb] {T target : State} {g : JFrame} (h : At T m c below) (hx : tb.exec = Jvm.exec) (hg : g.method = m) {x y : Int32} {rest : List Value} (hd : decode c.code g.pc = .ok (.irem, 1)) (hs : g.stack = .int y :: .int x :: rest) (hy : y ≠ 0)
    (hr : Steps tb e below (T.setTop { g with pc := g.pc + 1, stack := .int (x % y) :: rest }) target) : Steps tb e below (T.setTop g) target := XS.irem h hx hg hd hs hy (by rw [irem_eq_mod]; exact hr)
theorem own_lrem {tb : Tables} [Ours tb] {T target : State} {g : JFrame} (h : At T m c below) (hx : tb.exec = Jvm.exec) (hg : g.method = m) {x y : Int64} {rest : List Value} (hd : decode c.code g.pc = .ok (.lrem, 1)) (hs : g.stack = .long y :: .long x :: rest) (hy : y ≠ 0)
    (hr : Steps tb e below (T.setTop { g with pc := g.pc + 1, stack := .long (x % y) :: rest }) target) : Steps tb e below (T.setTop g) target := XS.lrem h hx hg hd hs hy (by rw [lrem_mod]; exact hr)
/-- an array of ints (bytes, booleans): its length, and what each place holds -/
def own_IA (Z : State) (h : Heap) (a : Addr) (ty : FieldType) (n : Nat) (f : Nat → Int32) : Prop := ∃ c : Cell, Arr Z h a c ty ∧ c.slots.size = n ∧ ∀ i, i < n → c.slots[i]? = some (.int (f i))
/-- an array of longs -/
def own_LA (Z : State) (h : Heap) (a : Addr) (n : Nat) (f : Nat → Int64) : Prop := ∃ c : Cell, Arr Z h a c .long ∧ c.slots.size = n ∧ ∀ i, i < n → c.slots[i]? = some (.long (f i))
def own_upd {α : Type} (f : Nat → α) (j : Nat) (x : α) (i : Nat) : α := if i = j then x else f i
theorem own_upd_hit {α : Type} (f : Nat → α) (j : Nat) (x : α) : own_upd f j x j = x := if_pos rfl
theorem own_upd_miss {α : Type} (f : Nat → α) {i j : Nat} (x : α) (q : i ≠ j) : own_upd f j x i = f i := if_neg q
section Arrays
variable {ty : FieldType} {n : Nat} {f : Nat → Int32} {fl : Nat → Int64} {sl : Nat} {v : Value} {ws : List Addr}
theorem own_IA.lt (F : own_IA Z h a ty n f) : a < h.size := by obtain ⟨c, A, -⟩ := F; exact A.lt
theorem own_LA.lt (F : own_LA Z h a n fl) : a < h.size := by obtain ⟨c, A, -⟩ := F; exact A.lt
theorem own_IA.ext (F : own_IA Z h a ty n f) (E : Ext h h') : own_IA Z h' a ty n f := by obtain ⟨c, A, r⟩ := F; exact ⟨c, A.ext E, r⟩
theorem own_LA.ext (F : own_LA Z h a n fl) (E : Ext h h') : own_LA Z h' a n fl := by obtain ⟨c, A, r⟩ := F; exact ⟨c, A.ext E, r⟩
theorem own_IA.other (F : own_IA Z h b ty n f) (W : Wr h h' a sl v) (q : b ≠ a) : own_IA Z h' b ty n f := by obtain ⟨c, A, r⟩ := F; exact ⟨c, A.other W q, r⟩
theorem own_LA.other (F : own_LA Z h b n fl) (W : Wr h h' a sl v) (q : b ≠ a) : own_LA Z h' b n fl := by obtain ⟨c, A, r⟩ := F; exact ⟨c, A.other W q, r⟩
theorem own_IA.keep (F : own_IA Z h a ty n f) (K : Keep h h' ws) (q : a ∉ ws) : own_IA Z h' a ty n f := by obtain ⟨c, A, r⟩ := F; exact ⟨c, ⟨K.2.1 a c A.1 q, A.2⟩, r⟩
theorem own_LA.keep (F : own_LA Z h a n fl) (K : Keep h h' ws) (q : a ∉ ws) : own_LA Z h' a n fl := by obtain ⟨c, A, r⟩ := F; exact ⟨c, ⟨K.2.1 a c A.1 q, A.2⟩, r⟩
theorem own_IA.cong {g : Nat → Int32} (F : own_IA Z h a ty n f) (q : ∀ i, i < n → f i = g i) : own_IA Z h a ty n g := by obtain ⟨c, A, r, u⟩ := F; exact ⟨c, A, r, fun i hi => by rw [u i hi, q i hi]⟩
theorem own_LA.cong {g : Nat → Int64} (F : own_LA Z h a n fl) (q : ∀ i, i < n → fl i = g i) : own_LA Z h a n g := by obtain ⟨c, A, r, u⟩ := F; exact ⟨c, A, r, fun i hi => by rw [u i hi, q i hi]⟩
theorem own_in {cl : Cell} {j : Int32} {k : Nat} (S : cl.slots.size = n) (h1 : ¬ j < 0) (hk : j.toNatClampNeg = k) (h2 : k < n) : ¬ (j < 0 ∨ cl.slots.size ≤ j.toNatClampNeg) := by
  rintro (q | q)
  · exact h1 q
  · rw [S, hk] at q; exact absurd h2 (Nat.not_lt.mpr q)
theorem own_set {cl : Cell} {k : Nat} (S : cl.slots.size = n) (h2 : k < n) (v : Value) (i : Nat) : (cl.setSlot k v).slots[i]? = if i = k then some v else cl.slots[i]? := by
  by_cases q : i = k
  · subst q; rw [if_pos rfl]; exact Array.getElem?_setIfInBounds_self_of_lt (by rw [S]; exact h2)
  · rw [if_neg q]; exact Array.getElem?_setIfInBounds_ne (fun z => q z.symm)
theorem own_Inew {k : ClassId} {z : Int32} (A : Arr Z h a (newA k ty z) ty) (hz : z.toNatClampNeg = n) (hd : defaultValue ty = .int 0) : own_IA Z h a ty n (fun _ => 0) := by
  refine ⟨_, A, by rw [sz_new, hz], fun i hi => ?_⟩
  show (Array.replicate z.toNatClampNeg (defaultValue ty))[i]? = _
  rw [hz, hd, Array.getElem?_replicate, if_pos hi]
theorem own_Lnew {k : ClassId} {z : Int32} (A : Arr Z h a (newA k .long z) .long) (hz : z.toNatClampNeg = n) : own_LA Z h a n (fun _ => 0) := by
  refine ⟨_, A, by rw [sz_new, hz], fun i hi => ?_⟩
  show (Array.replicate z.toNatClampNeg (defaultValue .long))[i]? = _
  rw [hz, Array.getElem?_replicate, if_pos hi]; rfl
theorem own_iaload (X : Stand p l e R s m args below meth c T locs cells slots) (hx : p.tables.exec = Jvm.exec) (hZ : Z.Warmed39 s.vm) (eT : T.heap = h) (V : own_IA Z h a .int n f) {j : Int32} {k : Nat} (h1 : ¬ j < 0) (hk : j.toNatClampNeg = k) (h2 : k < n) {pc : Nat} {Ls : Array Slot} {rest : List Value} (hd : decode c.code pc = .ok (.iaload, 1)) (t : State)
    (kk : Steps p.tables e below (T.setTop (mkF m (pc + 1) Ls (.int (f k) :: rest))) t) : Steps p.tables e below (T.setTop (mkF m pc Ls (.int j :: .ref a :: rest))) t := by
  obtain ⟨cl, A, S, H⟩ := V
  exact X.iaload hx (j := j) (v := .int (f k)) (by rw [eT]; exact A.1) (State.isArrayOf_alike hZ.alike A.2.1) A.2.2 (own_in S h1 hk h2) (by rw [hk]; exact H _ h2) (g := mkF m pc Ls (.int j :: .ref a :: rest)) rfl rfl hd t kk
theorem own_baload (X : Stand p l e R s m args below meth c T locs cells slots) (hx : p.tables.exec = Jvm.exec) (hZ : Z.Warmed39 s.vm) (eT : T.heap = h) (V : own_IA Z h a .byte n f) {j : Int32} {k : Nat} (h1 : ¬ j < 0) (hk : j.toNatClampNeg = k) (h2 : k < n) {pc : Nat} {Ls : Array Slot} {rest : List Value} (hd : decode c.code pc = .ok (.baload, 1)) (t : State)
    (kk : Steps p.tables e below (T.setTop (mkF m (pc + 1) Ls (.int (f k) :: rest))) t) : Steps p.tables e below (T.setTop (mkF m pc Ls (.int j :: .ref a :: rest))) t := by
  obtain ⟨cl, A, S, H⟩ := V
  exact X.baloadBytes hx (j := j) (v := .int (f k)) (by rw [eT]; exact A.1) (State.isArrayOf_alike hZ.alike A.2.1) A.2.2 (own_in S h1 hk h2) (by rw [hk]; exact H _ h2) (g := mkF m pc Ls (.int j :: .ref a :: rest)) rfl rfl hd t kk
theorem own_laload (X : Stand p l e R s m args below meth c T locs cells slots) (hx : p.tables.exec = Jvm.exec) (hZ : Z.Warmed39 s.vm) (eT : T.heap = h) (V : own_LA Z h a n fl) {j : Int32} {k : Nat} (h1 : ¬ j < 0) (hk : j.toNatClampNeg = k) (h2 : k < n) {pc : Nat} {Ls : Array Slot} {rest : List Value} (hd : decode c.code pc = .ok (.laload, 1)) (t : State)
    (kk : Steps p.tables e below (T.setTop (mkF m (pc + 1) Ls (.long (fl k) :: rest))) t) : Steps p.tables e below (T.setTop (mkF m pc Ls (.int j :: .ref a :: rest))) t := by
  obtain ⟨cl, A, S, H⟩ := V
  exact X.laload hx (j := j) (v := .long (fl k)) (by rw [eT]; exact A.1) (State.isArrayOf_alike hZ.alike A.2.1) A.2.2 (own_in S h1 hk h2) (by rw [hk]; exact H _ h2) (g := mkF m pc Ls (.int j :: .ref a :: rest)) rfl rfl hd t kk
theorem own_alen (X : Stand p l e R s m args below meth c T locs cells slots) (hx : p.tables.exec = Jvm.exec) (hZ : Z.Warmed39 s.vm) (eT : T.heap = h) (V : own_IA Z h a ty n f) {z : Int32} (hl : n.toInt32 = z) {pc : Nat} {Ls : Array Slot} {rest : List Value} (hd : decode c.code pc = .ok (.arraylength, 1)) (t : State)
    (kk : Steps p.tables e below (T.setTop (mkF m (pc + 1) Ls (.int z :: rest))) t) : Steps p.tables e below (T.setTop (mkF m pc Ls (.ref a :: rest))) t := by
  obtain ⟨cl, A, S, H⟩ := V
  exact X.arraylength hx (by rw [eT]; exact A.1) (State.isArrayOf_alike hZ.alike A.2.1) (g := mkF m pc Ls (.ref a :: rest)) rfl rfl hd t (by rw [S, hl]; exact kk)
theorem own_alenL (X : Stand p l e R s m args below meth c T locs cells slots) (hx : p.tables.exec = Jvm.exec) (hZ : Z.Warmed39 s.vm) (eT : T.heap = h) (V : own_LA Z h a n fl) {z : Int32} (hl : n.toInt32 = z) {pc : Nat} {Ls : Array Slot} {rest : List Value} (hd : decode c.code pc = .ok (.arraylength, 1)) (t : State)
    (kk : Steps p.tables e below (T.setTop (mkF m (pc + 1) Ls (.int z :: rest))) t) : Steps p.tables e below (T.setTop (mkF m pc Ls (.ref a :: rest))) t := by
  obtain ⟨cl, A, S, H⟩ := V
  exact X.arraylength hx (by rw [eT]; exact A.1) (State.isArrayOf_alike hZ.alike A.2.1) (g := mkF m pc Ls (.ref a :: rest)) rfl rfl hd t (by rw [S, hl]; exact kk)
theorem own_iastore (X : Stand p l e R s m args below meth c T locs cells slots) (hx : p.tables.exec = Jvm.exec) (hZ : Z.Warmed39 s.vm) (eT : T.heap = h) (V : own_IA Z h a .int n f) {j x : Int32} {k : Nat} (h1 : ¬ j < 0) (hk : j.toNatClampNeg = k) (h2 : k < n) {g : JFrame} (hg : g.method = m) {rest : List Value} (hs : g.stack = .int x :: .int j :: .ref a :: rest) (hd : decode c.code g.pc = .ok (.iastore, 1)) :
    ∃ T' h', Stand p l e R s m args below meth c T' (locs ++ [⟨a, k⟩]) cells slots ∧ T'.heap = h' ∧ Wr h h' a k (.int x) ∧ own_IA Z h' a .int n (own_upd f k x) ∧ ∀ target, Steps p.tables e below (T'.setTop { g with pc := g.pc + 1, stack := rest }) target → Steps p.tables e below (T.setTop g) target := by
  obtain ⟨cl, A, S, H⟩ := V
  obtain ⟨T', h', X', e', W, st⟩ := stI X hx hZ eT A (own_in S h1 hk h2) hg hs hd
  rw [hk] at X' W
  refine ⟨T', h', X', e', W, ⟨_, A.same W, by rw [sz_set, S], fun i hi => ?_⟩, st⟩
  rw [own_set S h2]; unfold own_upd
  by_cases q : i = k
  · rw [if_pos q, if_pos q]
  · rw [if_neg q, if_neg q]; exact H i hi
theorem own_bastore (X : Stand p l e R s m args below meth c T locs cells slots) (hx : p.tables.exec = Jvm.exec) (hZ : Z.Warmed39 s.vm) (eT : T.heap = h) (V : own_IA Z h a .byte n f) {j x : Int32} {k : Nat} (h1 : ¬ j < 0) (hk : j.toNatClampNeg = k) (h2 : k < n) {g : JFrame} (hg : g.method = m) {rest : List Value} (hs : g.stack = .int x :: .int j :: .ref a :: rest) (hd : decode c.code g.pc = .ok (.bastore, 1)) :
    ∃ T' h', Stand p l e R s m args below meth c T' (locs ++ [⟨a, k⟩]) cells slots ∧ T'.heap = h' ∧ Wr h h' a k (.int x.toInt8.toInt32) ∧ own_IA Z h' a .byte n (own_upd f k x.toInt8.toInt32) ∧ ∀ target, Steps p.tables e below (T'.setTop { g with pc := g.pc + 1, stack := rest }) target → Steps p.tables e below (T.setTop g) target := by
  obtain ⟨cl, A, S, H⟩ := V
  obtain ⟨T', h', X', e', W, st⟩ := stB X hx hZ eT A (own_in S h1 hk h2) hg hs hd
  rw [hk] at X' W
  refine ⟨T', h', X', e', W, ⟨_, A.same W, by rw [sz_set, S], fun i hi => ?_⟩, st⟩
  rw [own_set S h2]; unfold own_upd
  by_cases q : i = k
  · rw [if_pos q, if_pos q]; rfl
  · rw [if_neg q, if_neg q]; exact H i hi
theorem own_lastore (X : Stand p l e R s m args below meth c T locs cells slots) (hx : p.tables.exec = Jvm.exec) (hZ : Z.Warmed39 s.vm) (eT : T.heap = h) (V : own_LA Z h a n fl) {j : Int32} {x : Int64} {k : Nat} (h1 : ¬ j < 0) (hk : j.toNatClampNeg = k) (h2 : k < n) {g : JFrame} (hg : g.method = m) {rest : List Value} (hs : g.stack = .long x :: .int j :: .ref a :: rest) (hd : decode c.code g.pc = .ok (.lastore, 1)) :
    ∃ T' h', Stand p l e R s m args below meth c T' (locs ++ [⟨a, k⟩]) cells slots ∧ T'.heap = h' ∧ Wr h h' a k (.long x) ∧ own_LA Z h' a n (own_upd fl k x) ∧ ∀ target, Steps p.tables e below (T'.setTop { g with pc := g.pc + 1, stack := rest }) target → Steps p.tables e below (T.setTop g) target := by
  obtain ⟨cl, A, S, H⟩ := V
  obtain ⟨T', h', X', e', W, st⟩ := stJ X hx hZ eT A (own_in S h1 hk h2) hg hs hd
  rw [hk] at X' W
  refine ⟨T', h', X', e', W, ⟨_, A.same W, by rw [sz_set, S], fun i hi => ?_⟩, st⟩
  rw [own_set S h2]; unfold own_upd
  by_cases q : i = k
  · rw [if_pos q, if_pos q]
  · rw [if_neg q, if_neg q]; exact H i hi
theorem own_clone (X : Stand p l e R s m args below meth c T locs cells slots) (hx : p.tables.exec = Jvm.exec) (hZ : Z.Warmed39 s.vm) {a0 : Array Value} {own ad : String} {index : Nat} (hown : s.vm.findClass own = some m.cls)
    (w1 : (Cond.methodLink own index ⟨ad, "clone", "()Ljava/lang/Object;"⟩).before a0 Z = true) (w2 : (Cond.sameMethod ad "java/lang/Object" "clone" "()Ljava/lang/Object;").before a0 Z = true) (w3 : (Cond.native ⟨"java/lang/Object", "clone", "()Ljava/lang/Object;"⟩).before a0 Z = true)
    (w4 : (Cond.instanceMethod ⟨"java/lang/Object", "clone", "()Ljava/lang/Object;"⟩).before a0 Z = true) (w5 : (Cond.selects ad ⟨ad, "clone", "()Ljava/lang/Object;"⟩ ⟨"java/lang/Object", "clone", "()Ljava/lang/Object;"⟩).before a0 Z = true) (w6 : (Cond.castable ad "java/lang/Cloneable").before a0 Z = true)
    (eT : T.heap = h) (V : own_IA Z h a .int n f) (E : Exa Z h a ad) {g : JFrame} (hg : g.method = m) (hsize : g.locals.size = c.maxLocals) {rest : List Value} (hst : g.stack = .ref a :: rest) (hd : decode c.code g.pc = .ok (.invokevirtual index, 3))
    (hf : 1 ≤ R.frames) {W cap : Nat} (hW : 2 * g.monitorRoom + (rest.map fun v => v.category).sum ≤ W) (hl : W + 14 ≤ R.locals) (hcap : n ≤ cap) (hc : cells + 1 ≤ R.cells) (hsl : slots + cap ≤ R.slots) :
    ∃ T' h', Stand p l e R s m args below meth c T' locs (cells + 1) (slots + cap) ∧ T'.heap = h' ∧ Ext h h' ∧ own_IA Z h' h.size .int n f ∧ Exa Z h' h.size ad ∧
      ∀ target, Steps p.tables e below (T'.setTop { g with pc := g.pc + 3, stack := .ref h.size :: rest }) target → Steps p.tables e below (T.setTop g) target := by
  obtain ⟨cl, A, S, H⟩ := V
  have FC : FitC Z cl := fitC_of A fun i hi v hv => by rw [H i (by rw [← S]; exact hi)] at hv; cases hv; rfl
  obtain ⟨T', h', X', e', ex, A', E', st⟩ := cloneA X hx hZ hown w1 w2 w3 w4 w5 w6 eT A E FC hg hsize hst hd hf hW hl (by rw [S]; exact hcap) hc hsl
  exact ⟨T', h', X', e', ex, ⟨cloneOf cl, A', S, H⟩, E', st⟩
end Arrays
end Own
def own_f1 (lv : Int32) (dp : Int32) (ow : Int32) (nl : Int32) (nd : Int32) (ot : Int32) : Int32 := (if nl = lv then (if dp = nd then (if ot < ow then (1 : Int32) else (0 : Int32)) else (if dp < nd then (1 : Int32) else (0 : Int32))) else (if nl = (lv - (1 : Int32)) then (1 : Int32) else (0 : Int32)))
theorem pn_tessera_ShiftSpanner : plainName "tessera/ShiftSpanner" = true := by first | (simp [plainName, overriddenIn]; done) | decide +kernel
theorem d1_0 : decode prog_50_method_5_code 0 = .ok (.iload_n 3, 1) := by decide +kernel
theorem d1_1 : decode prog_50_method_5_code 1 = .ok (.iload_n 0, 1) := by decide +kernel
theorem d1_2 : decode prog_50_method_5_code 2 = .ok (.if_icmp .eq 16, 3) := by decide +kernel
theorem d1_5 : decode prog_50_method_5_code 5 = .ok (.iload_n 3, 1) := by decide +kernel
theorem d1_6 : decode prog_50_method_5_code 6 = .ok (.iload_n 0, 1) := by decide +kernel
theorem d1_7 : decode prog_50_method_5_code 7 = .ok (.iconst 1, 1) := by decide +kernel
theorem d1_8 : decode prog_50_method_5_code 8 = .ok (.isub, 1) := by decide +kernel
theorem d1_9 : decode prog_50_method_5_code 9 = .ok (.if_icmp .ne 7, 3) := by decide +kernel
theorem d1_12 : decode prog_50_method_5_code 12 = .ok (.iconst 1, 1) := by decide +kernel
theorem d1_13 : decode prog_50_method_5_code 13 = .ok (.goto 4, 3) := by decide +kernel
theorem d1_16 : decode prog_50_method_5_code 16 = .ok (.iconst 0, 1) := by decide +kernel
theorem d1_17 : decode prog_50_method_5_code 17 = .ok (.ireturn, 1) := by decide +kernel
theorem d1_18 : decode prog_50_method_5_code 18 = .ok (.iload_n 1, 1) := by decide +kernel
theorem d1_19 : decode prog_50_method_5_code 19 = .ok (.iload 4, 2) := by decide +kernel
theorem d1_21 : decode prog_50_method_5_code 21 = .ok (.if_icmp .eq 17, 3) := by decide +kernel
theorem d1_24 : decode prog_50_method_5_code 24 = .ok (.iload_n 1, 1) := by decide +kernel
theorem d1_25 : decode prog_50_method_5_code 25 = .ok (.iload 4, 2) := by decide +kernel
theorem d1_27 : decode prog_50_method_5_code 27 = .ok (.if_icmp .ge 7, 3) := by decide +kernel
theorem d1_30 : decode prog_50_method_5_code 30 = .ok (.iconst 1, 1) := by decide +kernel
theorem d1_31 : decode prog_50_method_5_code 31 = .ok (.goto 18, 3) := by decide +kernel
theorem d1_34 : decode prog_50_method_5_code 34 = .ok (.iconst 0, 1) := by decide +kernel
theorem d1_35 : decode prog_50_method_5_code 35 = .ok (.goto 14, 3) := by decide +kernel
theorem d1_38 : decode prog_50_method_5_code 38 = .ok (.iload 5, 2) := by decide +kernel
theorem d1_40 : decode prog_50_method_5_code 40 = .ok (.iload_n 2, 1) := by decide +kernel
theorem d1_41 : decode prog_50_method_5_code 41 = .ok (.if_icmp .ge 7, 3) := by decide +kernel
theorem d1_44 : decode prog_50_method_5_code 44 = .ok (.iconst 1, 1) := by decide +kernel
theorem d1_45 : decode prog_50_method_5_code 45 = .ok (.goto 4, 3) := by decide +kernel
theorem d1_48 : decode prog_50_method_5_code 48 = .ok (.iconst 0, 1) := by decide +kernel
theorem d1_49 : decode prog_50_method_5_code 49 = .ok (.ireturn, 1) := by decide +kernel
theorem ef_1 (m : MethodId) (x0 : Int32) (x1 : Int32) (x2 : Int32) (x3 : Int32) (x4 : Int32) (x5 : Int32) : entryFrame m #[(.int x0), (.int x1), (.int x2), (.int x3), (.int x4), (.int x5)] 6 = mkF m 0 #[.val (.int x0), .val (.int x1), .val (.int x2), .val (.int x3), .val (.int x4), .val (.int x5)] [] := by first | (simp [entryFrame, mkF, argsToLocals, Value.category]; done) | rfl
def own_Q1 (Z : State) (lv : Int32) (dp : Int32) (ow : Int32) (nl : Int32) (nd : Int32) (ot : Int32) (h0 : Heap) (n0 : Nat) (v : Option Value) (h : Heap) (L : List Loc) : Prop := v = some (.int (own_f1 lv dp ow nl nd ot)) ∧ Fr n0 L ∧ h = h0
set_option maxRecDepth 65536 in
set_option maxHeartbeats 40000000 in
theorem rm1 (l : Launch) (Z : State) (a0 : Array Value) (hw : ∀ d ∈ tables_1, d.before a0 Z = true) (ws : List Jvm.Cond) (lv : Int32) (dp : Int32) (ow : Int32) (nl : Int32) (nd : Int32) (ot : Int32) (h0 : Heap) (n0 : Nat) (Z0 : n0 ≤ h0.size)  :
    MetFree l (⟨"tessera/ShiftSpanner", "mayKeep", "(IIIIII)Z"⟩ : MethodName) (head1 (Jvm.Cond.code (⟨"tessera/ShiftSpanner", "mayKeep", "(IIIIII)Z"⟩ : MethodName) prog_50_method_5_code 6 (some .boolean) :: ws) ({ frames := 0, cells := 0, slots := 0, locals := 0 } : Room)) (fun a U => a = #[(.int lv), (.int dp), (.int ow), (.int nl), (.int nd), (.int ot)] ∧ Z.Warmed39 U.vm ∧ U.heap = h0) (fun _ _ _ _ _ => True) (fun _ U o U' => ∃ v L, o = .returned v ∧ own_Q1 Z lv dp ow nl nd ot h0 n0 v U'.heap L ∧ FrameEnd U o U' L ({ frames := 0, cells := 0, slots := 0, locals := 0 } : Room).cells ({ frames := 0, cells := 0, slots := 0, locals := 0 } : Room).slots) := by
  refine MetFree.of_bodySF (plainFor_of_name pn_tessera_ShiftSpanner) hisR ?_
  intro p e s m args below meth c s₁ Bd hml0 hP hK
  obtain ⟨rfl, hZ, hh⟩ := hP
  have hx := Bd.exec
  have hby := Bd.bytes
  have hml : c.maxLocals = 6 := hml0
  have hown : s.vm.findClass "tessera/ShiftSpanner" = some m.cls := findClass_of_methodNamed Bd.named
  have hnm := (name_of_methodNamed Bd.named Bd.method).1
  have X0 : Stand p l e ({ frames := 0, cells := 0, slots := 0, locals := 0 } : Room) s m #[(.int lv), (.int dp), (.int ow), (.int nl), (.int nd), (.int ot)] below meth c s₁ [] 0 0 := Stand.of_body Bd
  have e0 : s₁.heap = h0 := by rw [← hh, Bd.state]; rfl
  have N0 := Fr.nil n0
  have Zs := Z0
  show own_Goes p e below s (own_Q1 Z lv dp ow nl nd ot h0 n0) ({ frames := 0, cells := 0, slots := 0, locals := 0 } : Room).cells ({ frames := 0, cells := 0, slots := 0, locals := 0 } : Room).slots _
  refine own_go (B := s₁.setTop (mkF m 0 #[.val (.int lv), .val (.int dp), .val (.int ow), .val (.int nl), .val (.int nd), .val (.int ot)] [])) (fun t k => castTop (ef_1 m lv dp ow nl nd ot) k) ?_
  refine own_go (B := s₁.setTop (mkF m 1 #[.val (.int lv), .val (.int dp), .val (.int ow), .val (.int nl), .val (.int nd), .val (.int ot)] [(.int nl)])) (fun t k => XS.iloadN X0.here hx rfl (Jvm.hb hby d1_0) rfl k) ?_
  refine own_go (B := s₁.setTop (mkF m 2 #[.val (.int lv), .val (.int dp), .val (.int ow), .val (.int nl), .val (.int nd), .val (.int ot)] [(.int lv), (.int nl)])) (fun t k => XS.iloadN X0.here hx rfl (Jvm.hb hby d1_1) rfl k) ?_
  by_cases hc2_1 : nl = lv
  · refine own_go (B := s₁.setTop (mkF m 18 #[.val (.int lv), .val (.int dp), .val (.int ow), .val (.int nl), .val (.int nd), .val (.int ot)] [])) (fun t k => XS.icmpYes X0.here hx rfl (pc0 := 2) (pc' := 18) rfl (Jvm.hb hby d1_2) rfl (teq hc2_1).1 (by decide) (by decide) k) ?_
    refine own_go (B := s₁.setTop (mkF m 19 #[.val (.int lv), .val (.int dp), .val (.int ow), .val (.int nl), .val (.int nd), .val (.int ot)] [(.int dp)])) (fun t k => XS.iloadN X0.here hx rfl (Jvm.hb hby d1_18) rfl k) ?_
    refine own_go (B := s₁.setTop (mkF m 21 #[.val (.int lv), .val (.int dp), .val (.int ow), .val (.int nl), .val (.int nd), .val (.int ot)] [(.int nd), (.int dp)])) (fun t k => XS.iload X0.here hx rfl (Jvm.hb hby d1_19) rfl k) ?_
    by_cases hc21_2 : dp = nd
    · refine own_go (B := s₁.setTop (mkF m 38 #[.val (.int lv), .val (.int dp), .val (.int ow), .val (.int nl), .val (.int nd), .val (.int ot)] [])) (fun t k => XS.icmpYes X0.here hx rfl (pc0 := 21) (pc' := 38) rfl (Jvm.hb hby d1_21) rfl (teq hc21_2).1 (by decide) (by decide) k) ?_
      refine own_go (B := s₁.setTop (mkF m 40 #[.val (.int lv), .val (.int dp), .val (.int ow), .val (.int nl), .val (.int nd), .val (.int ot)] [(.int ot)])) (fun t k => XS.iload X0.here hx rfl (Jvm.hb hby d1_38) rfl k) ?_
      refine own_go (B := s₁.setTop (mkF m 41 #[.val (.int lv), .val (.int dp), .val (.int ow), .val (.int nl), .val (.int nd), .val (.int ot)] [(.int ow), (.int ot)])) (fun t k => XS.iloadN X0.here hx rfl (Jvm.hb hby d1_40) rfl k) ?_
      by_cases hc41_3 : ot < ow
      · refine own_go (B := s₁.setTop (mkF m 44 #[.val (.int lv), .val (.int dp), .val (.int ow), .val (.int nl), .val (.int nd), .val (.int ot)] [])) (fun t k => XS.icmpNo X0.here hx rfl (Jvm.hb hby d1_41) rfl (tlt hc41_3).2.1 k) ?_
        refine own_go (B := s₁.setTop (mkF m 45 #[.val (.int lv), .val (.int dp), .val (.int ow), .val (.int nl), .val (.int nd), .val (.int ot)] [(.int (1 : Int32))])) (fun t k => XS.iconst X0.here hx rfl (Jvm.hb hby d1_44) k) ?_
        refine own_go (B := s₁.setTop (mkF m 49 #[.val (.int lv), .val (.int dp), .val (.int ow), .val (.int nl), .val (.int nd), .val (.int ot)] [(.int (1 : Int32))])) (fun t k => XS.goto X0.here hx rfl (pc0 := 45) (pc' := 49) rfl (Jvm.hb hby d1_45) (by decide) (by decide) k) ?_
        refine own_out X0 (v := (some (.int (1 : Int32)))) (fun h => by rw [Bd.returns] at h; cases h) Bd.notSynchronized (fun fs hr => retOut X0 hx (t := .boolean) Bd.returns rfl (by first | exact Or.inl ⟨rfl, by simp, _, rfl⟩) (Jvm.hb hby d1_49) hr) ?_ (by decide) (by decide)
        show own_Q1 Z lv dp ow nl nd ot h0 n0 (some (.int (1 : Int32))) s₁.heap _
        rw [e0]
        exact ⟨congrArg (fun z => some (Value.int z)) (by unfold own_f1; simp only [if_pos hc2_1, if_pos hc21_2, if_pos hc41_3]), N0, rfl⟩
      · refine own_go (B := s₁.setTop (mkF m 48 #[.val (.int lv), .val (.int dp), .val (.int ow), .val (.int nl), .val (.int nd), .val (.int ot)] [])) (fun t k => XS.icmpYes X0.here hx rfl (pc0 := 41) (pc' := 48) rfl (Jvm.hb hby d1_41) rfl (flt hc41_3).2.1 (by decide) (by decide) k) ?_
        refine own_go (B := s₁.setTop (mkF m 49 #[.val (.int lv), .val (.int dp), .val (.int ow), .val (.int nl), .val (.int nd), .val (.int ot)] [(.int (0 : Int32))])) (fun t k => XS.iconst X0.here hx rfl (Jvm.hb hby d1_48) k) ?_
        refine own_out X0 (v := (some (.int (0 : Int32)))) (fun h => by rw [Bd.returns] at h; cases h) Bd.notSynchronized (fun fs hr => retOut X0 hx (t := .boolean) Bd.returns rfl (by first | exact Or.inl ⟨rfl, by simp, _, rfl⟩) (Jvm.hb hby d1_49) hr) ?_ (by decide) (by decide)
        show own_Q1 Z lv dp ow nl nd ot h0 n0 (some (.int (0 : Int32))) s₁.heap _
        rw [e0]
        exact ⟨congrArg (fun z => some (Value.int z)) (by unfold own_f1; simp only [if_pos hc2_1, if_pos hc21_2, if_neg hc41_3]), N0, rfl⟩
    · refine own_go (B := s₁.setTop (mkF m 24 #[.val (.int lv), .val (.int dp), .val (.int ow), .val (.int nl), .val (.int nd), .val (.int ot)] [])) (fun t k => XS.icmpNo X0.here hx rfl (Jvm.hb hby d1_21) rfl (feq hc21_2).1 k) ?_
      refine own_go (B := s₁.setTop (mkF m 25 #[.val (.int lv), .val (.int dp), .val (.int ow), .val (.int nl), .val (.int nd), .val (.int ot)] [(.int dp)])) (fun t k => XS.iloadN X0.here hx rfl (Jvm.hb hby d1_24) rfl k) ?_
      refine own_go (B := s₁.setTop (mkF m 27 #[.val (.int lv), .val (.int dp), .val (.int ow), .val (.int nl), .val (.int nd), .val (.int ot)] [(.int nd), (.int dp)])) (fun t k => XS.iload X0.here hx rfl (Jvm.hb hby d1_25) rfl k) ?_
      by_cases hc27_4 : dp < nd
      · refine own_go (B := s₁.setTop (mkF m 30 #[.val (.int lv), .val (.int dp), .val (.int ow), .val (.int nl), .val (.int nd), .val (.int ot)] [])) (fun t k => XS.icmpNo X0.here hx rfl (Jvm.hb hby d1_27) rfl (tlt hc27_4).2.1 k) ?_
        refine own_go (B := s₁.setTop (mkF m 31 #[.val (.int lv), .val (.int dp), .val (.int ow), .val (.int nl), .val (.int nd), .val (.int ot)] [(.int (1 : Int32))])) (fun t k => XS.iconst X0.here hx rfl (Jvm.hb hby d1_30) k) ?_
        refine own_go (B := s₁.setTop (mkF m 49 #[.val (.int lv), .val (.int dp), .val (.int ow), .val (.int nl), .val (.int nd), .val (.int ot)] [(.int (1 : Int32))])) (fun t k => XS.goto X0.here hx rfl (pc0 := 31) (pc' := 49) rfl (Jvm.hb hby d1_31) (by decide) (by decide) k) ?_
        refine own_out X0 (v := (some (.int (1 : Int32)))) (fun h => by rw [Bd.returns] at h; cases h) Bd.notSynchronized (fun fs hr => retOut X0 hx (t := .boolean) Bd.returns rfl (by first | exact Or.inl ⟨rfl, by simp, _, rfl⟩) (Jvm.hb hby d1_49) hr) ?_ (by decide) (by decide)
        show own_Q1 Z lv dp ow nl nd ot h0 n0 (some (.int (1 : Int32))) s₁.heap _
        rw [e0]
        exact ⟨congrArg (fun z => some (Value.int z)) (by unfold own_f1; simp only [if_pos hc2_1, if_neg hc21_2, if_pos hc27_4]), N0, rfl⟩
      · refine own_go (B := s₁.setTop (mkF m 34 #[.val (.int lv), .val (.int dp), .val (.int ow), .val (.int nl), .val (.int nd), .val (.int ot)] [])) (fun t k => XS.icmpYes X0.here hx rfl (pc0 := 27) (pc' := 34) rfl (Jvm.hb hby d1_27) rfl (flt hc27_4).2.1 (by decide) (by decide) k) ?_
        refine own_go (B := s₁.setTop (mkF m 35 #[.val (.int lv), .val (.int dp), .val (.int ow), .val (.int nl), .val (.int nd), .val (.int ot)] [(.int (0 : Int32))])) (fun t k => XS.iconst X0.here hx rfl (Jvm.hb hby d1_34) k) ?_
        refine own_go (B := s₁.setTop (mkF m 49 #[.val (.int lv), .val (.int dp), .val (.int ow), .val (.int nl), .val (.int nd), .val (.int ot)] [(.int (0 : Int32))])) (fun t k => XS.goto X0.here hx rfl (pc0 := 35) (pc' := 49) rfl (Jvm.hb hby d1_35) (by decide) (by decide) k) ?_
        refine own_out X0 (v := (some (.int (0 : Int32)))) (fun h => by rw [Bd.returns] at h; cases h) Bd.notSynchronized (fun fs hr => retOut X0 hx (t := .boolean) Bd.returns rfl (by first | exact Or.inl ⟨rfl, by simp, _, rfl⟩) (Jvm.hb hby d1_49) hr) ?_ (by decide) (by decide)
        show own_Q1 Z lv dp ow nl nd ot h0 n0 (some (.int (0 : Int32))) s₁.heap _
        rw [e0]
        exact ⟨congrArg (fun z => some (Value.int z)) (by unfold own_f1; simp only [if_pos hc2_1, if_neg hc21_2, if_neg hc27_4]), N0, rfl⟩
  · refine own_go (B := s₁.setTop (mkF m 5 #[.val (.int lv), .val (.int dp), .val (.int ow), .val (.int nl), .val (.int nd), .val (.int ot)] [])) (fun t k => XS.icmpNo X0.here hx rfl (Jvm.hb hby d1_2) rfl (feq hc2_1).1 k) ?_
    refine own_go (B := s₁.setTop (mkF m 6 #[.val (.int lv), .val (.int dp), .val (.int ow), .val (.int nl), .val (.int nd), .val (.int ot)] [(.int nl)])) (fun t k => XS.iloadN X0.here hx rfl (Jvm.hb hby d1_5) rfl k) ?_
    refine own_go (B := s₁.setTop (mkF m 7 #[.val (.int lv), .val (.int dp), .val (.int ow), .val (.int nl), .val (.int nd), .val (.int ot)] [(.int lv), (.int nl)])) (fun t k => XS.iloadN X0.here hx rfl (Jvm.hb hby d1_6) rfl k) ?_
    refine own_go (B := s₁.setTop (mkF m 8 #[.val (.int lv), .val (.int dp), .val (.int ow), .val (.int nl), .val (.int nd), .val (.int ot)] [(.int (1 : Int32)), (.int lv), (.int nl)])) (fun t k => XS.iconst X0.here hx rfl (Jvm.hb hby d1_7) k) ?_
    refine own_go (B := s₁.setTop (mkF m 9 #[.val (.int lv), .val (.int dp), .val (.int ow), .val (.int nl), .val (.int nd), .val (.int ot)] [(.int (lv - (1 : Int32))), (.int nl)])) (fun t k => XS.isub X0.here hx rfl (Jvm.hb hby d1_8) rfl k) ?_
    by_cases hc9_5 : nl = (lv - (1 : Int32))
    · refine own_go (B := s₁.setTop (mkF m 12 #[.val (.int lv), .val (.int dp), .val (.int ow), .val (.int nl), .val (.int nd), .val (.int ot)] [])) (fun t k => XS.icmpNo X0.here hx rfl (Jvm.hb hby d1_9) rfl (teq hc9_5).2 k) ?_
      refine own_go (B := s₁.setTop (mkF m 13 #[.val (.int lv), .val (.int dp), .val (.int ow), .val (.int nl), .val (.int nd), .val (.int ot)] [(.int (1 : Int32))])) (fun t k => XS.iconst X0.here hx rfl (Jvm.hb hby d1_12) k) ?_
      refine own_go (B := s₁.setTop (mkF m 17 #[.val (.int lv), .val (.int dp), .val (.int ow), .val (.int nl), .val (.int nd), .val (.int ot)] [(.int (1 : Int32))])) (fun t k => XS.goto X0.here hx rfl (pc0 := 13) (pc' := 17) rfl (Jvm.hb hby d1_13) (by decide) (by decide) k) ?_
      refine own_out X0 (v := (some (.int (1 : Int32)))) (fun h => by rw [Bd.returns] at h; cases h) Bd.notSynchronized (fun fs hr => retOut X0 hx (t := .boolean) Bd.returns rfl (by first | exact Or.inl ⟨rfl, by simp, _, rfl⟩) (Jvm.hb hby d1_17) hr) ?_ (by decide) (by decide)
      show own_Q1 Z lv dp ow nl nd ot h0 n0 (some (.int (1 : Int32))) s₁.heap _
      rw [e0]
      exact ⟨congrArg (fun z => some (Value.int z)) (by unfold own_f1; simp only [if_neg hc2_1, if_pos hc9_5]), N0, rfl⟩
    · refine own_go (B := s₁.setTop (mkF m 16 #[.val (.int lv), .val (.int dp), .val (.int ow), .val (.int nl), .val (.int nd), .val (.int ot)] [])) (fun t k => XS.icmpYes X0.here hx rfl (pc0 := 9) (pc' := 16) rfl (Jvm.hb hby d1_9) rfl (feq hc9_5).2 (by decide) (by decide) k) ?_
      refine own_go (B := s₁.setTop (mkF m 17 #[.val (.int lv), .val (.int dp), .val (.int ow), .val (.int nl), .val (.int nd), .val (.int ot)] [(.int (0 : Int32))])) (fun t k => XS.iconst X0.here hx rfl (Jvm.hb hby d1_16) k) ?_
      refine own_out X0 (v := (some (.int (0 : Int32)))) (fun h => by rw [Bd.returns] at h; cases h) Bd.notSynchronized (fun fs hr => retOut X0 hx (t := .boolean) Bd.returns rfl (by first | exact Or.inl ⟨rfl, by simp, _, rfl⟩) (Jvm.hb hby d1_17) hr) ?_ (by decide) (by decide)
      show own_Q1 Z lv dp ow nl nd ot h0 n0 (some (.int (0 : Int32))) s₁.heap _
      rw [e0]
      exact ⟨congrArg (fun z => some (Value.int z)) (by unfold own_f1; simp only [if_neg hc2_1, if_neg hc9_5]), N0, rfl⟩
theorem own_lv (x : Int32) : ¬ ((x &&& (2147483647 : Int32)) < (0 : Int32)) := by
  have h := c_and x 2147483647 (by decide)
  rw [Int32.lt_iff_toInt_lt]; have : (0 : Int32).toInt = 0 := rfl; omega
theorem own_gap (lv nl : Int32) (g : Int64) (h0 : ¬ (lv < (0 : Int32))) (hg : g = (nl.toInt64) - (lv.toInt64)) : g.toInt = nl.toInt - lv.toInt := by
  have h1 := c_lsub nl.toInt64 lv.toInt64
  rw [← hg, c_i2l, c_i2l] at h1
  have r1 := rng32 nl; have r2 := rng32 lv; have r3 := rng64 g
  omega
theorem own_f1_eq (lv dp ow nl nd ot : Int32) : own_f1 lv dp ow nl nd ot = if nl = lv then (if dp < nd then (1 : Int32) else if nd < dp then 0 else if ot < ow then 1 else 0) else if nl = lv - 1 then 1 else 0 := by
  unfold own_f1
  by_cases h1 : nl = lv
  · simp only [if_pos h1]
    by_cases h2 : dp = nd
    · subst h2; simp
    · simp only [if_neg h2]
      by_cases h3 : dp < nd
      · simp only [if_pos h3]
      · have h4 : nd < dp := by
          simp only [Int32.lt_iff_toInt_lt, ← Int32.toInt_inj] at *; omega
        simp only [if_neg h3, if_pos h4]
  · simp only [if_neg h1]
theorem own_ex (lv dp ow nl nd ot r : Int32) (g : Int64) (h0 : ¬ (lv < (0 : Int32))) (hg : g = (nl.toInt64) - (lv.toInt64)) (hr : r = own_f1 lv dp ow nl nd ot) :
    r = if g = (-1 : Int64) then (1 : Int32) else if g = (0 : Int64) then (if dp < nd then 1 else if nd < dp then 0 else if ot < ow then 1 else 0) else 0 := by
  have hq := own_gap lv nl g h0 hg
  have e1 : g = (-1 : Int64) ↔ nl = lv - 1 := by
    have h1 := c_isub lv 1
    have r1 := rng32 nl; have r2 := rng32 lv; have r3 := rng32 (lv - 1)
    have o : (1 : Int32).toInt = 1 := rfl
    have o2 : (-1 : Int64).toInt = -1 := rfl
    have o3 : (0 : Int32).toInt = 0 := rfl
    rw [o] at h1
    simp only [Int32.lt_iff_toInt_lt, ← Int32.toInt_inj, ← Int64.toInt_inj, o2, o3] at *
    constructor <;> intro q <;> omega
  have e2 : g = (0 : Int64) ↔ nl = lv := by
    have o2 : (0 : Int64).toInt = 0 := rfl
    simp only [← Int32.toInt_inj, ← Int64.toInt_inj, o2] at *
    constructor <;> intro q <;> omega
  rw [hr, own_f1_eq]
  by_cases a1 : nl = lv
  · have b1 : ¬ (g = (-1 : Int64)) := by rw [e2.mpr a1]; decide
    simp only [if_pos a1, if_neg b1, if_pos (e2.mpr a1)]
  · have b1 : ¬ (g = (0 : Int64)) := fun q => a1 (e2.mp q)
    by_cases a2 : nl = lv - 1
    · simp only [if_neg a1, if_pos a2, if_pos (e1.mpr a2)]
    · simp only [if_neg a1, if_neg a2, if_neg (fun q => a2 (e1.mp q)), if_neg b1]
theorem own_opp (lv dp ow nl nd ot r t : Int32) (g : Int64) (h0 : ¬ (lv < (0 : Int32))) (hg : g = (nl.toInt64) - (lv.toInt64)) (hr : r = own_f1 lv dp ow nl nd ot) (ht : t = own_f1 nl nd ot lv dp ow)
    (hne : ¬ (ow = ot)) (h1 : ¬ (g < (-1 : Int64))) (h2 : ¬ ((1 : Int64) < g)) : ¬ (r = t) := by
  have hq := own_gap lv nl g h0 hg
  have k1 := c_isub lv 1
  have k2 := c_isub nl 1
  have r1 := rng32 nl; have r2 := rng32 lv; have r3 := rng32 (lv - 1); have r4 := rng32 (nl - 1)
  have o : (1 : Int32).toInt = 1 := rfl
  have o0 : (0 : Int32).toInt = 0 := rfl
  have o1 : (1 : Int64).toInt = 1 := rfl
  have o2 : (-1 : Int64).toInt = -1 := rfl
  rw [o] at k1 k2
  rw [hr, ht, own_f1_eq, own_f1_eq]
  simp only [Int32.lt_iff_toInt_lt, ← Int32.toInt_inj, Int64.lt_iff_toInt_lt, o0, o1, o2] at *
  split <;> split <;> (try split) <;> (try split) <;> (try split) <;> (try split) <;> (try split) <;> (try split) <;> first | omega | (simp only [o, o0]; omega) | decide
theorem pn_tessera_ShiftSpannerMayKeepPinLaw : plainName "tessera/ShiftSpannerMayKeepPinLaw" = true := by first | (simp [plainName, overriddenIn]; done) | decide +kernel
theorem pd_0 : parseMethodDescriptor "(IIIIII)Z" = some ⟨[.int, .int, .int, .int, .int, .int], some .boolean⟩ := by decide +kernel
theorem ef_0 (m : MethodId) (x0 : Int32) (x1 : Int32) (x2 : Int32) (x3 : Int32) (x4 : Int32) (x5 : Int32) : entryFrame m #[(.int x0), (.int x1), (.int x2), (.int x3), (.int x4), (.int x5)] maxLocals = mkF m 0 #[.val (.int x0), .val (.int x1), .val (.int x2), .val (.int x3), .val (.int x4), .val (.int x5), .unset, .unset, .unset, .unset, .unset, .unset, .unset, .unset, .unset] [] := by first | (simp [entryFrame, mkF, argsToLocals, Value.category, maxLocals]; done) | rfl
def own_Q0 (Z : State) (p1 : Int32) (p2 : Int32) (p3 : Int32) (p4 : Int32) (p5 : Int32) (p6 : Int32) (h0 : Heap) (n0 : Nat) (v : Option Value) (h : Heap) (L : List Loc) : Prop := v = some (.int 1) ∧ Fr n0 L
set_option maxRecDepth 65536 in
set_option maxHeartbeats 40000000 in
theorem rm0 (l : Launch) (Z : State) (a0 : Array Value) (hw : ∀ d ∈ tables_1, d.before a0 Z = true) (ws : List Jvm.Cond) (p1 : Int32) (p2 : Int32) (p3 : Int32) (p4 : Int32) (p5 : Int32) (p6 : Int32) (h0 : Heap) (n0 : Nat) (Z0 : n0 ≤ h0.size)  :
    MetFree l x (head1 (Jvm.Cond.code x code maxLocals ret :: ws) room_1) (fun a U => a = #[(.int p1), (.int p2), (.int p3), (.int p4), (.int p5), (.int p6)] ∧ Z.Warmed39 U.vm ∧ U.heap = h0) (fun _ _ _ _ _ => True) (fun _ U o U' => ∃ v L, o = .returned v ∧ own_Q0 Z p1 p2 p3 p4 p5 p6 h0 n0 v U'.heap L ∧ FrameEnd U o U' L room_1.cells room_1.slots) := by
  refine MetFree.of_bodySF (plainFor_of_name pn_tessera_ShiftSpannerMayKeepPinLaw) hisR ?_
  intro p e s m args below meth c s₁ Bd hml0 hP hK
  obtain ⟨rfl, hZ, hh⟩ := hP
  have hx := Bd.exec
  have hby := Bd.bytes
  have hml : c.maxLocals = 15 := hml0
  have hown : s.vm.findClass "tessera/ShiftSpannerMayKeepPinLaw" = some m.cls := findClass_of_methodNamed Bd.named
  have hnm := (name_of_methodNamed Bd.named Bd.method).1
  have X0 : Stand p l e room_1 s m #[(.int p1), (.int p2), (.int p3), (.int p4), (.int p5), (.int p6)] below meth c s₁ [] 0 0 := Stand.of_body Bd
  have e0 : s₁.heap = h0 := by rw [← hh, Bd.state]; rfl
  have N0 := Fr.nil n0
  have Zs := Z0
  show own_Goes p e below s (own_Q0 Z p1 p2 p3 p4 p5 p6 h0 n0) room_1.cells room_1.slots _
  refine own_go (B := s₁.setTop (mkF m 0 #[.val (.int p1), .val (.int p2), .val (.int p3), .val (.int p4), .val (.int p5), .val (.int p6), .unset, .unset, .unset, .unset, .unset, .unset, .unset, .unset, .unset] [])) (fun t k => castTop (ef_0 m p1 p2 p3 p4 p5 p6) k) ?_
  refine own_go (B := s₁.setTop (mkF m 1 #[.val (.int p1), .val (.int p2), .val (.int p3), .val (.int p4), .val (.int p5), .val (.int p6), .unset, .unset, .unset, .unset, .unset, .unset, .unset, .unset, .unset] [(.int p1)])) (fun t k => XS.iloadN X0.here hx rfl (Jvm.hb hby at_0) rfl k) ?_
  refine own_go (B := s₁.setTop (mkF m 3 #[.val (.int p1), .val (.int p2), .val (.int p3), .val (.int p4), .val (.int p5), .val (.int p6), .unset, .unset, .unset, .unset, .unset, .unset, .unset, .unset, .unset] [(.int (2147483647 : Int32)), (.int p1)])) (fun t k => X0.ldcInt hx hown (mvT hZ (own_w hw 0 rfl)) (g := (mkF m 1 #[.val (.int p1), .val (.int p2), .val (.int p3), .val (.int p4), .val (.int p5), .val (.int p6), .unset, .unset, .unset, .unset, .unset, .unset, .unset, .unset, .unset] [(.int p1)])) rfl (Jvm.hb hby at_1) _ k) ?_
  refine own_go (B := s₁.setTop (mkF m 4 #[.val (.int p1), .val (.int p2), .val (.int p3), .val (.int p4), .val (.int p5), .val (.int p6), .unset, .unset, .unset, .unset, .unset, .unset, .unset, .unset, .unset] [(.int (p1 &&& (2147483647 : Int32)))])) (fun t k => XS.iand X0.here hx rfl (Jvm.hb hby at_3) rfl k) ?_
  obtain ⟨lv, hlv⟩ : ∃ z : Int32, z = (p1 &&& (2147483647 : Int32)) := ⟨_, rfl⟩
  rw [← hlv]
  have hlv0 : ¬ (lv < (0 : Int32)) := by rw [hlv]; exact own_lv _
  refine own_go (B := s₁.setTop (mkF m 6 #[.val (.int p1), .val (.int p2), .val (.int p3), .val (.int p4), .val (.int p5), .val (.int p6), .val (.int lv), .unset, .unset, .unset, .unset, .unset, .unset, .unset, .unset] [])) (fun t k => XS.istore X0.here hx rfl (Jvm.hb hby at_4) rfl (l' := #[.val (.int p1), .val (.int p2), .val (.int p3), .val (.int p4), .val (.int p5), .val (.int p6), .val (.int lv), .unset, .unset, .unset, .unset, .unset, .unset, .unset, .unset]) rfl k) ?_
  refine own_go (B := s₁.setTop (mkF m 7 #[.val (.int p1), .val (.int p2), .val (.int p3), .val (.int p4), .val (.int p5), .val (.int p6), .val (.int lv), .unset, .unset, .unset, .unset, .unset, .unset, .unset, .unset] [(.int p2)])) (fun t k => XS.iloadN X0.here hx rfl (Jvm.hb hby at_6) rfl k) ?_
  refine own_go (B := s₁.setTop (mkF m 8 #[.val (.int p1), .val (.int p2), .val (.int p3), .val (.int p4), .val (.int p5), .val (.int p6), .val (.int lv), .unset, .unset, .unset, .unset, .unset, .unset, .unset, .unset] [(.int (3 : Int32)), (.int p2)])) (fun t k => XS.iconst X0.here hx rfl (Jvm.hb hby at_7) k) ?_
  refine own_go (B := s₁.setTop (mkF m 9 #[.val (.int p1), .val (.int p2), .val (.int p3), .val (.int p4), .val (.int p5), .val (.int p6), .val (.int lv), .unset, .unset, .unset, .unset, .unset, .unset, .unset, .unset] [(.int (p2 &&& (3 : Int32)))])) (fun t k => XS.iand X0.here hx rfl (Jvm.hb hby at_8) rfl k) ?_
  refine own_go (B := s₁.setTop (mkF m 11 #[.val (.int p1), .val (.int p2), .val (.int p3), .val (.int p4), .val (.int p5), .val (.int p6), .val (.int lv), .val (.int (p2 &&& (3 : Int32))), .unset, .unset, .unset, .unset, .unset, .unset, .unset] [])) (fun t k => XS.istore X0.here hx rfl (Jvm.hb hby at_9) rfl (l' := #[.val (.int p1), .val (.int p2), .val (.int p3), .val (.int p4), .val (.int p5), .val (.int p6), .val (.int lv), .val (.int (p2 &&& (3 : Int32))), .unset, .unset, .unset, .unset, .unset, .unset, .unset]) rfl k) ?_
  have J56 : ∀ (Tj56 : State) (Lj56 : List Loc) (Xj56 : Stand p l e room_1 s m #[(.int p1), (.int p2), (.int p3), (.int p4), (.int p5), (.int p6)] below meth c Tj56 Lj56 0 0) (ej56 : Tj56.heap = h0) (Nj56 : Fr n0 Lj56) (nl : Int32), own_Goes p e below s (own_Q0 Z p1 p2 p3 p4 p5 p6 h0 n0) room_1.cells room_1.slots (Tj56.setTop (mkF m 56 #[.val (.int p1), .val (.int p2), .val (.int p3), .val (.int p4), .val (.int p5), .val (.int p6), .val (.int lv), .val (.int (p2 &&& (3 : Int32))), .val (.int nl), .unset, .unset, .unset, .unset, .unset, .unset] [])) := by
    intro Tj56 Lj56 Xj56 ej56 Nj56 nl
    have J69 : ∀ (Tj69 : State) (Lj69 : List Loc) (Xj69 : Stand p l e room_1 s m #[(.int p1), (.int p2), (.int p3), (.int p4), (.int p5), (.int p6)] below meth c Tj69 Lj69 0 0) (ej69 : Tj69.heap = h0) (Nj69 : Fr n0 Lj69) (nd : Int32), own_Goes p e below s (own_Q0 Z p1 p2 p3 p4 p5 p6 h0 n0) room_1.cells room_1.slots (Tj69.setTop (mkF m 69 #[.val (.int p1), .val (.int p2), .val (.int p3), .val (.int p4), .val (.int p5), .val (.int p6), .val (.int lv), .val (.int (p2 &&& (3 : Int32))), .val (.int nl), .val (.int nd), .unset, .unset, .unset, .unset, .unset] [])) := by
      intro Tj69 Lj69 Xj69 ej69 Nj69 nd
      refine own_go (B := Tj69.setTop (mkF m 71 #[.val (.int p1), .val (.int p2), .val (.int p3), .val (.int p4), .val (.int p5), .val (.int p6), .val (.int lv), .val (.int (p2 &&& (3 : Int32))), .val (.int nl), .val (.int nd), .unset, .unset, .unset, .unset, .unset] [(.int lv)])) (fun t k => XS.iload Xj69.here hx rfl (Jvm.hb hby at_69) rfl k) ?_
      refine own_go (B := Tj69.setTop (mkF m 72 #[.val (.int p1), .val (.int p2), .val (.int p3), .val (.int p4), .val (.int p5), .val (.int p6), .val (.int lv), .val (.int (p2 &&& (3 : Int32))), .val (.int nl), .val (.int nd), .unset, .unset, .unset, .unset, .unset] [(.int p3), (.int lv)])) (fun t k => XS.iloadN Xj69.here hx rfl (Jvm.hb hby at_71) rfl k) ?_
      refine own_go (B := Tj69.setTop (mkF m 74 #[.val (.int p1), .val (.int p2), .val (.int p3), .val (.int p4), .val (.int p5), .val (.int p6), .val (.int lv), .val (.int (p2 &&& (3 : Int32))), .val (.int nl), .val (.int nd), .unset, .unset, .unset, .unset, .unset] [(.int p5), (.int p3), (.int lv)])) (fun t k => XS.iload Xj69.here hx rfl (Jvm.hb hby at_72) rfl k) ?_
      refine own_go (B := Tj69.setTop (mkF m 76 #[.val (.int p1), .val (.int p2), .val (.int p3), .val (.int p4), .val (.int p5), .val (.int p6), .val (.int lv), .val (.int (p2 &&& (3 : Int32))), .val (.int nl), .val (.int nd), .unset, .unset, .unset, .unset, .unset] [(.int nl), (.int p5), (.int p3), (.int lv)])) (fun t k => XS.iload Xj69.here hx rfl (Jvm.hb hby at_74) rfl k) ?_
      refine own_go (B := Tj69.setTop (mkF m 78 #[.val (.int p1), .val (.int p2), .val (.int p3), .val (.int p4), .val (.int p5), .val (.int p6), .val (.int lv), .val (.int (p2 &&& (3 : Int32))), .val (.int nl), .val (.int nd), .unset, .unset, .unset, .unset, .unset] [(.int nd), (.int nl), (.int p5), (.int p3), (.int lv)])) (fun t k => XS.iload Xj69.here hx rfl (Jvm.hb hby at_76) rfl k) ?_
      refine own_go (B := Tj69.setTop (mkF m 80 #[.val (.int p1), .val (.int p2), .val (.int p3), .val (.int p4), .val (.int p5), .val (.int p6), .val (.int lv), .val (.int (p2 &&& (3 : Int32))), .val (.int nl), .val (.int nd), .unset, .unset, .unset, .unset, .unset] [(.int p6), (.int nd), (.int nl), (.int p5), (.int p3), (.int lv)])) (fun t k => XS.iload Xj69.here hx rfl (Jvm.hb hby at_78) rfl k) ?_
      obtain ⟨_, _, ⟨T6, La6, ka6, na6⟩, -, X6, ⟨Lc6, hQ6, l6, y6, z6⟩, st6⟩ := Jvm.LawKit.callS Xj69 hx (y := (⟨"tessera/ShiftSpanner", "mayKeep", "(IIIIII)Z"⟩ : MethodName)) hown (mvT hZ (own_w hw 1 rfl)) (mvT hZ (own_w hw 2 rfl)) (mvT hZ (own_w hw 3 rfl)) (mvT hZ (own_w hw 4 rfl)) (by decide) (backOf (W := 0) (rm1 l Z a0 hw [] lv p3 p5 nl nd p6 h0 n0 Zs) hZ (own_w hw 4 rfl) (own_w hw 3 rfl) (by decide) (by decide)) (g := (mkF m 80 #[.val (.int p1), .val (.int p2), .val (.int p3), .val (.int p4), .val (.int p5), .val (.int p6), .val (.int lv), .val (.int (p2 &&& (3 : Int32))), .val (.int nl), .val (.int nd), .unset, .unset, .unset, .unset, .unset] [(.int p6), (.int nd), (.int nl), (.int p5), (.int p3), (.int lv)])) rfl (by rw [hml]; rfl) (argsL := [(.int lv), (.int p3), (.int p5), (.int nl), (.int nd), (.int p6)]) (rest := []) (lenOf pd_0 rfl) rfl (by show 2 * 0 + _ ≤ _; exact Nat.le_of_eq rfl) (Jvm.hb hby at_80) (fun _ _ => ⟨rfl, ej69, (by decide : 0 + 0 ≤ _), (by decide : 0 + 0 ≤ _)⟩)
      dsimp only [Pt.U, Pt.locs, Pt.cells, Pt.slots] at X6 l6 y6 z6 st6 hQ6
      subst l6 y6 z6
      obtain ⟨rfl, N6q, e6⟩ := hQ6
      have N6 := Fr.app Nj69 N6q
      refine own_go (B := T6.setTop (mkF m 83 #[.val (.int p1), .val (.int p2), .val (.int p3), .val (.int p4), .val (.int p5), .val (.int p6), .val (.int lv), .val (.int (p2 &&& (3 : Int32))), .val (.int nl), .val (.int nd), .unset, .unset, .unset, .unset, .unset] [(.int (own_f1 lv p3 p5 nl nd p6))])) (fun t k => st6 _ k) ?_
      obtain ⟨vr, hvr⟩ : ∃ z : Int32, z = (own_f1 lv p3 p5 nl nd p6) := ⟨_, rfl⟩
      rw [← hvr]
      refine own_go (B := T6.setTop (mkF m 85 #[.val (.int p1), .val (.int p2), .val (.int p3), .val (.int p4), .val (.int p5), .val (.int p6), .val (.int lv), .val (.int (p2 &&& (3 : Int32))), .val (.int nl), .val (.int nd), .val (.int vr), .unset, .unset, .unset, .unset] [])) (fun t k => XS.istore X6.here hx rfl (Jvm.hb hby at_83) rfl (l' := #[.val (.int p1), .val (.int p2), .val (.int p3), .val (.int p4), .val (.int p5), .val (.int p6), .val (.int lv), .val (.int (p2 &&& (3 : Int32))), .val (.int nl), .val (.int nd), .val (.int vr), .unset, .unset, .unset, .unset]) rfl k) ?_
      refine own_go (B := T6.setTop (mkF m 87 #[.val (.int p1), .val (.int p2), .val (.int p3), .val (.int p4), .val (.int p5), .val (.int p6), .val (.int lv), .val (.int (p2 &&& (3 : Int32))), .val (.int nl), .val (.int nd), .val (.int vr), .unset, .unset, .unset, .unset] [(.int nl)])) (fun t k => XS.iload X6.here hx rfl (Jvm.hb hby at_85) rfl k) ?_
      refine own_go (B := T6.setTop (mkF m 88 #[.val (.int p1), .val (.int p2), .val (.int p3), .val (.int p4), .val (.int p5), .val (.int p6), .val (.int lv), .val (.int (p2 &&& (3 : Int32))), .val (.int nl), .val (.int nd), .val (.int vr), .unset, .unset, .unset, .unset] [(.long (nl.toInt64))])) (fun t k => XS.i2l X6.here hx rfl (Jvm.hb hby at_87) rfl k) ?_
      refine own_go (B := T6.setTop (mkF m 90 #[.val (.int p1), .val (.int p2), .val (.int p3), .val (.int p4), .val (.int p5), .val (.int p6), .val (.int lv), .val (.int (p2 &&& (3 : Int32))), .val (.int nl), .val (.int nd), .val (.int vr), .unset, .unset, .unset, .unset] [(.int lv), (.long (nl.toInt64))])) (fun t k => XS.iload X6.here hx rfl (Jvm.hb hby at_88) rfl k) ?_
      refine own_go (B := T6.setTop (mkF m 91 #[.val (.int p1), .val (.int p2), .val (.int p3), .val (.int p4), .val (.int p5), .val (.int p6), .val (.int lv), .val (.int (p2 &&& (3 : Int32))), .val (.int nl), .val (.int nd), .val (.int vr), .unset, .unset, .unset, .unset] [(.long (lv.toInt64)), (.long (nl.toInt64))])) (fun t k => XS.i2l X6.here hx rfl (Jvm.hb hby at_90) rfl k) ?_
      refine own_go (B := T6.setTop (mkF m 92 #[.val (.int p1), .val (.int p2), .val (.int p3), .val (.int p4), .val (.int p5), .val (.int p6), .val (.int lv), .val (.int (p2 &&& (3 : Int32))), .val (.int nl), .val (.int nd), .val (.int vr), .unset, .unset, .unset, .unset] [(.long ((nl.toInt64) - (lv.toInt64)))])) (fun t k => XS.lsub X6.here hx rfl (Jvm.hb hby at_91) rfl k) ?_
      obtain ⟨vg, hvg⟩ : ∃ z : Int64, z = ((nl.toInt64) - (lv.toInt64)) := ⟨_, rfl⟩
      rw [← hvg]
      refine own_go (B := T6.setTop (mkF m 94 #[.val (.int p1), .val (.int p2), .val (.int p3), .val (.int p4), .val (.int p5), .val (.int p6), .val (.int lv), .val (.int (p2 &&& (3 : Int32))), .val (.int nl), .val (.int nd), .val (.int vr), .val (.long vg), .second, .unset, .unset] [])) (fun t k => XS.lstore X6.here hx rfl (Jvm.hb hby at_92) rfl (l' := #[.val (.int p1), .val (.int p2), .val (.int p3), .val (.int p4), .val (.int p5), .val (.int p6), .val (.int lv), .val (.int (p2 &&& (3 : Int32))), .val (.int nl), .val (.int nd), .val (.int vr), .val (.long vg), .second, .unset, .unset]) rfl k) ?_
      have J160 : ∀ (Tj160 : State) (Lj160 : List Loc) (Xj160 : Stand p l e room_1 s m #[(.int p1), (.int p2), (.int p3), (.int p4), (.int p5), (.int p6)] below meth c Tj160 Lj160 0 0) (ej160 : Tj160.heap = h0) (Nj160 : Fr n0 Lj160) (ex : Int32) (hex : vr = ex), own_Goes p e below s (own_Q0 Z p1 p2 p3 p4 p5 p6 h0 n0) room_1.cells room_1.slots (Tj160.setTop (mkF m 160 #[.val (.int p1), .val (.int p2), .val (.int p3), .val (.int p4), .val (.int p5), .val (.int p6), .val (.int lv), .val (.int (p2 &&& (3 : Int32))), .val (.int nl), .val (.int nd), .val (.int vr), .val (.long vg), .second, .val (.int ex), .unset] [])) := by
        intro Tj160 Lj160 Xj160 ej160 Nj160 ex hex
        refine own_go (B := Tj160.setTop (mkF m 162 #[.val (.int p1), .val (.int p2), .val (.int p3), .val (.int p4), .val (.int p5), .val (.int p6), .val (.int lv), .val (.int (p2 &&& (3 : Int32))), .val (.int nl), .val (.int nd), .val (.int vr), .val (.long vg), .second, .val (.int ex), .unset] [(.int vr)])) (fun t k => XS.iload Xj160.here hx rfl (Jvm.hb hby at_160) rfl k) ?_
        refine own_go (B := Tj160.setTop (mkF m 164 #[.val (.int p1), .val (.int p2), .val (.int p3), .val (.int p4), .val (.int p5), .val (.int p6), .val (.int lv), .val (.int (p2 &&& (3 : Int32))), .val (.int nl), .val (.int nd), .val (.int vr), .val (.long vg), .second, .val (.int ex), .unset] [(.int ex), (.int vr)])) (fun t k => XS.iload Xj160.here hx rfl (Jvm.hb hby at_162) rfl k) ?_
        refine own_go (B := Tj160.setTop (mkF m 169 #[.val (.int p1), .val (.int p2), .val (.int p3), .val (.int p4), .val (.int p5), .val (.int p6), .val (.int lv), .val (.int (p2 &&& (3 : Int32))), .val (.int nl), .val (.int nd), .val (.int vr), .val (.long vg), .second, .val (.int ex), .unset] [])) (fun t k => XS.icmpYes Xj160.here hx rfl (pc0 := 164) (pc' := 169) rfl (Jvm.hb hby at_164) rfl (teq hex).1 (by decide) (by decide) k) ?_
        refine own_go (B := Tj160.setTop (mkF m 171 #[.val (.int p1), .val (.int p2), .val (.int p3), .val (.int p4), .val (.int p5), .val (.int p6), .val (.int lv), .val (.int (p2 &&& (3 : Int32))), .val (.int nl), .val (.int nd), .val (.int vr), .val (.long vg), .second, .val (.int ex), .unset] [(.int p5)])) (fun t k => XS.iload Xj160.here hx rfl (Jvm.hb hby at_169) rfl k) ?_
        refine own_go (B := Tj160.setTop (mkF m 173 #[.val (.int p1), .val (.int p2), .val (.int p3), .val (.int p4), .val (.int p5), .val (.int p6), .val (.int lv), .val (.int (p2 &&& (3 : Int32))), .val (.int nl), .val (.int nd), .val (.int vr), .val (.long vg), .second, .val (.int ex), .unset] [(.int p6), (.int p5)])) (fun t k => XS.iload Xj160.here hx rfl (Jvm.hb hby at_171) rfl k) ?_
        by_cases hc173_7 : p5 = p6
        · refine own_go (B := Tj160.setTop (mkF m 217 #[.val (.int p1), .val (.int p2), .val (.int p3), .val (.int p4), .val (.int p5), .val (.int p6), .val (.int lv), .val (.int (p2 &&& (3 : Int32))), .val (.int nl), .val (.int nd), .val (.int vr), .val (.long vg), .second, .val (.int ex), .unset] [])) (fun t k => XS.icmpYes Xj160.here hx rfl (pc0 := 173) (pc' := 217) rfl (Jvm.hb hby at_173) rfl (teq hc173_7).1 (by decide) (by decide) k) ?_
          refine own_go (B := Tj160.setTop (mkF m 218 #[.val (.int p1), .val (.int p2), .val (.int p3), .val (.int p4), .val (.int p5), .val (.int p6), .val (.int lv), .val (.int (p2 &&& (3 : Int32))), .val (.int nl), .val (.int nd), .val (.int vr), .val (.long vg), .second, .val (.int ex), .unset] [(.int (1 : Int32))])) (fun t k => XS.iconst Xj160.here hx rfl (Jvm.hb hby at_217) k) ?_
          refine own_out Xj160 (v := (some (.int (1 : Int32)))) (fun h => by rw [Bd.returns] at h; cases h) Bd.notSynchronized (fun fs hr => retOut Xj160 hx (t := .boolean) Bd.returns rfl (by first | exact Or.inl ⟨rfl, by simp, _, rfl⟩) (Jvm.hb hby at_218) hr) ?_ (by decide) (by decide)
          show own_Q0 Z p1 p2 p3 p4 p5 p6 h0 n0 (some (.int (1 : Int32))) Tj160.heap _
          rw [ej160]
          exact ⟨rfl, Nj160⟩
        · refine own_go (B := Tj160.setTop (mkF m 176 #[.val (.int p1), .val (.int p2), .val (.int p3), .val (.int p4), .val (.int p5), .val (.int p6), .val (.int lv), .val (.int (p2 &&& (3 : Int32))), .val (.int nl), .val (.int nd), .val (.int vr), .val (.long vg), .second, .val (.int ex), .unset] [])) (fun t k => XS.icmpNo Xj160.here hx rfl (Jvm.hb hby at_173) rfl (feq hc173_7).1 k) ?_
          refine own_go (B := Tj160.setTop (mkF m 178 #[.val (.int p1), .val (.int p2), .val (.int p3), .val (.int p4), .val (.int p5), .val (.int p6), .val (.int lv), .val (.int (p2 &&& (3 : Int32))), .val (.int nl), .val (.int nd), .val (.int vr), .val (.long vg), .second, .val (.int ex), .unset] [(.long vg)])) (fun t k => XS.lload Xj160.here hx rfl (Jvm.hb hby at_176) rfl k) ?_
          refine own_go (B := Tj160.setTop (mkF m 181 #[.val (.int p1), .val (.int p2), .val (.int p3), .val (.int p4), .val (.int p5), .val (.int p6), .val (.int lv), .val (.int (p2 &&& (3 : Int32))), .val (.int nl), .val (.int nd), .val (.int vr), .val (.long vg), .second, .val (.int ex), .unset] [(.long (-1 : Int64)), (.long vg)])) (fun t k => Xj160.ldc2Long hx hown (mvT hZ (own_w hw 5 rfl)) (g := (mkF m 178 #[.val (.int p1), .val (.int p2), .val (.int p3), .val (.int p4), .val (.int p5), .val (.int p6), .val (.int lv), .val (.int (p2 &&& (3 : Int32))), .val (.int nl), .val (.int nd), .val (.int vr), .val (.long vg), .second, .val (.int ex), .unset] [(.long vg)])) rfl (Jvm.hb hby at_178) _ k) ?_
          refine own_go (B := Tj160.setTop (mkF m 182 #[.val (.int p1), .val (.int p2), .val (.int p3), .val (.int p4), .val (.int p5), .val (.int p6), .val (.int lv), .val (.int (p2 &&& (3 : Int32))), .val (.int nl), .val (.int nd), .val (.int vr), .val (.long vg), .second, .val (.int ex), .unset] [(.int (lcmpW vg (-1 : Int64)))])) (fun t k => XS.lcmp Xj160.here hx rfl (Jvm.hb hby at_181) rfl k) ?_
          by_cases hc182_8 : vg < (-1 : Int64)
          · refine own_go (B := Tj160.setTop (mkF m 217 #[.val (.int p1), .val (.int p2), .val (.int p3), .val (.int p4), .val (.int p5), .val (.int p6), .val (.int lv), .val (.int (p2 &&& (3 : Int32))), .val (.int nl), .val (.int nd), .val (.int vr), .val (.long vg), .second, .val (.int ex), .unset] [])) (fun t k => XS.ifYes Xj160.here hx rfl (pc0 := 182) (pc' := 217) rfl (Jvm.hb hby at_182) rfl ((if0 _ _).trans (tlt ((lw_lt vg (-1 : Int64)).mpr hc182_8)).1) (by decide) (by decide) k) ?_
            refine own_go (B := Tj160.setTop (mkF m 218 #[.val (.int p1), .val (.int p2), .val (.int p3), .val (.int p4), .val (.int p5), .val (.int p6), .val (.int lv), .val (.int (p2 &&& (3 : Int32))), .val (.int nl), .val (.int nd), .val (.int vr), .val (.long vg), .second, .val (.int ex), .unset] [(.int (1 : Int32))])) (fun t k => XS.iconst Xj160.here hx rfl (Jvm.hb hby at_217) k) ?_
            refine own_out Xj160 (v := (some (.int (1 : Int32)))) (fun h => by rw [Bd.returns] at h; cases h) Bd.notSynchronized (fun fs hr => retOut Xj160 hx (t := .boolean) Bd.returns rfl (by first | exact Or.inl ⟨rfl, by simp, _, rfl⟩) (Jvm.hb hby at_218) hr) ?_ (by decide) (by decide)
            show own_Q0 Z p1 p2 p3 p4 p5 p6 h0 n0 (some (.int (1 : Int32))) Tj160.heap _
            rw [ej160]
            exact ⟨rfl, Nj160⟩
          · refine own_go (B := Tj160.setTop (mkF m 185 #[.val (.int p1), .val (.int p2), .val (.int p3), .val (.int p4), .val (.int p5), .val (.int p6), .val (.int lv), .val (.int (p2 &&& (3 : Int32))), .val (.int nl), .val (.int nd), .val (.int vr), .val (.long vg), .second, .val (.int ex), .unset] [])) (fun t k => XS.ifNo Xj160.here hx rfl (Jvm.hb hby at_182) rfl ((if0 _ _).trans (flt (mt (lw_lt vg (-1 : Int64)).mp hc182_8)).1) k) ?_
            refine own_go (B := Tj160.setTop (mkF m 187 #[.val (.int p1), .val (.int p2), .val (.int p3), .val (.int p4), .val (.int p5), .val (.int p6), .val (.int lv), .val (.int (p2 &&& (3 : Int32))), .val (.int nl), .val (.int nd), .val (.int vr), .val (.long vg), .second, .val (.int ex), .unset] [(.long vg)])) (fun t k => XS.lload Xj160.here hx rfl (Jvm.hb hby at_185) rfl k) ?_
            refine own_go (B := Tj160.setTop (mkF m 188 #[.val (.int p1), .val (.int p2), .val (.int p3), .val (.int p4), .val (.int p5), .val (.int p6), .val (.int lv), .val (.int (p2 &&& (3 : Int32))), .val (.int nl), .val (.int nd), .val (.int vr), .val (.long vg), .second, .val (.int ex), .unset] [(.long (1 : Int64)), (.long vg)])) (fun t k => XS.lconst Xj160.here hx rfl (Jvm.hb hby at_187) k) ?_
            refine own_go (B := Tj160.setTop (mkF m 189 #[.val (.int p1), .val (.int p2), .val (.int p3), .val (.int p4), .val (.int p5), .val (.int p6), .val (.int lv), .val (.int (p2 &&& (3 : Int32))), .val (.int nl), .val (.int nd), .val (.int vr), .val (.long vg), .second, .val (.int ex), .unset] [(.int (lcmpW vg (1 : Int64)))])) (fun t k => XS.lcmp Xj160.here hx rfl (Jvm.hb hby at_188) rfl k) ?_
            by_cases hc189_9 : (1 : Int64) < vg
            · refine own_go (B := Tj160.setTop (mkF m 217 #[.val (.int p1), .val (.int p2), .val (.int p3), .val (.int p4), .val (.int p5), .val (.int p6), .val (.int lv), .val (.int (p2 &&& (3 : Int32))), .val (.int nl), .val (.int nd), .val (.int vr), .val (.long vg), .second, .val (.int ex), .unset] [])) (fun t k => XS.ifYes Xj160.here hx rfl (pc0 := 189) (pc' := 217) rfl (Jvm.hb hby at_189) rfl ((if0 _ _).trans (tlt ((lw_gt vg (1 : Int64)).mpr hc189_9)).2.2.1) (by decide) (by decide) k) ?_
              refine own_go (B := Tj160.setTop (mkF m 218 #[.val (.int p1), .val (.int p2), .val (.int p3), .val (.int p4), .val (.int p5), .val (.int p6), .val (.int lv), .val (.int (p2 &&& (3 : Int32))), .val (.int nl), .val (.int nd), .val (.int vr), .val (.long vg), .second, .val (.int ex), .unset] [(.int (1 : Int32))])) (fun t k => XS.iconst Xj160.here hx rfl (Jvm.hb hby at_217) k) ?_
              refine own_out Xj160 (v := (some (.int (1 : Int32)))) (fun h => by rw [Bd.returns] at h; cases h) Bd.notSynchronized (fun fs hr => retOut Xj160 hx (t := .boolean) Bd.returns rfl (by first | exact Or.inl ⟨rfl, by simp, _, rfl⟩) (Jvm.hb hby at_218) hr) ?_ (by decide) (by decide)
              show own_Q0 Z p1 p2 p3 p4 p5 p6 h0 n0 (some (.int (1 : Int32))) Tj160.heap _
              rw [ej160]
              exact ⟨rfl, Nj160⟩
            · refine own_go (B := Tj160.setTop (mkF m 192 #[.val (.int p1), .val (.int p2), .val (.int p3), .val (.int p4), .val (.int p5), .val (.int p6), .val (.int lv), .val (.int (p2 &&& (3 : Int32))), .val (.int nl), .val (.int nd), .val (.int vr), .val (.long vg), .second, .val (.int ex), .unset] [])) (fun t k => XS.ifNo Xj160.here hx rfl (Jvm.hb hby at_189) rfl ((if0 _ _).trans (flt (mt (lw_gt vg (1 : Int64)).mp hc189_9)).2.2.1) k) ?_
              refine own_go (B := Tj160.setTop (mkF m 194 #[.val (.int p1), .val (.int p2), .val (.int p3), .val (.int p4), .val (.int p5), .val (.int p6), .val (.int lv), .val (.int (p2 &&& (3 : Int32))), .val (.int nl), .val (.int nd), .val (.int vr), .val (.long vg), .second, .val (.int ex), .unset] [(.int nl)])) (fun t k => XS.iload Xj160.here hx rfl (Jvm.hb hby at_192) rfl k) ?_
              refine own_go (B := Tj160.setTop (mkF m 196 #[.val (.int p1), .val (.int p2), .val (.int p3), .val (.int p4), .val (.int p5), .val (.int p6), .val (.int lv), .val (.int (p2 &&& (3 : Int32))), .val (.int nl), .val (.int nd), .val (.int vr), .val (.long vg), .second, .val (.int ex), .unset] [(.int nd), (.int nl)])) (fun t k => XS.iload Xj160.here hx rfl (Jvm.hb hby at_194) rfl k) ?_
              refine own_go (B := Tj160.setTop (mkF m 198 #[.val (.int p1), .val (.int p2), .val (.int p3), .val (.int p4), .val (.int p5), .val (.int p6), .val (.int lv), .val (.int (p2 &&& (3 : Int32))), .val (.int nl), .val (.int nd), .val (.int vr), .val (.long vg), .second, .val (.int ex), .unset] [(.int p6), (.int nd), (.int nl)])) (fun t k => XS.iload Xj160.here hx rfl (Jvm.hb hby at_196) rfl k) ?_
              refine own_go (B := Tj160.setTop (mkF m 200 #[.val (.int p1), .val (.int p2), .val (.int p3), .val (.int p4), .val (.int p5), .val (.int p6), .val (.int lv), .val (.int (p2 &&& (3 : Int32))), .val (.int nl), .val (.int nd), .val (.int vr), .val (.long vg), .second, .val (.int ex), .unset] [(.int lv), (.int p6), (.int nd), (.int nl)])) (fun t k => XS.iload Xj160.here hx rfl (Jvm.hb hby at_198) rfl k) ?_
              refine own_go (B := Tj160.setTop (mkF m 201 #[.val (.int p1), .val (.int p2), .val (.int p3), .val (.int p4), .val (.int p5), .val (.int p6), .val (.int lv), .val (.int (p2 &&& (3 : Int32))), .val (.int nl), .val (.int nd), .val (.int vr), .val (.long vg), .second, .val (.int ex), .unset] [(.int p3), (.int lv), (.int p6), (.int nd), (.int nl)])) (fun t k => XS.iloadN Xj160.here hx rfl (Jvm.hb hby at_200) rfl k) ?_
              refine own_go (B := Tj160.setTop (mkF m 203 #[.val (.int p1), .val (.int p2), .val (.int p3), .val (.int p4), .val (.int p5), .val (.int p6), .val (.int lv), .val (.int (p2 &&& (3 : Int32))), .val (.int nl), .val (.int nd), .val (.int vr), .val (.long vg), .second, .val (.int ex), .unset] [(.int p5), (.int p3), (.int lv), (.int p6), (.int nd), (.int nl)])) (fun t k => XS.iload Xj160.here hx rfl (Jvm.hb hby at_201) rfl k) ?_
              obtain ⟨_, _, ⟨T10, La10, ka10, na10⟩, -, X10, ⟨Lc10, hQ10, l10, y10, z10⟩, st10⟩ := Jvm.LawKit.callS Xj160 hx (y := (⟨"tessera/ShiftSpanner", "mayKeep", "(IIIIII)Z"⟩ : MethodName)) hown (mvT hZ (own_w hw 1 rfl)) (mvT hZ (own_w hw 2 rfl)) (mvT hZ (own_w hw 3 rfl)) (mvT hZ (own_w hw 4 rfl)) (by decide) (backOf (W := 0) (rm1 l Z a0 hw [] nl nd p6 lv p3 p5 h0 n0 Zs) hZ (own_w hw 4 rfl) (own_w hw 3 rfl) (by decide) (by decide)) (g := (mkF m 203 #[.val (.int p1), .val (.int p2), .val (.int p3), .val (.int p4), .val (.int p5), .val (.int p6), .val (.int lv), .val (.int (p2 &&& (3 : Int32))), .val (.int nl), .val (.int nd), .val (.int vr), .val (.long vg), .second, .val (.int ex), .unset] [(.int p5), (.int p3), (.int lv), (.int p6), (.int nd), (.int nl)])) rfl (by rw [hml]; rfl) (argsL := [(.int nl), (.int nd), (.int p6), (.int lv), (.int p3), (.int p5)]) (rest := []) (lenOf pd_0 rfl) rfl (by show 2 * 0 + _ ≤ _; exact Nat.le_of_eq rfl) (Jvm.hb hby at_203) (fun _ _ => ⟨rfl, ej160, (by decide : 0 + 0 ≤ _), (by decide : 0 + 0 ≤ _)⟩)
              dsimp only [Pt.U, Pt.locs, Pt.cells, Pt.slots] at X10 l10 y10 z10 st10 hQ10
              subst l10 y10 z10
              obtain ⟨rfl, N10q, e10⟩ := hQ10
              have N10 := Fr.app Nj160 N10q
              refine own_go (B := T10.setTop (mkF m 206 #[.val (.int p1), .val (.int p2), .val (.int p3), .val (.int p4), .val (.int p5), .val (.int p6), .val (.int lv), .val (.int (p2 &&& (3 : Int32))), .val (.int nl), .val (.int nd), .val (.int vr), .val (.long vg), .second, .val (.int ex), .unset] [(.int (own_f1 nl nd p6 lv p3 p5))])) (fun t k => st10 _ k) ?_
              obtain ⟨vt, hvt⟩ : ∃ z : Int32, z = (own_f1 nl nd p6 lv p3 p5) := ⟨_, rfl⟩
              rw [← hvt]
              refine own_go (B := T10.setTop (mkF m 208 #[.val (.int p1), .val (.int p2), .val (.int p3), .val (.int p4), .val (.int p5), .val (.int p6), .val (.int lv), .val (.int (p2 &&& (3 : Int32))), .val (.int nl), .val (.int nd), .val (.int vr), .val (.long vg), .second, .val (.int ex), .val (.int vt)] [])) (fun t k => XS.istore X10.here hx rfl (Jvm.hb hby at_206) rfl (l' := #[.val (.int p1), .val (.int p2), .val (.int p3), .val (.int p4), .val (.int p5), .val (.int p6), .val (.int lv), .val (.int (p2 &&& (3 : Int32))), .val (.int nl), .val (.int nd), .val (.int vr), .val (.long vg), .second, .val (.int ex), .val (.int vt)]) rfl k) ?_
              refine own_go (B := T10.setTop (mkF m 210 #[.val (.int p1), .val (.int p2), .val (.int p3), .val (.int p4), .val (.int p5), .val (.int p6), .val (.int lv), .val (.int (p2 &&& (3 : Int32))), .val (.int nl), .val (.int nd), .val (.int vr), .val (.long vg), .second, .val (.int ex), .val (.int vt)] [(.int vr)])) (fun t k => XS.iload X10.here hx rfl (Jvm.hb hby at_208) rfl k) ?_
              refine own_go (B := T10.setTop (mkF m 212 #[.val (.int p1), .val (.int p2), .val (.int p3), .val (.int p4), .val (.int p5), .val (.int p6), .val (.int lv), .val (.int (p2 &&& (3 : Int32))), .val (.int nl), .val (.int nd), .val (.int vr), .val (.long vg), .second, .val (.int ex), .val (.int vt)] [(.int vt), (.int vr)])) (fun t k => XS.iload X10.here hx rfl (Jvm.hb hby at_210) rfl k) ?_
              refine own_go (B := T10.setTop (mkF m 217 #[.val (.int p1), .val (.int p2), .val (.int p3), .val (.int p4), .val (.int p5), .val (.int p6), .val (.int lv), .val (.int (p2 &&& (3 : Int32))), .val (.int nl), .val (.int nd), .val (.int vr), .val (.long vg), .second, .val (.int ex), .val (.int vt)] [])) (fun t k => XS.icmpYes X10.here hx rfl (pc0 := 212) (pc' := 217) rfl (Jvm.hb hby at_212) rfl (feq (own_opp lv p3 p5 nl nd p6 vr vt vg hlv0 hvg hvr hvt hc173_7 hc182_8 hc189_9)).2 (by decide) (by decide) k) ?_
              refine own_go (B := T10.setTop (mkF m 218 #[.val (.int p1), .val (.int p2), .val (.int p3), .val (.int p4), .val (.int p5), .val (.int p6), .val (.int lv), .val (.int (p2 &&& (3 : Int32))), .val (.int nl), .val (.int nd), .val (.int vr), .val (.long vg), .second, .val (.int ex), .val (.int vt)] [(.int (1 : Int32))])) (fun t k => XS.iconst X10.here hx rfl (Jvm.hb hby at_217) k) ?_
              refine own_out X10 (v := (some (.int (1 : Int32)))) (fun h => by rw [Bd.returns] at h; cases h) Bd.notSynchronized (fun fs hr => retOut X10 hx (t := .boolean) Bd.returns rfl (by first | exact Or.inl ⟨rfl, by simp, _, rfl⟩) (Jvm.hb hby at_218) hr) ?_ (by decide) (by decide)
              show own_Q0 Z p1 p2 p3 p4 p5 p6 h0 n0 (some (.int (1 : Int32))) T10.heap _
              rw [e10]
              exact ⟨rfl, N10⟩
      refine own_go (B := T6.setTop (mkF m 96 #[.val (.int p1), .val (.int p2), .val (.int p3), .val (.int p4), .val (.int p5), .val (.int p6), .val (.int lv), .val (.int (p2 &&& (3 : Int32))), .val (.int nl), .val (.int nd), .val (.int vr), .val (.long vg), .second, .unset, .unset] [(.long vg)])) (fun t k => XS.lload X6.here hx rfl (Jvm.hb hby at_94) rfl k) ?_
      refine own_go (B := T6.setTop (mkF m 99 #[.val (.int p1), .val (.int p2), .val (.int p3), .val (.int p4), .val (.int p5), .val (.int p6), .val (.int lv), .val (.int (p2 &&& (3 : Int32))), .val (.int nl), .val (.int nd), .val (.int vr), .val (.long vg), .second, .unset, .unset] [(.long (-1 : Int64)), (.long vg)])) (fun t k => X6.ldc2Long hx hown (mvT hZ (own_w hw 5 rfl)) (g := (mkF m 96 #[.val (.int p1), .val (.int p2), .val (.int p3), .val (.int p4), .val (.int p5), .val (.int p6), .val (.int lv), .val (.int (p2 &&& (3 : Int32))), .val (.int nl), .val (.int nd), .val (.int vr), .val (.long vg), .second, .unset, .unset] [(.long vg)])) rfl (Jvm.hb hby at_96) _ k) ?_
      refine own_go (B := T6.setTop (mkF m 100 #[.val (.int p1), .val (.int p2), .val (.int p3), .val (.int p4), .val (.int p5), .val (.int p6), .val (.int lv), .val (.int (p2 &&& (3 : Int32))), .val (.int nl), .val (.int nd), .val (.int vr), .val (.long vg), .second, .unset, .unset] [(.int (lcmpW vg (-1 : Int64)))])) (fun t k => XS.lcmp X6.here hx rfl (Jvm.hb hby at_99) rfl k) ?_
      by_cases hc100_11 : vg = (-1 : Int64)
      · refine own_go (B := T6.setTop (mkF m 103 #[.val (.int p1), .val (.int p2), .val (.int p3), .val (.int p4), .val (.int p5), .val (.int p6), .val (.int lv), .val (.int (p2 &&& (3 : Int32))), .val (.int nl), .val (.int nd), .val (.int vr), .val (.long vg), .second, .unset, .unset] [])) (fun t k => XS.ifNo X6.here hx rfl (Jvm.hb hby at_100) rfl ((if0 _ _).trans (teq ((lw_eq vg (-1 : Int64)).mpr hc100_11)).2) k) ?_
        refine own_go (B := T6.setTop (mkF m 104 #[.val (.int p1), .val (.int p2), .val (.int p3), .val (.int p4), .val (.int p5), .val (.int p6), .val (.int lv), .val (.int (p2 &&& (3 : Int32))), .val (.int nl), .val (.int nd), .val (.int vr), .val (.long vg), .second, .unset, .unset] [(.int (1 : Int32))])) (fun t k => XS.iconst X6.here hx rfl (Jvm.hb hby at_103) k) ?_
        refine own_go (B := T6.setTop (mkF m 106 #[.val (.int p1), .val (.int p2), .val (.int p3), .val (.int p4), .val (.int p5), .val (.int p6), .val (.int lv), .val (.int (p2 &&& (3 : Int32))), .val (.int nl), .val (.int nd), .val (.int vr), .val (.long vg), .second, .val (.int (1 : Int32)), .unset] [])) (fun t k => XS.istore X6.here hx rfl (Jvm.hb hby at_104) rfl (l' := #[.val (.int p1), .val (.int p2), .val (.int p3), .val (.int p4), .val (.int p5), .val (.int p6), .val (.int lv), .val (.int (p2 &&& (3 : Int32))), .val (.int nl), .val (.int nd), .val (.int vr), .val (.long vg), .second, .val (.int (1 : Int32)), .unset]) rfl k) ?_
        refine own_go (B := T6.setTop (mkF m 160 #[.val (.int p1), .val (.int p2), .val (.int p3), .val (.int p4), .val (.int p5), .val (.int p6), .val (.int lv), .val (.int (p2 &&& (3 : Int32))), .val (.int nl), .val (.int nd), .val (.int vr), .val (.long vg), .second, .val (.int (1 : Int32)), .unset] [])) (fun t k => XS.goto X6.here hx rfl (pc0 := 106) (pc' := 160) rfl (Jvm.hb hby at_106) (by decide) (by decide) k) ?_
        exact J160 T6 _ X6 e6 N6 (1 : Int32) (by rw [own_ex lv p3 p5 nl nd p6 vr vg hlv0 hvg hvr]; simp only [if_pos hc100_11])
      · refine own_go (B := T6.setTop (mkF m 109 #[.val (.int p1), .val (.int p2), .val (.int p3), .val (.int p4), .val (.int p5), .val (.int p6), .val (.int lv), .val (.int (p2 &&& (3 : Int32))), .val (.int nl), .val (.int nd), .val (.int vr), .val (.long vg), .second, .unset, .unset] [])) (fun t k => XS.ifYes X6.here hx rfl (pc0 := 100) (pc' := 109) rfl (Jvm.hb hby at_100) rfl ((if0 _ _).trans (feq (mt (lw_eq vg (-1 : Int64)).mp hc100_11)).2) (by decide) (by decide) k) ?_
        refine own_go (B := T6.setTop (mkF m 111 #[.val (.int p1), .val (.int p2), .val (.int p3), .val (.int p4), .val (.int p5), .val (.int p6), .val (.int lv), .val (.int (p2 &&& (3 : Int32))), .val (.int nl), .val (.int nd), .val (.int vr), .val (.long vg), .second, .unset, .unset] [(.long vg)])) (fun t k => XS.lload X6.here hx rfl (Jvm.hb hby at_109) rfl k) ?_
        refine own_go (B := T6.setTop (mkF m 112 #[.val (.int p1), .val (.int p2), .val (.int p3), .val (.int p4), .val (.int p5), .val (.int p6), .val (.int lv), .val (.int (p2 &&& (3 : Int32))), .val (.int nl), .val (.int nd), .val (.int vr), .val (.long vg), .second, .unset, .unset] [(.long (0 : Int64)), (.long vg)])) (fun t k => XS.lconst X6.here hx rfl (Jvm.hb hby at_111) k) ?_
        refine own_go (B := T6.setTop (mkF m 113 #[.val (.int p1), .val (.int p2), .val (.int p3), .val (.int p4), .val (.int p5), .val (.int p6), .val (.int lv), .val (.int (p2 &&& (3 : Int32))), .val (.int nl), .val (.int nd), .val (.int vr), .val (.long vg), .second, .unset, .unset] [(.int (lcmpW vg (0 : Int64)))])) (fun t k => XS.lcmp X6.here hx rfl (Jvm.hb hby at_112) rfl k) ?_
        by_cases hc113_12 : vg = (0 : Int64)
        · refine own_go (B := T6.setTop (mkF m 122 #[.val (.int p1), .val (.int p2), .val (.int p3), .val (.int p4), .val (.int p5), .val (.int p6), .val (.int lv), .val (.int (p2 &&& (3 : Int32))), .val (.int nl), .val (.int nd), .val (.int vr), .val (.long vg), .second, .unset, .unset] [])) (fun t k => XS.ifYes X6.here hx rfl (pc0 := 113) (pc' := 122) rfl (Jvm.hb hby at_113) rfl ((if0 _ _).trans (teq ((lw_eq vg (0 : Int64)).mpr hc113_12)).1) (by decide) (by decide) k) ?_
          refine own_go (B := T6.setTop (mkF m 123 #[.val (.int p1), .val (.int p2), .val (.int p3), .val (.int p4), .val (.int p5), .val (.int p6), .val (.int lv), .val (.int (p2 &&& (3 : Int32))), .val (.int nl), .val (.int nd), .val (.int vr), .val (.long vg), .second, .unset, .unset] [(.int p3)])) (fun t k => XS.iloadN X6.here hx rfl (Jvm.hb hby at_122) rfl k) ?_
          refine own_go (B := T6.setTop (mkF m 125 #[.val (.int p1), .val (.int p2), .val (.int p3), .val (.int p4), .val (.int p5), .val (.int p6), .val (.int lv), .val (.int (p2 &&& (3 : Int32))), .val (.int nl), .val (.int nd), .val (.int vr), .val (.long vg), .second, .unset, .unset] [(.int nd), (.int p3)])) (fun t k => XS.iload X6.here hx rfl (Jvm.hb hby at_123) rfl k) ?_
          by_cases hc125_13 : p3 < nd
          · refine own_go (B := T6.setTop (mkF m 128 #[.val (.int p1), .val (.int p2), .val (.int p3), .val (.int p4), .val (.int p5), .val (.int p6), .val (.int lv), .val (.int (p2 &&& (3 : Int32))), .val (.int nl), .val (.int nd), .val (.int vr), .val (.long vg), .second, .unset, .unset] [])) (fun t k => XS.icmpNo X6.here hx rfl (Jvm.hb hby at_125) rfl (tlt hc125_13).2.1 k) ?_
            refine own_go (B := T6.setTop (mkF m 129 #[.val (.int p1), .val (.int p2), .val (.int p3), .val (.int p4), .val (.int p5), .val (.int p6), .val (.int lv), .val (.int (p2 &&& (3 : Int32))), .val (.int nl), .val (.int nd), .val (.int vr), .val (.long vg), .second, .unset, .unset] [(.int (1 : Int32))])) (fun t k => XS.iconst X6.here hx rfl (Jvm.hb hby at_128) k) ?_
            refine own_go (B := T6.setTop (mkF m 131 #[.val (.int p1), .val (.int p2), .val (.int p3), .val (.int p4), .val (.int p5), .val (.int p6), .val (.int lv), .val (.int (p2 &&& (3 : Int32))), .val (.int nl), .val (.int nd), .val (.int vr), .val (.long vg), .second, .val (.int (1 : Int32)), .unset] [])) (fun t k => XS.istore X6.here hx rfl (Jvm.hb hby at_129) rfl (l' := #[.val (.int p1), .val (.int p2), .val (.int p3), .val (.int p4), .val (.int p5), .val (.int p6), .val (.int lv), .val (.int (p2 &&& (3 : Int32))), .val (.int nl), .val (.int nd), .val (.int vr), .val (.long vg), .second, .val (.int (1 : Int32)), .unset]) rfl k) ?_
            refine own_go (B := T6.setTop (mkF m 160 #[.val (.int p1), .val (.int p2), .val (.int p3), .val (.int p4), .val (.int p5), .val (.int p6), .val (.int lv), .val (.int (p2 &&& (3 : Int32))), .val (.int nl), .val (.int nd), .val (.int vr), .val (.long vg), .second, .val (.int (1 : Int32)), .unset] [])) (fun t k => XS.goto X6.here hx rfl (pc0 := 131) (pc' := 160) rfl (Jvm.hb hby at_131) (by decide) (by decide) k) ?_
            exact J160 T6 _ X6 e6 N6 (1 : Int32) (by rw [own_ex lv p3 p5 nl nd p6 vr vg hlv0 hvg hvr]; simp only [if_neg hc100_11, if_pos hc113_12, if_pos hc125_13])
          · refine own_go (B := T6.setTop (mkF m 134 #[.val (.int p1), .val (.int p2), .val (.int p3), .val (.int p4), .val (.int p5), .val (.int p6), .val (.int lv), .val (.int (p2 &&& (3 : Int32))), .val (.int nl), .val (.int nd), .val (.int vr), .val (.long vg), .second, .unset, .unset] [])) (fun t k => XS.icmpYes X6.here hx rfl (pc0 := 125) (pc' := 134) rfl (Jvm.hb hby at_125) rfl (flt hc125_13).2.1 (by decide) (by decide) k) ?_
            refine own_go (B := T6.setTop (mkF m 135 #[.val (.int p1), .val (.int p2), .val (.int p3), .val (.int p4), .val (.int p5), .val (.int p6), .val (.int lv), .val (.int (p2 &&& (3 : Int32))), .val (.int nl), .val (.int nd), .val (.int vr), .val (.long vg), .second, .unset, .unset] [(.int p3)])) (fun t k => XS.iloadN X6.here hx rfl (Jvm.hb hby at_134) rfl k) ?_
            refine own_go (B := T6.setTop (mkF m 137 #[.val (.int p1), .val (.int p2), .val (.int p3), .val (.int p4), .val (.int p5), .val (.int p6), .val (.int lv), .val (.int (p2 &&& (3 : Int32))), .val (.int nl), .val (.int nd), .val (.int vr), .val (.long vg), .second, .unset, .unset] [(.int nd), (.int p3)])) (fun t k => XS.iload X6.here hx rfl (Jvm.hb hby at_135) rfl k) ?_
            by_cases hc137_14 : nd < p3
            · refine own_go (B := T6.setTop (mkF m 140 #[.val (.int p1), .val (.int p2), .val (.int p3), .val (.int p4), .val (.int p5), .val (.int p6), .val (.int lv), .val (.int (p2 &&& (3 : Int32))), .val (.int nl), .val (.int nd), .val (.int vr), .val (.long vg), .second, .unset, .unset] [])) (fun t k => XS.icmpNo X6.here hx rfl (Jvm.hb hby at_137) rfl (tlt hc137_14).2.2.2 k) ?_
              refine own_go (B := T6.setTop (mkF m 141 #[.val (.int p1), .val (.int p2), .val (.int p3), .val (.int p4), .val (.int p5), .val (.int p6), .val (.int lv), .val (.int (p2 &&& (3 : Int32))), .val (.int nl), .val (.int nd), .val (.int vr), .val (.long vg), .second, .unset, .unset] [(.int (0 : Int32))])) (fun t k => XS.iconst X6.here hx rfl (Jvm.hb hby at_140) k) ?_
              refine own_go (B := T6.setTop (mkF m 143 #[.val (.int p1), .val (.int p2), .val (.int p3), .val (.int p4), .val (.int p5), .val (.int p6), .val (.int lv), .val (.int (p2 &&& (3 : Int32))), .val (.int nl), .val (.int nd), .val (.int vr), .val (.long vg), .second, .val (.int (0 : Int32)), .unset] [])) (fun t k => XS.istore X6.here hx rfl (Jvm.hb hby at_141) rfl (l' := #[.val (.int p1), .val (.int p2), .val (.int p3), .val (.int p4), .val (.int p5), .val (.int p6), .val (.int lv), .val (.int (p2 &&& (3 : Int32))), .val (.int nl), .val (.int nd), .val (.int vr), .val (.long vg), .second, .val (.int (0 : Int32)), .unset]) rfl k) ?_
              refine own_go (B := T6.setTop (mkF m 160 #[.val (.int p1), .val (.int p2), .val (.int p3), .val (.int p4), .val (.int p5), .val (.int p6), .val (.int lv), .val (.int (p2 &&& (3 : Int32))), .val (.int nl), .val (.int nd), .val (.int vr), .val (.long vg), .second, .val (.int (0 : Int32)), .unset] [])) (fun t k => XS.goto X6.here hx rfl (pc0 := 143) (pc' := 160) rfl (Jvm.hb hby at_143) (by decide) (by decide) k) ?_
              exact J160 T6 _ X6 e6 N6 (0 : Int32) (by rw [own_ex lv p3 p5 nl nd p6 vr vg hlv0 hvg hvr]; simp only [if_neg hc100_11, if_pos hc113_12, if_neg hc125_13, if_pos hc137_14])
            · refine own_go (B := T6.setTop (mkF m 146 #[.val (.int p1), .val (.int p2), .val (.int p3), .val (.int p4), .val (.int p5), .val (.int p6), .val (.int lv), .val (.int (p2 &&& (3 : Int32))), .val (.int nl), .val (.int nd), .val (.int vr), .val (.long vg), .second, .unset, .unset] [])) (fun t k => XS.icmpYes X6.here hx rfl (pc0 := 137) (pc' := 146) rfl (Jvm.hb hby at_137) rfl (flt hc137_14).2.2.2 (by decide) (by decide) k) ?_
              refine own_go (B := T6.setTop (mkF m 148 #[.val (.int p1), .val (.int p2), .val (.int p3), .val (.int p4), .val (.int p5), .val (.int p6), .val (.int lv), .val (.int (p2 &&& (3 : Int32))), .val (.int nl), .val (.int nd), .val (.int vr), .val (.long vg), .second, .unset, .unset] [(.int p6)])) (fun t k => XS.iload X6.here hx rfl (Jvm.hb hby at_146) rfl k) ?_
              refine own_go (B := T6.setTop (mkF m 150 #[.val (.int p1), .val (.int p2), .val (.int p3), .val (.int p4), .val (.int p5), .val (.int p6), .val (.int lv), .val (.int (p2 &&& (3 : Int32))), .val (.int nl), .val (.int nd), .val (.int vr), .val (.long vg), .second, .unset, .unset] [(.int p5), (.int p6)])) (fun t k => XS.iload X6.here hx rfl (Jvm.hb hby at_148) rfl k) ?_
              by_cases hc150_15 : p6 < p5
              · refine own_go (B := T6.setTop (mkF m 153 #[.val (.int p1), .val (.int p2), .val (.int p3), .val (.int p4), .val (.int p5), .val (.int p6), .val (.int lv), .val (.int (p2 &&& (3 : Int32))), .val (.int nl), .val (.int nd), .val (.int vr), .val (.long vg), .second, .unset, .unset] [])) (fun t k => XS.icmpNo X6.here hx rfl (Jvm.hb hby at_150) rfl (tlt hc150_15).2.1 k) ?_
                refine own_go (B := T6.setTop (mkF m 154 #[.val (.int p1), .val (.int p2), .val (.int p3), .val (.int p4), .val (.int p5), .val (.int p6), .val (.int lv), .val (.int (p2 &&& (3 : Int32))), .val (.int nl), .val (.int nd), .val (.int vr), .val (.long vg), .second, .unset, .unset] [(.int (1 : Int32))])) (fun t k => XS.iconst X6.here hx rfl (Jvm.hb hby at_153) k) ?_
                refine own_go (B := T6.setTop (mkF m 158 #[.val (.int p1), .val (.int p2), .val (.int p3), .val (.int p4), .val (.int p5), .val (.int p6), .val (.int lv), .val (.int (p2 &&& (3 : Int32))), .val (.int nl), .val (.int nd), .val (.int vr), .val (.long vg), .second, .unset, .unset] [(.int (1 : Int32))])) (fun t k => XS.goto X6.here hx rfl (pc0 := 154) (pc' := 158) rfl (Jvm.hb hby at_154) (by decide) (by decide) k) ?_
                refine own_go (B := T6.setTop (mkF m 160 #[.val (.int p1), .val (.int p2), .val (.int p3), .val (.int p4), .val (.int p5), .val (.int p6), .val (.int lv), .val (.int (p2 &&& (3 : Int32))), .val (.int nl), .val (.int nd), .val (.int vr), .val (.long vg), .second, .val (.int (1 : Int32)), .unset] [])) (fun t k => XS.istore X6.here hx rfl (Jvm.hb hby at_158) rfl (l' := #[.val (.int p1), .val (.int p2), .val (.int p3), .val (.int p4), .val (.int p5), .val (.int p6), .val (.int lv), .val (.int (p2 &&& (3 : Int32))), .val (.int nl), .val (.int nd), .val (.int vr), .val (.long vg), .second, .val (.int (1 : Int32)), .unset]) rfl k) ?_
                exact J160 T6 _ X6 e6 N6 (1 : Int32) (by rw [own_ex lv p3 p5 nl nd p6 vr vg hlv0 hvg hvr]; simp only [if_neg hc100_11, if_pos hc113_12, if_neg hc125_13, if_neg hc137_14, if_pos hc150_15])
              · refine own_go (B := T6.setTop (mkF m 157 #[.val (.int p1), .val (.int p2), .val (.int p3), .val (.int p4), .val (.int p5), .val (.int p6), .val (.int lv), .val (.int (p2 &&& (3 : Int32))), .val (.int nl), .val (.int nd), .val (.int vr), .val (.long vg), .second, .unset, .unset] [])) (fun t k => XS.icmpYes X6.here hx rfl (pc0 := 150) (pc' := 157) rfl (Jvm.hb hby at_150) rfl (flt hc150_15).2.1 (by decide) (by decide) k) ?_
                refine own_go (B := T6.setTop (mkF m 158 #[.val (.int p1), .val (.int p2), .val (.int p3), .val (.int p4), .val (.int p5), .val (.int p6), .val (.int lv), .val (.int (p2 &&& (3 : Int32))), .val (.int nl), .val (.int nd), .val (.int vr), .val (.long vg), .second, .unset, .unset] [(.int (0 : Int32))])) (fun t k => XS.iconst X6.here hx rfl (Jvm.hb hby at_157) k) ?_
                refine own_go (B := T6.setTop (mkF m 160 #[.val (.int p1), .val (.int p2), .val (.int p3), .val (.int p4), .val (.int p5), .val (.int p6), .val (.int lv), .val (.int (p2 &&& (3 : Int32))), .val (.int nl), .val (.int nd), .val (.int vr), .val (.long vg), .second, .val (.int (0 : Int32)), .unset] [])) (fun t k => XS.istore X6.here hx rfl (Jvm.hb hby at_158) rfl (l' := #[.val (.int p1), .val (.int p2), .val (.int p3), .val (.int p4), .val (.int p5), .val (.int p6), .val (.int lv), .val (.int (p2 &&& (3 : Int32))), .val (.int nl), .val (.int nd), .val (.int vr), .val (.long vg), .second, .val (.int (0 : Int32)), .unset]) rfl k) ?_
                exact J160 T6 _ X6 e6 N6 (0 : Int32) (by rw [own_ex lv p3 p5 nl nd p6 vr vg hlv0 hvg hvr]; simp only [if_neg hc100_11, if_pos hc113_12, if_neg hc125_13, if_neg hc137_14, if_neg hc150_15])
        · refine own_go (B := T6.setTop (mkF m 116 #[.val (.int p1), .val (.int p2), .val (.int p3), .val (.int p4), .val (.int p5), .val (.int p6), .val (.int lv), .val (.int (p2 &&& (3 : Int32))), .val (.int nl), .val (.int nd), .val (.int vr), .val (.long vg), .second, .unset, .unset] [])) (fun t k => XS.ifNo X6.here hx rfl (Jvm.hb hby at_113) rfl ((if0 _ _).trans (feq (mt (lw_eq vg (0 : Int64)).mp hc113_12)).1) k) ?_
          refine own_go (B := T6.setTop (mkF m 117 #[.val (.int p1), .val (.int p2), .val (.int p3), .val (.int p4), .val (.int p5), .val (.int p6), .val (.int lv), .val (.int (p2 &&& (3 : Int32))), .val (.int nl), .val (.int nd), .val (.int vr), .val (.long vg), .second, .unset, .unset] [(.int (0 : Int32))])) (fun t k => XS.iconst X6.here hx rfl (Jvm.hb hby at_116) k) ?_
          refine own_go (B := T6.setTop (mkF m 119 #[.val (.int p1), .val (.int p2), .val (.int p3), .val (.int p4), .val (.int p5), .val (.int p6), .val (.int lv), .val (.int (p2 &&& (3 : Int32))), .val (.int nl), .val (.int nd), .val (.int vr), .val (.long vg), .second, .val (.int (0 : Int32)), .unset] [])) (fun t k => XS.istore X6.here hx rfl (Jvm.hb hby at_117) rfl (l' := #[.val (.int p1), .val (.int p2), .val (.int p3), .val (.int p4), .val (.int p5), .val (.int p6), .val (.int lv), .val (.int (p2 &&& (3 : Int32))), .val (.int nl), .val (.int nd), .val (.int vr), .val (.long vg), .second, .val (.int (0 : Int32)), .unset]) rfl k) ?_
          refine own_go (B := T6.setTop (mkF m 160 #[.val (.int p1), .val (.int p2), .val (.int p3), .val (.int p4), .val (.int p5), .val (.int p6), .val (.int lv), .val (.int (p2 &&& (3 : Int32))), .val (.int nl), .val (.int nd), .val (.int vr), .val (.long vg), .second, .val (.int (0 : Int32)), .unset] [])) (fun t k => XS.goto X6.here hx rfl (pc0 := 119) (pc' := 160) rfl (Jvm.hb hby at_119) (by decide) (by decide) k) ?_
          exact J160 T6 _ X6 e6 N6 (0 : Int32) (by rw [own_ex lv p3 p5 nl nd p6 vr vg hlv0 hvg hvr]; simp only [if_neg hc100_11, if_neg hc113_12])
    refine own_go (B := Tj56.setTop (mkF m 57 #[.val (.int p1), .val (.int p2), .val (.int p3), .val (.int p4), .val (.int p5), .val (.int p6), .val (.int lv), .val (.int (p2 &&& (3 : Int32))), .val (.int nl), .unset, .unset, .unset, .unset, .unset, .unset] [(.int p4)])) (fun t k => XS.iloadN Xj56.here hx rfl (Jvm.hb hby at_56) rfl k) ?_
    refine own_go (B := Tj56.setTop (mkF m 58 #[.val (.int p1), .val (.int p2), .val (.int p3), .val (.int p4), .val (.int p5), .val (.int p6), .val (.int lv), .val (.int (p2 &&& (3 : Int32))), .val (.int nl), .unset, .unset, .unset, .unset, .unset, .unset] [(.int (1 : Int32)), (.int p4)])) (fun t k => XS.iconst Xj56.here hx rfl (Jvm.hb hby at_57) k) ?_
    refine own_go (B := Tj56.setTop (mkF m 59 #[.val (.int p1), .val (.int p2), .val (.int p3), .val (.int p4), .val (.int p5), .val (.int p6), .val (.int lv), .val (.int (p2 &&& (3 : Int32))), .val (.int nl), .unset, .unset, .unset, .unset, .unset, .unset] [(.int (p4 &&& (1 : Int32)))])) (fun t k => XS.iand Xj56.here hx rfl (Jvm.hb hby at_58) rfl k) ?_
    by_cases hc59_16 : (p4 &&& (1 : Int32)) = (0 : Int32)
    · refine own_go (B := Tj56.setTop (mkF m 62 #[.val (.int p1), .val (.int p2), .val (.int p3), .val (.int p4), .val (.int p5), .val (.int p6), .val (.int lv), .val (.int (p2 &&& (3 : Int32))), .val (.int nl), .unset, .unset, .unset, .unset, .unset, .unset] [])) (fun t k => XS.ifNo Xj56.here hx rfl (Jvm.hb hby at_59) rfl ((if0 _ _).trans (teq hc59_16).2) k) ?_
      refine own_go (B := Tj56.setTop (mkF m 63 #[.val (.int p1), .val (.int p2), .val (.int p3), .val (.int p4), .val (.int p5), .val (.int p6), .val (.int lv), .val (.int (p2 &&& (3 : Int32))), .val (.int nl), .unset, .unset, .unset, .unset, .unset, .unset] [(.int p3)])) (fun t k => XS.iloadN Xj56.here hx rfl (Jvm.hb hby at_62) rfl k) ?_
      refine own_go (B := Tj56.setTop (mkF m 67 #[.val (.int p1), .val (.int p2), .val (.int p3), .val (.int p4), .val (.int p5), .val (.int p6), .val (.int lv), .val (.int (p2 &&& (3 : Int32))), .val (.int nl), .unset, .unset, .unset, .unset, .unset, .unset] [(.int p3)])) (fun t k => XS.goto Xj56.here hx rfl (pc0 := 63) (pc' := 67) rfl (Jvm.hb hby at_63) (by decide) (by decide) k) ?_
      refine own_go (B := Tj56.setTop (mkF m 69 #[.val (.int p1), .val (.int p2), .val (.int p3), .val (.int p4), .val (.int p5), .val (.int p6), .val (.int lv), .val (.int (p2 &&& (3 : Int32))), .val (.int nl), .val (.int p3), .unset, .unset, .unset, .unset, .unset] [])) (fun t k => XS.istore Xj56.here hx rfl (Jvm.hb hby at_67) rfl (l' := #[.val (.int p1), .val (.int p2), .val (.int p3), .val (.int p4), .val (.int p5), .val (.int p6), .val (.int lv), .val (.int (p2 &&& (3 : Int32))), .val (.int nl), .val (.int p3), .unset, .unset, .unset, .unset, .unset]) rfl k) ?_
      exact J69 Tj56 _ Xj56 ej56 Nj56 p3
    · refine own_go (B := Tj56.setTop (mkF m 66 #[.val (.int p1), .val (.int p2), .val (.int p3), .val (.int p4), .val (.int p5), .val (.int p6), .val (.int lv), .val (.int (p2 &&& (3 : Int32))), .val (.int nl), .unset, .unset, .unset, .unset, .unset, .unset] [])) (fun t k => XS.ifYes Xj56.here hx rfl (pc0 := 59) (pc' := 66) rfl (Jvm.hb hby at_59) rfl ((if0 _ _).trans (feq hc59_16).2) (by decide) (by decide) k) ?_
      refine own_go (B := Tj56.setTop (mkF m 67 #[.val (.int p1), .val (.int p2), .val (.int p3), .val (.int p4), .val (.int p5), .val (.int p6), .val (.int lv), .val (.int (p2 &&& (3 : Int32))), .val (.int nl), .unset, .unset, .unset, .unset, .unset, .unset] [(.int p4)])) (fun t k => XS.iloadN Xj56.here hx rfl (Jvm.hb hby at_66) rfl k) ?_
      refine own_go (B := Tj56.setTop (mkF m 69 #[.val (.int p1), .val (.int p2), .val (.int p3), .val (.int p4), .val (.int p5), .val (.int p6), .val (.int lv), .val (.int (p2 &&& (3 : Int32))), .val (.int nl), .val (.int p4), .unset, .unset, .unset, .unset, .unset] [])) (fun t k => XS.istore Xj56.here hx rfl (Jvm.hb hby at_67) rfl (l' := #[.val (.int p1), .val (.int p2), .val (.int p3), .val (.int p4), .val (.int p5), .val (.int p6), .val (.int lv), .val (.int (p2 &&& (3 : Int32))), .val (.int nl), .val (.int p4), .unset, .unset, .unset, .unset, .unset]) rfl k) ?_
      exact J69 Tj56 _ Xj56 ej56 Nj56 p4
  refine own_go (B := s₁.setTop (mkF m 13 #[.val (.int p1), .val (.int p2), .val (.int p3), .val (.int p4), .val (.int p5), .val (.int p6), .val (.int lv), .val (.int (p2 &&& (3 : Int32))), .unset, .unset, .unset, .unset, .unset, .unset, .unset] [(.int (p2 &&& (3 : Int32)))])) (fun t k => XS.iload X0.here hx rfl (Jvm.hb hby at_11) rfl k) ?_
  by_cases hc13_17 : (p2 &&& (3 : Int32)) = (0 : Int32)
  · refine own_go (B := s₁.setTop (mkF m 16 #[.val (.int p1), .val (.int p2), .val (.int p3), .val (.int p4), .val (.int p5), .val (.int p6), .val (.int lv), .val (.int (p2 &&& (3 : Int32))), .unset, .unset, .unset, .unset, .unset, .unset, .unset] [])) (fun t k => XS.ifNo X0.here hx rfl (Jvm.hb hby at_13) rfl ((if0 _ _).trans (teq hc13_17).2) k) ?_
    refine own_go (B := s₁.setTop (mkF m 18 #[.val (.int p1), .val (.int p2), .val (.int p3), .val (.int p4), .val (.int p5), .val (.int p6), .val (.int lv), .val (.int (p2 &&& (3 : Int32))), .unset, .unset, .unset, .unset, .unset, .unset, .unset] [(.int lv)])) (fun t k => XS.iload X0.here hx rfl (Jvm.hb hby at_16) rfl k) ?_
    refine own_go (B := s₁.setTop (mkF m 19 #[.val (.int p1), .val (.int p2), .val (.int p3), .val (.int p4), .val (.int p5), .val (.int p6), .val (.int lv), .val (.int (p2 &&& (3 : Int32))), .unset, .unset, .unset, .unset, .unset, .unset, .unset] [(.int (1 : Int32)), (.int lv)])) (fun t k => XS.iconst X0.here hx rfl (Jvm.hb hby at_18) k) ?_
    refine own_go (B := s₁.setTop (mkF m 20 #[.val (.int p1), .val (.int p2), .val (.int p3), .val (.int p4), .val (.int p5), .val (.int p6), .val (.int lv), .val (.int (p2 &&& (3 : Int32))), .unset, .unset, .unset, .unset, .unset, .unset, .unset] [(.int (lv - (1 : Int32)))])) (fun t k => XS.isub X0.here hx rfl (Jvm.hb hby at_19) rfl k) ?_
    refine own_go (B := s₁.setTop (mkF m 22 #[.val (.int p1), .val (.int p2), .val (.int p3), .val (.int p4), .val (.int p5), .val (.int p6), .val (.int lv), .val (.int (p2 &&& (3 : Int32))), .val (.int (lv - (1 : Int32))), .unset, .unset, .unset, .unset, .unset, .unset] [])) (fun t k => XS.istore X0.here hx rfl (Jvm.hb hby at_20) rfl (l' := #[.val (.int p1), .val (.int p2), .val (.int p3), .val (.int p4), .val (.int p5), .val (.int p6), .val (.int lv), .val (.int (p2 &&& (3 : Int32))), .val (.int (lv - (1 : Int32))), .unset, .unset, .unset, .unset, .unset, .unset]) rfl k) ?_
    refine own_go (B := s₁.setTop (mkF m 56 #[.val (.int p1), .val (.int p2), .val (.int p3), .val (.int p4), .val (.int p5), .val (.int p6), .val (.int lv), .val (.int (p2 &&& (3 : Int32))), .val (.int (lv - (1 : Int32))), .unset, .unset, .unset, .unset, .unset, .unset] [])) (fun t k => XS.goto X0.here hx rfl (pc0 := 22) (pc' := 56) rfl (Jvm.hb hby at_22) (by decide) (by decide) k) ?_
    exact J56 s₁ _ X0 e0 N0 (lv - (1 : Int32))
  · refine own_go (B := s₁.setTop (mkF m 25 #[.val (.int p1), .val (.int p2), .val (.int p3), .val (.int p4), .val (.int p5), .val (.int p6), .val (.int lv), .val (.int (p2 &&& (3 : Int32))), .unset, .unset, .unset, .unset, .unset, .unset, .unset] [])) (fun t k => XS.ifYes X0.here hx rfl (pc0 := 13) (pc' := 25) rfl (Jvm.hb hby at_13) rfl ((if0 _ _).trans (feq hc13_17).2) (by decide) (by decide) k) ?_
    refine own_go (B := s₁.setTop (mkF m 27 #[.val (.int p1), .val (.int p2), .val (.int p3), .val (.int p4), .val (.int p5), .val (.int p6), .val (.int lv), .val (.int (p2 &&& (3 : Int32))), .unset, .unset, .unset, .unset, .unset, .unset, .unset] [(.int (p2 &&& (3 : Int32)))])) (fun t k => XS.iload X0.here hx rfl (Jvm.hb hby at_25) rfl k) ?_
    refine own_go (B := s₁.setTop (mkF m 28 #[.val (.int p1), .val (.int p2), .val (.int p3), .val (.int p4), .val (.int p5), .val (.int p6), .val (.int lv), .val (.int (p2 &&& (3 : Int32))), .unset, .unset, .unset, .unset, .unset, .unset, .unset] [(.int (1 : Int32)), (.int (p2 &&& (3 : Int32)))])) (fun t k => XS.iconst X0.here hx rfl (Jvm.hb hby at_27) k) ?_
    by_cases hc28_18 : (p2 &&& (3 : Int32)) = (1 : Int32)
    · refine own_go (B := s₁.setTop (mkF m 31 #[.val (.int p1), .val (.int p2), .val (.int p3), .val (.int p4), .val (.int p5), .val (.int p6), .val (.int lv), .val (.int (p2 &&& (3 : Int32))), .unset, .unset, .unset, .unset, .unset, .unset, .unset] [])) (fun t k => XS.icmpNo X0.here hx rfl (Jvm.hb hby at_28) rfl (teq hc28_18).2 k) ?_
      refine own_go (B := s₁.setTop (mkF m 33 #[.val (.int p1), .val (.int p2), .val (.int p3), .val (.int p4), .val (.int p5), .val (.int p6), .val (.int lv), .val (.int (p2 &&& (3 : Int32))), .unset, .unset, .unset, .unset, .unset, .unset, .unset] [(.int lv)])) (fun t k => XS.iload X0.here hx rfl (Jvm.hb hby at_31) rfl k) ?_
      refine own_go (B := s₁.setTop (mkF m 35 #[.val (.int p1), .val (.int p2), .val (.int p3), .val (.int p4), .val (.int p5), .val (.int p6), .val (.int lv), .val (.int (p2 &&& (3 : Int32))), .val (.int lv), .unset, .unset, .unset, .unset, .unset, .unset] [])) (fun t k => XS.istore X0.here hx rfl (Jvm.hb hby at_33) rfl (l' := #[.val (.int p1), .val (.int p2), .val (.int p3), .val (.int p4), .val (.int p5), .val (.int p6), .val (.int lv), .val (.int (p2 &&& (3 : Int32))), .val (.int lv), .unset, .unset, .unset, .unset, .unset, .unset]) rfl k) ?_
      refine own_go (B := s₁.setTop (mkF m 56 #[.val (.int p1), .val (.int p2), .val (.int p3), .val (.int p4), .val (.int p5), .val (.int p6), .val (.int lv), .val (.int (p2 &&& (3 : Int32))), .val (.int lv), .unset, .unset, .unset, .unset, .unset, .unset] [])) (fun t k => XS.goto X0.here hx rfl (pc0 := 35) (pc' := 56) rfl (Jvm.hb hby at_35) (by decide) (by decide) k) ?_
      exact J56 s₁ _ X0 e0 N0 lv
    · refine own_go (B := s₁.setTop (mkF m 38 #[.val (.int p1), .val (.int p2), .val (.int p3), .val (.int p4), .val (.int p5), .val (.int p6), .val (.int lv), .val (.int (p2 &&& (3 : Int32))), .unset, .unset, .unset, .unset, .unset, .unset, .unset] [])) (fun t k => XS.icmpYes X0.here hx rfl (pc0 := 28) (pc' := 38) rfl (Jvm.hb hby at_28) rfl (feq hc28_18).2 (by decide) (by decide) k) ?_
      refine own_go (B := s₁.setTop (mkF m 40 #[.val (.int p1), .val (.int p2), .val (.int p3), .val (.int p4), .val (.int p5), .val (.int p6), .val (.int lv), .val (.int (p2 &&& (3 : Int32))), .unset, .unset, .unset, .unset, .unset, .unset, .unset] [(.int (p2 &&& (3 : Int32)))])) (fun t k => XS.iload X0.here hx rfl (Jvm.hb hby at_38) rfl k) ?_
      refine own_go (B := s₁.setTop (mkF m 41 #[.val (.int p1), .val (.int p2), .val (.int p3), .val (.int p4), .val (.int p5), .val (.int p6), .val (.int lv), .val (.int (p2 &&& (3 : Int32))), .unset, .unset, .unset, .unset, .unset, .unset, .unset] [(.int (2 : Int32)), (.int (p2 &&& (3 : Int32)))])) (fun t k => XS.iconst X0.here hx rfl (Jvm.hb hby at_40) k) ?_
      by_cases hc41_19 : (p2 &&& (3 : Int32)) = (2 : Int32)
      · refine own_go (B := s₁.setTop (mkF m 44 #[.val (.int p1), .val (.int p2), .val (.int p3), .val (.int p4), .val (.int p5), .val (.int p6), .val (.int lv), .val (.int (p2 &&& (3 : Int32))), .unset, .unset, .unset, .unset, .unset, .unset, .unset] [])) (fun t k => XS.icmpNo X0.here hx rfl (Jvm.hb hby at_41) rfl (teq hc41_19).2 k) ?_
        refine own_go (B := s₁.setTop (mkF m 46 #[.val (.int p1), .val (.int p2), .val (.int p3), .val (.int p4), .val (.int p5), .val (.int p6), .val (.int lv), .val (.int (p2 &&& (3 : Int32))), .unset, .unset, .unset, .unset, .unset, .unset, .unset] [(.int lv)])) (fun t k => XS.iload X0.here hx rfl (Jvm.hb hby at_44) rfl k) ?_
        refine own_go (B := s₁.setTop (mkF m 47 #[.val (.int p1), .val (.int p2), .val (.int p3), .val (.int p4), .val (.int p5), .val (.int p6), .val (.int lv), .val (.int (p2 &&& (3 : Int32))), .unset, .unset, .unset, .unset, .unset, .unset, .unset] [(.int (1 : Int32)), (.int lv)])) (fun t k => XS.iconst X0.here hx rfl (Jvm.hb hby at_46) k) ?_
        refine own_go (B := s₁.setTop (mkF m 48 #[.val (.int p1), .val (.int p2), .val (.int p3), .val (.int p4), .val (.int p5), .val (.int p6), .val (.int lv), .val (.int (p2 &&& (3 : Int32))), .unset, .unset, .unset, .unset, .unset, .unset, .unset] [(.int (lv + (1 : Int32)))])) (fun t k => XS.iadd X0.here hx rfl (Jvm.hb hby at_47) rfl k) ?_
        refine own_go (B := s₁.setTop (mkF m 50 #[.val (.int p1), .val (.int p2), .val (.int p3), .val (.int p4), .val (.int p5), .val (.int p6), .val (.int lv), .val (.int (p2 &&& (3 : Int32))), .val (.int (lv + (1 : Int32))), .unset, .unset, .unset, .unset, .unset, .unset] [])) (fun t k => XS.istore X0.here hx rfl (Jvm.hb hby at_48) rfl (l' := #[.val (.int p1), .val (.int p2), .val (.int p3), .val (.int p4), .val (.int p5), .val (.int p6), .val (.int lv), .val (.int (p2 &&& (3 : Int32))), .val (.int (lv + (1 : Int32))), .unset, .unset, .unset, .unset, .unset, .unset]) rfl k) ?_
        refine own_go (B := s₁.setTop (mkF m 56 #[.val (.int p1), .val (.int p2), .val (.int p3), .val (.int p4), .val (.int p5), .val (.int p6), .val (.int lv), .val (.int (p2 &&& (3 : Int32))), .val (.int (lv + (1 : Int32))), .unset, .unset, .unset, .unset, .unset, .unset] [])) (fun t k => XS.goto X0.here hx rfl (pc0 := 50) (pc' := 56) rfl (Jvm.hb hby at_50) (by decide) (by decide) k) ?_
        exact J56 s₁ _ X0 e0 N0 (lv + (1 : Int32))
      · refine own_go (B := s₁.setTop (mkF m 53 #[.val (.int p1), .val (.int p2), .val (.int p3), .val (.int p4), .val (.int p5), .val (.int p6), .val (.int lv), .val (.int (p2 &&& (3 : Int32))), .unset, .unset, .unset, .unset, .unset, .unset, .unset] [])) (fun t k => XS.icmpYes X0.here hx rfl (pc0 := 41) (pc' := 53) rfl (Jvm.hb hby at_41) rfl (feq hc41_19).2 (by decide) (by decide) k) ?_
        refine own_go (B := s₁.setTop (mkF m 54 #[.val (.int p1), .val (.int p2), .val (.int p3), .val (.int p4), .val (.int p5), .val (.int p6), .val (.int lv), .val (.int (p2 &&& (3 : Int32))), .unset, .unset, .unset, .unset, .unset, .unset, .unset] [(.int p2)])) (fun t k => XS.iloadN X0.here hx rfl (Jvm.hb hby at_53) rfl k) ?_
        refine own_go (B := s₁.setTop (mkF m 56 #[.val (.int p1), .val (.int p2), .val (.int p3), .val (.int p4), .val (.int p5), .val (.int p6), .val (.int lv), .val (.int (p2 &&& (3 : Int32))), .val (.int p2), .unset, .unset, .unset, .unset, .unset, .unset] [])) (fun t k => XS.istore X0.here hx rfl (Jvm.hb hby at_54) rfl (l' := #[.val (.int p1), .val (.int p2), .val (.int p3), .val (.int p4), .val (.int p5), .val (.int p6), .val (.int lv), .val (.int (p2 &&& (3 : Int32))), .val (.int p2), .unset, .unset, .unset, .unset, .unset, .unset]) rfl k) ?_
        exact J56 s₁ _ X0 e0 N0 p2
set_option maxRecDepth 65536 in
set_option maxHeartbeats 40000000 in
theorem comes_1 {Post : Tables → Env → Array Value → State → Outcome → State → Prop} (hpost : ∀ tb e args s v u, (limb_1_1.after args s (.returned v) u = true ∧ limb_1_2.after args s (.returned v) u = true ∧ True) → FrameEnd s (.returned v) u (Jvm.fieldLocs frame_1_writes args s ++ Jvm.arrayLocs frame_1_arrays args s ++ Jvm.staticLocs frame_1_statics s) 0 0 → Post tb e args s (.returned v) u) :
    ArmFor flags0 classFile x code maxLocals ret World_1 tables_1 room_1 Calls_1 rest_1 Pre_1 Post := by
  intro l hfl _ _ p e ha hc hk s m args below hf hA hF happ hP
  obtain ⟨hcalls, hrest, hpre⟩ := hP
  obtain ⟨-, -, -, hnamed, -, -, -, hat⟩ := (Spec.applies_iff hf).mp happ
  obtain ⟨hg, hn⟩ := and_e (Cond.before_iff.mp (show (Jvm.Cond.and given_1 narrow_1).before args s = true from hpre))
  obtain ⟨g1a, g1b⟩ := and_e hg
  obtain ⟨g2a, g2b⟩ := and_e g1b
  obtain ⟨g3a, g3b⟩ := and_e g2b
  obtain ⟨g4a, g4b⟩ := and_e g3b
  obtain ⟨g5a, g5b⟩ := and_e g4b
  obtain ⟨g6a, g6b⟩ := and_e g5b
  obtain ⟨w0, w1, w2, w3, w4, w5, rfl⟩ : ∃ w0 w1 w2 w3 w4 w5 : Value, args = #[w0, w1, w2, w3, w4, w5] := by
    have hs : args.size = 6 := by simpa [Cond.value, given_1] using g1a
    obtain ⟨L⟩ := args
    match L, hs with
    | [w0, w1, w2, w3, w4, w5], _ => exact ⟨w0, w1, w2, w3, w4, w5, rfl⟩
  have hw := fun d (hd : d ∈ tables_1) => atoms_spec (ws := Jvm.Cond.code x code maxLocals ret :: tables_1) hat d (List.mem_cons_of_mem _ hd)
  obtain ⟨i0, ei0⟩ := is_v g2a
  obtain rfl : w0 = (.int i0) := Option.some.inj ei0
  obtain ⟨i1, ei1⟩ := is_v g3a
  obtain rfl : w1 = (.int i1) := Option.some.inj ei1
  obtain ⟨i2, ei2⟩ := is_v g4a
  obtain rfl : w2 = (.int i2) := Option.some.inj ei2
  obtain ⟨i3, ei3⟩ := is_v g5a
  obtain rfl : w3 = (.int i3) := Option.some.inj ei3
  obtain ⟨i4, ei4⟩ := is_v g6a
  obtain rfl : w4 = (.int i4) := Option.some.inj ei4
  obtain ⟨i5, ei5⟩ := is_v g6b
  obtain rfl : w5 = (.int i5) := Option.some.inj ei5
  obtain ⟨n, o, h1, h2, h3, _, L, rfl, ⟨rfl, N⟩, hq⟩ := rm0 l s _ hw tables_1 i0 i1 i2 i3 i4 i5 s.heap s.heap.size (Nat.le_refl _) p e ha hc hk s m _ below hf ((Spec.applies_iff_loose hf).mp happ).1 ⟨rfl, State.Warmed39.refl s, rfl⟩ trivial
  refine ⟨n, _, h1, h2, h3, hpost _ _ _ _ _ _ ⟨Cond.after_iff.mpr rfl, Cond.after_iff.mpr (eq_i res_at (Term.int_eval (1)) rfl), trivial⟩ ⟨hq.1, hq.2.1, (hq.2.2.sift fun y hy => Or.inr (N y hy)).mono (by decide) (by decide)⟩⟩
theorem main_1_1 : Claimed_1_1 := comes_1 fun _ _ _ _ _ _ h hF => ⟨h.1, hF⟩
theorem main_1_2 : Claimed_1_2 := comes_1 fun _ _ _ _ _ _ h hF => ⟨h.2.1, hF⟩
end Jvm.Pilot.@@N@@
namespace Jvm.Pilot.@@N@@
open Jvm Jvm.ClassFile Sem Op Lib Jvm.Free Jvm.Stand Jvm.Pilot.@@N@@.Jvm.D
/-! MADE BY PROGRAM (witnessworld.py) out of the Statement's table words and the real class files: 9 classes; the members and pool entries that the words name. The judged class is class 1, her method 1. -/
namespace start1
open Jvm.ClassFile
def u (s : String) : CpInfo := .utf8 (stringToUtf16 s)
/-- a pool by its gaps: so many unusable entries, then the entry; so many at the end -/
def gap : Nat → List CpInfo → List CpInfo
  | 0, r => r
  | n + 1, r => .unusable :: gap n r
def poolList (es : List (Nat × CpInfo)) (last : Nat) : List CpInfo := es.foldr (fun e r => gap e.1 (e.2 :: r)) (gap last [])
def pool (es : List (Nat × CpInfo)) (last : Nat) : Array CpInfo := ⟨poolList es last⟩
def fileOf (pool : Array CpInfo) (this : Nat) (attrs : Array Attribute := #[]) (ms : Array MethodInfo := #[]) (fl : Nat := 33) (sup : Nat := 0) (ifs : Array Nat := #[]) (fds : Array FieldInfo := #[]) : ClassFile where
  minorVersion := 0
  majorVersion := 65
  constantPool := pool
  accessFlags := fl
  thisClass := this
  superClass := sup
  interfaces := ifs
  fields := fds
  methods := ms
  attributes := attrs
def plain (name : String) (sup : Option ClassId) : Class where
  name := name
  kind := .ordinary
  loader := none
  accessFlags := 33
  super := sup
  interfaces := #[]
  cf := none
  fields := #[]
  methods := #[]
  instanceTypes := #[]
  staticTypes := #[]
  resolved := #[]
  callSites := []
  init := .initialized
  statics := none
  mirror := none

def pool0 : Array CpInfo := pool [(5, u "<init>"), (0, u "()V"), (1, .class_ 10), (1, u "java/lang/Object")] 113

def k0m0 : Method := { name := "<init>", desc := "()V", sig := { parameters := [], returnType := none }, accessFlags := 1, code := none }
/-- java/lang/Object -/
def k0 : Class := { plain "java/lang/Object" none with
  accessFlags := 33
  interfaces := #[]
  cf := some (fileOf pool0 8 #[] #[{ accessFlags := 1, nameIndex := 5, descriptorIndex := 6, attributes := #[] }] 33 0 #[] #[])
  fields := #[]
  methods := #[k0m0]
  instanceTypes := #[]
  staticTypes := #[]
  resolved := Array.replicate 124 none
  statics := none }

def pool1 : Array CpInfo := pool [(2, .class_ 4), (1, u "java/lang/Object"), (0, u "<init>"), (0, u "()V"), (0, .integer 2147483647), (0, .methodref 9 10), (0, .class_ 11), (0, .nameAndType 12 13), (0, u "tessera/ShiftSpanner"), (0, u "mayKeep"), (0, u "(IIIIII)Z"), (0, .long 18446744073709551615), (1, .class_ 17), (0, u "tessera/ShiftSpannerMayKeepPinLaw"), (2, u "law")] 3

def k1m0 : Method := { name := "<init>", desc := "()V", sig := { parameters := [], returnType := none }, accessFlags := 2, code := none }
def k1c1 : Code := { maxStack := 6, maxLocals := 15, code := code, exceptionTable := #[], attributes := #[] }
def k1m1 : Method := { name := "law", desc := "(IIIIII)Z", sig := { parameters := [.int, .int, .int, .int, .int, .int], returnType := some .boolean }, accessFlags := 9, code := some k1c1 }
/-- tessera/ShiftSpannerMayKeepPinLaw -/
def k1 : Class := { plain "tessera/ShiftSpannerMayKeepPinLaw" (some 0) with
  accessFlags := 49
  interfaces := #[]
  cf := some (fileOf pool1 16 #[] #[{ accessFlags := 2, nameIndex := 5, descriptorIndex := 6, attributes := #[] }, { accessFlags := 9, nameIndex := 20, descriptorIndex := 13, attributes := #[] }] 49 2 #[] #[])
  fields := #[]
  methods := #[k1m0, k1m1]
  instanceTypes := #[]
  staticTypes := #[]
  resolved := Array.replicate 24 none
  statics := none }

def pool2 : Array CpInfo := pool [(2, .class_ 4), (1, u "java/lang/Object"), (0, u "<init>"), (0, u "()V"), (13, .class_ 22), (1, u "tessera/ShiftSpanner"), (39, u "mayKeep"), (0, u "(IIIIII)Z")] 19

def k2m0 : Method := { name := "<init>", desc := "()V", sig := { parameters := [], returnType := none }, accessFlags := 2, code := none }
def k2c1 : Code := { maxStack := 3, maxLocals := 6, code := prog_50_method_5_code, exceptionTable := #[], attributes := #[] }
def k2m1 : Method := { name := "mayKeep", desc := "(IIIIII)Z", sig := { parameters := [.int, .int, .int, .int, .int, .int], returnType := some .boolean }, accessFlags := 8, code := some k2c1 }
/-- tessera/ShiftSpanner -/
def k2 : Class := { plain "tessera/ShiftSpanner" (some 0) with
  accessFlags := 48
  interfaces := #[]
  cf := some (fileOf pool2 20 #[] #[{ accessFlags := 2, nameIndex := 5, descriptorIndex := 6, attributes := #[] }, { accessFlags := 8, nameIndex := 62, descriptorIndex := 63, attributes := #[] }] 48 2 #[] #[])
  fields := #[]
  methods := #[k2m0, k2m1]
  instanceTypes := #[]
  staticTypes := #[]
  resolved := Array.replicate 83 none
  statics := none }

def pool3 : Array CpInfo := pool [(1, u "java/lang/Cloneable"), (0, .class_ 1), (0, u "java/lang/Object"), (0, .class_ 3)] 3

/-- java/lang/Cloneable -/
def k3 : Class := { plain "java/lang/Cloneable" (some 0) with
  accessFlags := 1537
  interfaces := #[]
  cf := some (fileOf pool3 2 #[] #[] 1537 4 #[] #[])
  fields := #[]
  methods := #[]
  instanceTypes := #[]
  staticTypes := #[]
  resolved := Array.replicate 8 none
  statics := none }

def pool4 : Array CpInfo := pool [(1, u "java/io/Serializable"), (0, .class_ 1), (0, u "java/lang/Object"), (0, .class_ 3)] 3

/-- java/io/Serializable -/
def k4 : Class := { plain "java/io/Serializable" (some 0) with
  accessFlags := 1537
  interfaces := #[]
  cf := some (fileOf pool4 2 #[] #[] 1537 4 #[] #[])
  fields := #[]
  methods := #[]
  instanceTypes := #[]
  staticTypes := #[]
  resolved := Array.replicate 8 none
  statics := none }

/-- the primitive byte -/
def k5 : Class := { plain "byte" none with kind := .primitive 'B', accessFlags := 0x411 }
/-- [B -/
def k6 : Class := { plain "[B" (some 0) with kind := .array 5 .byte, interfaces := #[3, 4], accessFlags := 1041 }

/-- the primitive int -/
def k7 : Class := { plain "int" none with kind := .primitive 'I', accessFlags := 0x411 }
/-- [I -/
def k8 : Class := { plain "[I" (some 0) with kind := .array 7 .int, interfaces := #[3, 4], accessFlags := 1041 }

def heap : Heap := #[]
def classes : Array Class := #[k0, k1, k2, k3, k4, k5, k6, k7, k8]
def interned : List (Array UInt16 × Addr) := []
def slotsUsed : Nat := 0
def theMethod : MethodId := ⟨1, 1⟩
def args0 : Array Value := #[.int 5, .int 5, .int 5, .int 5, .int 5, .int 5]
def aboutOver (below : List Frame) : State where
  vm := { classes := classes, interned := interned.toArray }
  heap := heap
  slotsUsed := slotsUsed
  threads := #[{ frames := .invoking theMethod args0 :: below }]
def below0 : List Frame := [.native { method := ⟨0, 0⟩, args := #[] }]
def about1 : State := aboutOver below0
def p0 : Program := .bare "" "" ""
def e0 : Env := launch0.env 0 0 0
theorem w_frames : about1.frames = Frame.invoking theMethod args0 :: below0 := rfl
set_option maxRecDepth 65536 in
theorem w_args : argsFit about1.vm theMethod args0 = true := by decide +kernel
set_option maxRecDepth 65536 in
theorem w_heap : heapFits about1 = true := by decide +kernel
set_option maxRecDepth 65536 in
theorem w_runnable : about1.curStatus? = some .runnable := by decide +kernel
set_option maxRecDepth 65536 in
theorem w_alone : about1.alone = true := by decide +kernel
set_option maxRecDepth 65536 in
theorem w_named : about1.methodNamed? x = some theMethod := by decide +kernel
set_option maxRecDepth 65536 in
theorem w_hears : about1.hears theMethod below0 = true := by decide +kernel
set_option maxRecDepth 65536 in
theorem w_ripe : about1.ripe theMethod args0 below0 = true := by decide +kernel
theorem w_running : about1.status = .running := rfl
set_option maxRecDepth 65536 in
theorem w_room : about1.hasRoom e0.platform room_1 = true :=
  launch0.hasRoom_least _ room_1 (by decide +kernel) (by decide +kernel) (by decide +kernel) (by decide +kernel) (by decide +kernel) (by decide +kernel)
theorem allAtoms_all (ts : List Jvm.Cond) (a : Array Jvm.Value) (st : Jvm.State) : (allAtoms ts).before a st = ts.all (fun c => c.before a st) := by
  induction ts with
  | nil => rfl
  | cons c t ih =>
    show (Jvm.Cond.and c (allAtoms t)).before a st = _
    rw [Jvm.Cond.before_and, ih, List.all_cons]
def words1 : List Jvm.Cond := Jvm.Cond.code x code maxLocals ret :: tables_1
/-- a 'code' word, met by the world's own term for the bytes: nothing is compared byte by byte -/
theorem code_word {y : MethodName} {bytes : ByteArray} {mx : Nat} {rt : Option FieldType} {a : Array Value} {s : State} {m : MethodId} {meth : Method} {c : Code} (h1 : s.methodNamed? y = some m) (h2 : s.vm.method? m = some meth) (h3 : meth.code = some c) (h4 : c.code = bytes)
    (h5 : (c.maxLocals == mx && c.exceptionTable.isEmpty && decide (c.maxStack ≤ mostOperands) && decide (meth.sig.returnType = rt) && !meth.locks && decide (parseMethodDescriptor y.desc = some meth.sig)) = true) : (Jvm.Cond.code y bytes mx rt).before a s = true := by
  simp only [Bool.and_eq_true, beq_iff_eq, Bool.not_eq_true', decide_eq_true_eq] at h5
  obtain ⟨⟨⟨⟨⟨g1, g2⟩, g3⟩, g4⟩, g5⟩, g6⟩ := h5
  simp [Cond.before, Cond.holds, Cond.value, h1, h2, h3, h4, g1, g2, g3, g4, g5, g6]
def isCode : Jvm.Cond → Bool
  | .code _ _ _ _ => true
  | _ => false
theorem all_split {L : List Jvm.Cond} {P : Jvm.Cond → Bool} (h1 : L.all (fun c => isCode c || P c) = true) (h2 : ∀ c ∈ L.filter isCode, P c = true) : L.all P = true := by
  refine List.all_eq_true.mpr fun c hc => ?_
  have h := List.all_eq_true.mp h1 c hc
  rcases Bool.eq_false_or_eq_true (isCode c) with hi | hi
  · exact h2 c (List.mem_filter.mpr ⟨hc, hi⟩)
  · simpa [hi] using h
set_option maxRecDepth 65536 in
theorem w_c0 : (Jvm.Cond.code x code maxLocals ret).before args0 about1 = true := code_word (m := ⟨1, 1⟩) (meth := k1m1) (c := k1c1) (by decide +kernel) rfl rfl rfl (by decide +kernel)
set_option maxRecDepth 65536 in
theorem w_c1 : (Jvm.Cond.code ({ cls := "tessera/ShiftSpanner", name := "mayKeep", desc := "(IIIIII)Z" } : Jvm.MethodName) prog_50_method_5_code (6 : Nat) (Option.some Jvm.ClassFile.FieldType.boolean)).before args0 about1 = true := code_word (m := ⟨2, 1⟩) (meth := k2m1) (c := k2c1) (by decide +kernel) rfl rfl rfl (by decide +kernel)
def codes1 : List Jvm.Cond := [Jvm.Cond.code x code maxLocals ret, Jvm.Cond.code ({ cls := "tessera/ShiftSpanner", name := "mayKeep", desc := "(IIIIII)Z" } : Jvm.MethodName) prog_50_method_5_code (6 : Nat) (Option.some Jvm.ClassFile.FieldType.boolean)]
set_option maxRecDepth 65536 in
theorem codes_eq : words1.filter isCode = codes1 := rfl
theorem w_codes : ∀ c ∈ words1.filter isCode, c.before args0 about1 = true := by
  rw [codes_eq]
  intro c hc
  simp only [codes1, List.mem_cons, List.not_mem_nil, or_false] at hc
  rcases hc with rfl | rfl
  · exact w_c0
  · exact w_c1
set_option maxRecDepth 65536 in
theorem w_t1 : words1.all (fun c => isCode c || c.before args0 about1) = true := by decide +kernel
theorem w_tables : (allAtoms (Jvm.Cond.code x code maxLocals ret :: tables_1)).before args0 about1 = true := by
  rw [allAtoms_all]
  show words1.all (fun c => c.before args0 about1) = true
  refine all_split ?_ w_codes
  rw [w_t1]
set_option maxRecDepth 65536 in
theorem w_case : (Jvm.Cond.and given_1 narrow_1).before args0 about1 = true := by decide +kernel
theorem w_applies : (headSpec (Jvm.Cond.code x code maxLocals ret :: tables_1) room_1).applies x e0.platform about1 = true :=
  (Spec.applies_iff w_frames).mpr ⟨w_running, w_runnable, w_alone, w_named, w_hears, w_ripe, w_room, w_tables⟩
theorem atStart : AtStart classFile x code maxLocals ret World_1 tables_1 room_1 Calls_1 rest_1 Pre_1 launch0 p0 e0 about1 theMethod args0 below0 :=
  ⟨lists_1, trivial, launch0.admits_env _ _ _, launch0.least_env, fairChoices_fair.cas, fairChoices_fair.clock, w_frames, w_args, w_heap, w_applies, trivial, trivial, w_case⟩
end start1
theorem witness_1 : WitnessClaimed_1 := ⟨start1.p0, start1.e0, start1.about1, start1.theMethod, start1.args0, start1.below0, start1.atStart⟩
end Jvm.Pilot.@@N@@
