import JvmDerived
import JvmDerived.Pilot.@@N@@Statement
import JvmDerived.Pilot.@@N@@Code
set_option linter.unusedVariables false
set_option linter.unusedSimpArgs false
namespace Jvm.Pilot.@@N@@
open Jvm Jvm.ClassFile Sem Op Lib Jvm.Free Jvm.Stand Jvm.LawKit Jvm.RoadKit Bundle Jvm.Pilot.@@N@@.Jvm.D
section Own
variable {p : Program} {l : Launch} {e : Env} {R : Room} {s : State} {m : MethodId} {args : Array Value} {below : List Frame} {meth : Method} {c : Code} {T : State} {locs : List Loc} {cells slots : Nat} {Z : State} {h h' : Heap} {a b : Addr}
/-- from A the run comes to its return, and Q holds there -/
def own_Goes (p : Program) (e : Env) (below : List Frame) (s : State) (Q : Option Value → Heap → List Loc → Prop) (kc ks : Nat) (A : State) : Prop :=
  ∃ s₂ o, Steps p.tables e below A s₂ ∧ s₂.status = .running ∧ Ended s₂ below o ∧ ∃ v L, o = .returned v ∧ Q v s₂.heap L ∧ FrameEnd s o s₂ L kc ks
theorem own_go {Q : Option Value → Heap → List Loc → Prop} {kc ks : Nat} {A B : State} (st : ∀ t, Steps p.tables e below B t → Steps p.tables e below A t) (k : own_Goes p e below s Q kc ks B) : own_Goes p e below s Q kc ks A := by
  obtain ⟨s2, o, h1, h2⟩ := k
  exact ⟨s2, o, st _ h1, h2⟩
theorem own_w {a0 : Array Value} {Z : State} (hw : ∀ d ∈ tables_1, d.before a0 Z = true) (i : Nat) {d : Jvm.Cond} (h : tables_1[i]? = some d) : d.before a0 Z = true := hw d (List.mem_of_getElem? h)
theorem own_selP {y y' : MethodName} (hs : (Cond.selects y'.cls y' y').before args s = true) (he : y.cls = y'.cls) (hpriv : s.PrivateAt y) (hinst : (Cond.instanceMethod y).before args s = true) (hy : y.cls ≠ "java/lang/invoke/MethodHandle" ∧ y.cls ≠ "java/lang/invoke/VarHandle") : (Cond.selects y.cls y y).before args s = true := by
  obtain ⟨c2, r2, m2, q1, q2, q3, q4, kP, hkP, hkPi⟩ := Cond.selects_spec hs
  exact selects_self_of_private (by rw [he]; exact findClass_of_methodNamed q3) hkP hkPi hpriv hinst hy
theorem own_st {tb : Tables} {A B t : State} (h1 : Steps tb e below A B) (k : Steps tb e below B t) : Steps tb e below A t := h1.trans k
theorem own_out {Q : Option Value → Heap → List Loc → Prop} {kc ks : Nat} {A : State} (X : Stand p l e R s m args below meth c T locs cells slots) {v : Option Value} (hv : meth.sig.returnType = none → v = none) (hlk : meth.locks = false)
    (st : ∀ fs, (∀ (f : JFrame) (acts : List Action), f.method = m → f.locked = none → f.entered = [] → (doReturn e (T.setTop f) acts v).1 = T.setFrames fs) → Steps p.tables e below A (T.setFrames fs))
    (hq : Q v T.heap locs) (hc : cells ≤ kc) (hs : slots ≤ ks) : own_Goes p e below s Q kc ks A := by
  obtain ⟨fs, hr, hrun, hended, hW, hsame⟩ := X.leave hv hlk
  exact ⟨_, _, st fs hr, hrun, hended, _, _, rfl, hq, ⟨_, rfl⟩, hW, hsame.mono hc hs⟩
theorem own_irem {tb : Tables} [Ours tb] {T target : State} {g : JFrame} (h : At T m c below) (hx : tb.exec = Jvm.exec) (hg : g.method = m) {x y : Int32} {rest : List Value} (hd : decode c.code g.pc = .ok (.irem, 1)) (hs : g.stack = .int y :: .int x :: rest) (hy : y ≠ 0)
    (hr : Steps tb e below (T.setTop { g with pc := g.pc + 1, stack := .int (x % y) :: rest }) target) : Steps tb e below (T.setTop g) target := XS.irem h hx hg hd hs hy (by rw [irem_eq_mod]; exact hr)
theorem own_lrem {tb : Tables} [Ours tb] {T target : State} {g : JFrame} (h : At T m c below) (hx : tb.exec = Jvm.exec) (hg : g.method = m) {x y : Int64} {rest : List Value} (hd : decode c.code g.pc = .ok (.lrem, 1)) (hs : g.stack = .long y :: .long x :: rest) (hy : y ≠ 0)
    (hr : Steps tb e below (T.setTop { g with pc := g.pc + 1, stack := .long (x % y) :: rest }) target) : Steps tb e below (T.setTop g) target := XS.lrem h hx hg hd hs hy (by rw [lrem_mod]; exact hr)
/-- an array of ints (bytes, booleans): its length, and what each place holds -/
def own_IA (Z : State) (h : Heap) (a : Addr) (ty : FieldType) (n : Nat) (f : Nat → Int32) : Prop := ∃ c : Cell, Arr Z h a c ty ∧ c.slots.size = n ∧ ∀ i, i < n → c.slots[i]? = some (.int (f i))
/-- an array of longs -/
def own_LA (Z : State) (h : Heap) (a : Addr) (n : Nat) (f : Nat → Int64) : Prop := ∃ c : Cell, Arr Z h a c .long ∧ c.slots.size = n ∧ ∀ i, i < n → c.slots[i]? = some (.long (f i))
def own_upd {α : Type} (f : Nat → α) (j : Nat) (x : α) (i : Nat) : α := if i = j then x else f i
theorem own_upd_hit {α : Type} (f : Nat → α) (j : Nat) (x : α) : own_upd f j x j = x := if_pos rfl
theorem own_upd_miss {α : Type} (f : Nat → α) {i j : Nat} (x : α) (q : i ≠ j) : own_upd f j x i = f i := if_neg q
section Arrays
variable {ty : FieldType} {n : Nat} {f : Nat → Int32} {fl : Nat → Int64} {sl : Nat} {v : Value} {ws : List Addr}
theorem own_IA.lt (F : own_IA Z h a ty n f) : a < h.size := by obtain ⟨c, A, -⟩ := F; exact A.lt
theorem own_LA.lt (F : own_LA Z h a n fl) : a < h.size := by obtain ⟨c, A, -⟩ := F; exact A.lt
theorem own_IA.ext (F : own_IA Z h a ty n f) (E : Ext h h') : own_IA Z h' a ty n f := by obtain ⟨c, A, r⟩ := F; exact ⟨c, A.ext E, r⟩
theorem own_LA.ext (F : own_LA Z h a n fl) (E : Ext h h') : own_LA Z h' a n fl := by obtain ⟨c, A, r⟩ := F; exact ⟨c, A.ext E, r⟩
theorem own_IA.other (F : own_IA Z h b ty n f) (W : Wr h h' a sl v) (q : b ≠ a) : own_IA Z h' b ty n f := by obtain ⟨c, A, r⟩ := F; exact ⟨c, A.other W q, r⟩
theorem own_LA.other (F : own_LA Z h b n fl) (W : Wr h h' a sl v) (q : b ≠ a) : own_LA Z h' b n fl := by obtain ⟨c, A, r⟩ := F; exact ⟨c, A.other W q, r⟩
theorem own_IA.keep (F : own_IA Z h a ty n f) (K : Keep h h' ws) (q : a ∉ ws) : own_IA Z h' a ty n f := by obtain ⟨c, A, r⟩ := F; exact ⟨c, ⟨K.2.1 a c A.1 q, A.2⟩, r⟩
theorem own_LA.keep (F : own_LA Z h a n fl) (K : Keep h h' ws) (q : a ∉ ws) : own_LA Z h' a n fl := by obtain ⟨c, A, r⟩ := F; exact ⟨c, ⟨K.2.1 a c A.1 q, A.2⟩, r⟩
theorem own_IA.cong {g : Nat → Int32} (F : own_IA Z h a ty n f) (q : ∀ i, i < n → f i = g i) : own_IA Z h a ty n g := by obtain ⟨c, A, r, u⟩ := F; exact ⟨c, A, r, fun i hi => by rw [u i hi, q i hi]⟩
theorem own_LA.cong {g : Nat → Int64} (F : own_LA Z h a n fl) (q : ∀ i, i < n → fl i = g i) : own_LA Z h a n g := by obtain ⟨c, A, r, u⟩ := F; exact ⟨c, A, r, fun i hi => by rw [u i hi, q i hi]⟩
theorem own_in {cl : Cell} {j : Int32} {k : Nat} (S : cl.slots.size = n) (h1 : ¬ j < 0) (hk : j.toNatClampNeg = k) (h2 : k < n) : ¬ (j < 0 ∨ cl.slots.size ≤ j.toNatClampNeg) := by
  rintro (q | q)
  · exact h1 q
  · rw [S, hk] at q; exact absurd h2 (Nat.not_lt.mpr q)
theorem own_set {cl : Cell} {k : Nat} (S : cl.slots.size = n) (h2 : k < n) (v : Value) (i : Nat) : (cl.setSlot k v).slots[i]? = if i = k then some v else cl.slots[i]? := by
  by_cases q : i = k
  · subst q; rw [if_pos rfl]; exact Array.getElem?_setIfInBounds_self_of_lt (by rw [S]; exact h2)
  · rw [if_neg q]; exact Array.getElem?_setIfInBounds_ne (fun z => q z.symm)
theorem own_Inew {k : ClassId} {z : Int32} (A : Arr Z h a (newA k ty z) ty) (hz : z.toNatClampNeg = n) (hd : defaultValue ty = .int 0) : own_IA Z h a ty n (fun _ => 0) := by
  refine ⟨_, A, by rw [sz_new, hz], fun i hi => ?_⟩
  show (Array.replicate z.toNatClampNeg (defaultValue ty))[i]? = _
  rw [hz, hd, Array.getElem?_replicate, if_pos hi]
theorem own_Lnew {k : ClassId} {z : Int32} (A : Arr Z h a (newA k .long z) .long) (hz : z.toNatClampNeg = n) : own_LA Z h a n (fun _ => 0) := by
  refine ⟨_, A, by rw [sz_new, hz], fun i hi => ?_⟩
  show (Array.replicate z.toNatClampNeg (defaultValue .long))[i]? = _
  rw [hz, Array.getElem?_replicate, if_pos hi]; rfl
theorem own_iaload (X : Stand p l e R s m args below meth c T locs cells slots) (hx : p.tables.exec = Jvm.exec) (hZ : Z.Warmed39 s.vm) (eT : T.heap = h) (V : own_IA Z h a .int n f) {j : Int32} {k : Nat} (h1 : ¬ j < 0) (hk : j.toNatClampNeg = k) (h2 : k < n) {pc : Nat} {Ls : Array Slot} {rest : List Value} (hd : decode c.code pc = .ok (.iaload, 1)) (t : State)
    (kk : Steps p.tables e below (T.setTop (mkF m (pc + 1) Ls (.int (f k) :: rest))) t) : Steps p.tables e below (T.setTop (mkF m pc Ls (.int j :: .ref a :: rest))) t := by
  obtain ⟨cl, A, S, H⟩ := V
  exact X.iaload hx (j := j) (v := .int (f k)) (by rw [eT]; exact A.1) (State.isArrayOf_alike hZ.alike A.2.1) A.2.2 (own_in S h1 hk h2) (by rw [hk]; exact H _ h2) (g := mkF m pc Ls (.int j :: .ref a :: rest)) rfl rfl hd t kk
theorem own_baload (X : Stand p l e R s m args below meth c T locs cells slots) (hx : p.tables.exec = Jvm.exec) (hZ : Z.Warmed39 s.vm) (eT : T.heap = h) (V : own_IA Z h a .byte n f) {j : Int32} {k : Nat} (h1 : ¬ j < 0) (hk : j.toNatClampNeg = k) (h2 : k < n) {pc : Nat} {Ls : Array Slot} {rest : List Value} (hd : decode c.code pc = .ok (.baload, 1)) (t : State)
    (kk : Steps p.tables e below (T.setTop (mkF m (pc + 1) Ls (.int (f k) :: rest))) t) : Steps p.tables e below (T.setTop (mkF m pc Ls (.int j :: .ref a :: rest))) t := by
  obtain ⟨cl, A, S, H⟩ := V
  exact X.baloadBytes hx (j := j) (v := .int (f k)) (by rw [eT]; exact A.1) (State.isArrayOf_alike hZ.alike A.2.1) A.2.2 (own_in S h1 hk h2) (by rw [hk]; exact H _ h2) (g := mkF m pc Ls (.int j :: .ref a :: rest)) rfl rfl hd t kk
theorem own_laload (X : Stand p l e R s m args below meth c T locs cells slots) (hx : p.tables.exec = Jvm.exec) (hZ : Z.Warmed39 s.vm) (eT : T.heap = h) (V : own_LA Z h a n fl) {j : Int32} {k : Nat} (h1 : ¬ j < 0) (hk : j.toNatClampNeg = k) (h2 : k < n) {pc : Nat} {Ls : Array Slot} {rest : List Value} (hd : decode c.code pc = .ok (.laload, 1)) (t : State)
    (kk : Steps p.tables e below (T.setTop (mkF m (pc + 1) Ls (.long (fl k) :: rest))) t) : Steps p.tables e below (T.setTop (mkF m pc Ls (.int j :: .ref a :: rest))) t := by
  obtain ⟨cl, A, S, H⟩ := V
  exact X.laload hx (j := j) (v := .long (fl k)) (by rw [eT]; exact A.1) (State.isArrayOf_alike hZ.alike A.2.1) A.2.2 (own_in S h1 hk h2) (by rw [hk]; exact H _ h2) (g := mkF m pc Ls (.int j :: .ref a :: rest)) rfl rfl hd t kk
theorem own_alen (X : Stand p l e R s m args below meth c T locs cells slots) (hx : p.tables.exec = Jvm.exec) (hZ : Z.Warmed39 s.vm) (eT : T.heap = h) (V : own_IA Z h a ty n f) {z : Int32} (hl : n.toInt32 = z) {pc : Nat} {Ls : Array Slot} {rest : List Value} (hd : decode c.code pc = .ok (.arraylength, 1)) (t : State)
    (kk : Steps p.tables e below (T.setTop (mkF m (pc + 1) Ls (.int z :: rest))) t) : Steps p.tables e below (T.setTop (mkF m pc Ls (.ref a :: rest))) t := by
  obtain ⟨cl, A, S, H⟩ := V
  exact X.arraylength hx (by rw [eT]; exact A.1) (State.isArrayOf_alike hZ.alike A.2.1) (g := mkF m pc Ls (.ref a :: rest)) rfl rfl hd t (by rw [S, hl]; exact kk)
theorem own_alenL (X : Stand p l e R s m args below meth c T locs cells slots) (hx : p.tables.exec = Jvm.exec) (hZ : Z.Warmed39 s.vm) (eT : T.heap = h) (V : own_LA Z h a n fl) {z : Int32} (hl : n.toInt32 = z) {pc : Nat} {Ls : Array Slot} {rest : List Value} (hd : decode c.code pc = .ok (.arraylength, 1)) (t : State)
    (kk : Steps p.tables e below (T.setTop (mkF m (pc + 1) Ls (.int z :: rest))) t) : Steps p.tables e below (T.setTop (mkF m pc Ls (.ref a :: rest))) t := by
  obtain ⟨cl, A, S, H⟩ := V
  exact X.arraylength hx (by rw [eT]; exact A.1) (State.isArrayOf_alike hZ.alike A.2.1) (g := mkF m pc Ls (.ref a :: rest)) rfl rfl hd t (by rw [S, hl]; exact kk)
theorem own_iastore (X : Stand p l e R s m args below meth c T locs cells slots) (hx : p.tables.exec = Jvm.exec) (hZ : Z.Warmed39 s.vm) (eT : T.heap = h) (V : own_IA Z h a .int n f) {j x : Int32} {k : Nat} (h1 : ¬ j < 0) (hk : j.toNatClampNeg = k) (h2 : k < n) {g : JFrame} (hg : g.method = m) {rest : List Value} (hs : g.stack = .int x :: .int j :: .ref a :: rest) (hd : decode c.code g.pc = .ok (.iastore, 1)) :
    ∃ T' h', Stand p l e R s m args below meth c T' (locs ++ [⟨a, k⟩]) cells slots ∧ T'.heap = h' ∧ Wr h h' a k (.int x) ∧ own_IA Z h' a .int n (own_upd f k x) ∧ ∀ target, Steps p.tables e below (T'.setTop { g with pc := g.pc + 1, stack := rest }) target → Steps p.tables e below (T.setTop g) target := by
  obtain ⟨cl, A, S, H⟩ := V
  obtain ⟨T', h', X', e', W, st⟩ := stI X hx hZ eT A (own_in S h1 hk h2) hg hs hd
  rw [hk] at X' W
  refine ⟨T', h', X', e', W, ⟨_, A.same W, by rw [sz_set, S], fun i hi => ?_⟩, st⟩
  rw [own_set S h2]; unfold own_upd
  by_cases q : i = k
  · rw [if_pos q, if_pos q]
  · rw [if_neg q, if_neg q]; exact H i hi
theorem own_bastore (X : Stand p l e R s m args below meth c T locs cells slots) (hx : p.tables.exec = Jvm.exec) (hZ : Z.Warmed39 s.vm) (eT : T.heap = h) (V : own_IA Z h a .byte n f) {j x : Int32} {k : Nat} (h1 : ¬ j < 0) (hk : j.toNatClampNeg = k) (h2 : k < n) {g : JFrame} (hg : g.method = m) {rest : List Value} (hs : g.stack = .int x :: .int j :: .ref a :: rest) (hd : decode c.code g.pc = .ok (.bastore, 1)) :
    ∃ T' h', Stand p l e R s m args below meth c T' (locs ++ [⟨a, k⟩]) cells slots ∧ T'.heap = h' ∧ Wr h h' a k (.int x.toInt8.toInt32) ∧ own_IA Z h' a .byte n (own_upd f k x.toInt8.toInt32) ∧ ∀ target, Steps p.tables e below (T'.setTop { g with pc := g.pc + 1, stack := rest }) target → Steps p.tables e below (T.setTop g) target := by
  obtain ⟨cl, A, S, H⟩ := V
  obtain ⟨T', h', X', e', W, st⟩ := stB X hx hZ eT A (own_in S h1 hk h2) hg hs hd
  rw [hk] at X' W
  refine ⟨T', h', X', e', W, ⟨_, A.same W, by rw [sz_set, S], fun i hi => ?_⟩, st⟩
  rw [own_set S h2]; unfold own_upd
  by_cases q : i = k
  · rw [if_pos q, if_pos q]; rfl
  · rw [if_neg q, if_neg q]; exact H i hi
theorem own_lastore (X : Stand p l e R s m args below meth c T locs cells slots) (hx : p.tables.exec = Jvm.exec) (hZ : Z.Warmed39 s.vm) (eT : T.heap = h) (V : own_LA Z h a n fl) {j : Int32} {x : Int64} {k : Nat} (h1 : ¬ j < 0) (hk : j.toNatClampNeg = k) (h2 : k < n) {g : JFrame} (hg : g.method = m) {rest : List Value} (hs : g.stack = .long x :: .int j :: .ref a :: rest) (hd : decode c.code g.pc = .ok (.lastore, 1)) :
    ∃ T' h', Stand p l e R s m args below meth c T' (locs ++ [⟨a, k⟩]) cells slots ∧ T'.heap = h' ∧ Wr h h' a k (.long x) ∧ own_LA Z h' a n (own_upd fl k x) ∧ ∀ target, Steps p.tables e below (T'.setTop { g with pc := g.pc + 1, stack := rest }) target → Steps p.tables e below (T.setTop g) target := by
  obtain ⟨cl, A, S, H⟩ := V
  obtain ⟨T', h', X', e', W, st⟩ := stJ X hx hZ eT A (own_in S h1 hk h2) hg hs hd
  rw [hk] at X' W
  refine ⟨T', h', X', e', W, ⟨_, A.same W, by rw [sz_set, S], fun i hi => ?_⟩, st⟩
  rw [own_set S h2]; unfold own_upd
  by_cases q : i = k
  · rw [if_pos q, if_pos q]
  · rw [if_neg q, if_neg q]; exact H i hi
theorem own_clone (X : Stand p l e R s m args below meth c T locs cells slots) (hx : p.tables.exec = Jvm.exec) (hZ : Z.Warmed39 s.vm) {a0 : Array Value} {own ad : String} {index : Nat} (hown : s.vm.findClass own = some m.cls)
    (w1 : (Cond.methodLink own index ⟨ad, "clone", "()Ljava/lang/Object;"⟩).before a0 Z = true) (w2 : (Cond.sameMethod ad "java/lang/Object" "clone" "()Ljava/lang/Object;").before a0 Z = true) (w3 : (Cond.native ⟨"java/lang/Object", "clone", "()Ljava/lang/Object;"⟩).before a0 Z = true)
    (w4 : (Cond.instanceMethod ⟨"java/lang/Object", "clone", "()Ljava/lang/Object;"⟩).before a0 Z = true) (w5 : (Cond.selects ad ⟨ad, "clone", "()Ljava/lang/Object;"⟩ ⟨"java/lang/Object", "clone", "()Ljava/lang/Object;"⟩).before a0 Z = true) (w6 : (Cond.castable ad "java/lang/Cloneable").before a0 Z = true)
    (eT : T.heap = h) (V : own_IA Z h a .int n f) (E : Exa Z h a ad) {g : JFrame} (hg : g.method = m) (hsize : g.locals.size = c.maxLocals) {rest : List Value} (hst : g.stack = .ref a :: rest) (hd : decode c.code g.pc = .ok (.invokevirtual index, 3))
    (hf : 1 ≤ R.frames) {W cap : Nat} (hW : 2 * g.monitorRoom + (rest.map fun v => v.category).sum ≤ W) (hl : W + 14 ≤ R.locals) (hcap : n ≤ cap) (hc : cells + 1 ≤ R.cells) (hsl : slots + cap ≤ R.slots) :
    ∃ T' h', Stand p l e R s m args below meth c T' locs (cells + 1) (slots + cap) ∧ T'.heap = h' ∧ Ext h h' ∧ own_IA Z h' h.size .int n f ∧ Exa Z h' h.size ad ∧
      ∀ target, Steps p.tables e below (T'.setTop { g with pc := g.pc + 3, stack := .ref h.size :: rest }) target → Steps p.tables e below (T.setTop g) target := by
  obtain ⟨cl, A, S, H⟩ := V
  have FC : FitC Z cl := fitC_of A fun i hi v hv => by rw [H i (by rw [← S]; exact hi)] at hv; cases hv; rfl
  obtain ⟨T', h', X', e', ex, A', E', st⟩ := cloneA X hx hZ hown w1 w2 w3 w4 w5 w6 eT A E FC hg hsize hst hd hf hW hl (by rw [S]; exact hcap) hc hsl
  exact ⟨T', h', X', e', ex, ⟨cloneOf cl, A', S, H⟩, E', st⟩
end Arrays
end Own
def own_bt (x : Int32) : Int64 := ((1 : Int64) <<< (x &&& 0x3f).toInt64)
def own_ix (x : Int32) : Nat := (x / (64 : Int32)).toNatClampNeg
def own_lw (x : Int32) : Int32 := (x + (63 : Int32)) / (64 : Int32)
def own_kx (x : Int32) : Nat := x.toBitVec.toNat % 64
def own_has (f : Nat → Int64) (x : Int32) : Prop := ¬ ((f (own_ix x) &&& own_bt x) = (0 : Int64))
theorem own_bt_bv (x : Int32) : (own_bt x).toBitVec = 1#64 <<< own_kx x := by
  obtain ⟨h1, h2⟩ := sm64 x (own_kx x) rfl
  unfold own_bt
  rw [Int64.toBitVec_shiftLeft, h1, BitVec.shiftLeft_eq', smod64 _ h2]
  rfl
theorem own_bt_bit (x : Int32) (i : Nat) (hi : i < 64) : (own_bt x).toBitVec.getLsbD i = decide (i = own_kx x) := by
  rw [own_bt_bv]
  have hk : own_kx x < 64 := Nat.mod_lt _ (by decide)
  simp only [BitVec.getLsbD_shiftLeft, BitVec.getLsbD_one]
  by_cases h : i = own_kx x
  · subst h; simp [hi]
  · simp only [h, decide_false]
    by_cases h2 : i < own_kx x
    · simp [h2]
    · have : ¬ (i - own_kx x = 0) := by omega
      have : ¬ (0 = i - own_kx x) := by omega
      simp [*]
theorem own_and0 (w : Int64) (x : Int32) : (w &&& own_bt x) = (0 : Int64) ↔ w.toBitVec.getLsbD (own_kx x) = false := by
  have hk : own_kx x < 64 := Nat.mod_lt _ (by decide)
  rw [← Int64.toBitVec_inj, Int64.toBitVec_and]
  constructor
  · intro h
    have h2 := congrArg (fun z => z.getLsbD (own_kx x)) h
    simp only [BitVec.getLsbD_and, own_bt_bit x _ hk] at h2
    simpa using h2
  · intro h
    apply BitVec.eq_of_getLsbD_eq
    intro i hi
    rw [BitVec.getLsbD_and, own_bt_bit x i hi]
    by_cases g : i = own_kx x
    · rw [g, h]; simp
    · simp [g]
theorem own_has_iff (f : Nat → Int64) (x : Int32) : own_has f x ↔ (f (own_ix x)).toBitVec.getLsbD (own_kx x) = true := by
  unfold own_has; rw [own_and0]; simp
theorem own_ix_int (x : Int32) (h : 0 ≤ x.toInt) : (own_ix x : Int) = x.toInt / 64 := by
  have h1 := (c_idiv x 64 64 rfl (by decide)).1 h
  unfold own_ix Int32.toNatClampNeg
  rw [h1]; omega
theorem own_kx_int (x : Int32) (h : 0 ≤ x.toInt) : (own_kx x : Int) = x.toInt % 64 := by
  unfold own_kx
  have h1 : x.toInt = x.toBitVec.toNat := by
    have h2 : x.toInt = x.toBitVec.toInt := rfl
    rw [BitVec.toInt_eq_toNat_cond] at h2
    have := x.toBitVec.isLt
    split at h2 <;> omega
  omega
theorem own_same (x a : Int32) (h : 0 ≤ x.toInt) (h2 : 0 ≤ a.toInt) (e1 : own_ix x = own_ix a) (e2 : own_kx x = own_kx a) : x = a := by
  have a1 := own_ix_int x h; have a2 := own_ix_int a h2; have a3 := own_kx_int x h; have a4 := own_kx_int a h2
  apply Int32.toInt_inj.mp; omega
theorem own_add (f : Nat → Int64) (a x : Int32) (h2 : 0 ≤ a.toInt) (h : 0 ≤ x.toInt) : own_has (own_upd f (own_ix a) (f (own_ix a) ||| own_bt a)) x ↔ (x = a ∨ own_has f x) := by
  have hk : own_kx x < 64 := Nat.mod_lt _ (by decide)
  rw [own_has_iff, own_has_iff]
  by_cases g : own_ix x = own_ix a
  · rw [g, own_upd_hit, Int64.toBitVec_or, BitVec.getLsbD_or, own_bt_bit a _ hk]
    by_cases q : own_kx x = own_kx a
    · have e := own_same x a h h2 g q; simp [q, e]
    · have e : ¬ x = a := fun z => q (by rw [z])
      simp [q, e]
  · rw [own_upd_miss _ _ g]
    have e : ¬ x = a := fun z => g (by rw [z])
    simp [e]
theorem own_del (f : Nat → Int64) (a x : Int32) (h2 : 0 ≤ a.toInt) (h : 0 ≤ x.toInt) : own_has (own_upd f (own_ix a) (f (own_ix a) &&& (own_bt a ^^^ (-1 : Int64)))) x ↔ (own_has f x ∧ ¬ x = a) := by
  have hk : own_kx x < 64 := Nat.mod_lt _ (by decide)
  have hm : (-1 : Int64).toBitVec = BitVec.allOnes 64 := by decide
  rw [own_has_iff, own_has_iff]
  by_cases g : own_ix x = own_ix a
  · rw [g, own_upd_hit, Int64.toBitVec_and, Int64.toBitVec_xor, hm, BitVec.getLsbD_and, BitVec.getLsbD_xor, own_bt_bit a _ hk, BitVec.getLsbD_allOnes]
    by_cases q : own_kx x = own_kx a
    · have e := own_same x a h h2 g q
      have hk' : own_kx a < 64 := Nat.mod_lt _ (by decide)
      simp [q, e, hk, hk']
    · have e : ¬ x = a := fun z => q (by rw [z])
      simp [q, e, hk]
  · rw [own_upd_miss _ _ g]
    have e : ¬ x = a := fun z => g (by rw [z])
    simp [e]
theorem own_none (x : Int32) : ¬ own_has (fun _ => 0) x := by
  rw [own_has_iff]; simp
theorem own_lw_int (n : Int32) (h : 0 ≤ n.toInt ∧ n.toInt ≤ 8192) : (own_lw n).toInt = (n.toInt + 63) / 64 := by
  have h1 := c_iadd n 63
  have e : (63 : Int32).toInt = 63 := rfl
  rw [e] at h1
  have r := rng32 (n + 63)
  have h2 := (c_idiv (n + 63) 64 64 rfl (by decide)).1 (by omega)
  unfold own_lw; rw [h2]; omega
theorem own_lw_nn (n : Int32) (h : 0 ≤ n.toInt ∧ n.toInt ≤ 8192) : ¬ (own_lw n < (0 : Int32)) := by
  have := own_lw_int n h
  rw [Int32.lt_iff_toInt_lt]; have : (0 : Int32).toInt = 0 := rfl; omega
theorem own_lw_le (n : Int32) (h : 0 ≤ n.toInt ∧ n.toInt ≤ 8192) (k : Nat) (hk : (n.toInt + 63) / 64 ≤ k) : (own_lw n).toNatClampNeg ≤ k := by
  have := own_lw_int n h
  unfold Int32.toNatClampNeg; omega
theorem own_nn (x : Int32) : (¬ (x < (0 : Int32))) ↔ 0 ≤ x.toInt := by
  rw [Int32.lt_iff_toInt_lt]; have : (0 : Int32).toInt = 0 := rfl; omega
theorem own_d64 (x : Int32) (h : 0 ≤ x.toInt) : (x / (64 : Int32)).toInt = x.toInt / 64 := (c_idiv x 64 64 rfl (by decide)).1 h
theorem own_in1 (x n : Int32) (h : 0 ≤ x.toInt ∧ x.toInt < n.toInt) (hn : n.toInt ≤ 8192) : ¬ (x < (0 : Int32)) ∧ own_ix x < (own_lw n).toNatClampNeg ∧ own_ix (x / (64 : Int32)) < (own_lw (own_lw n)).toNatClampNeg := by
  have a1 := own_ix_int x h.1
  have a2 := own_lw_int n (by omega)
  have a3 := own_lw_int (own_lw n) (by omega)
  have a4 := own_d64 x h.1
  have a5 := own_ix_int (x / 64) (by omega)
  rw [own_nn]
  unfold Int32.toNatClampNeg
  omega
def own_f10 (x1 : Int32) (y1 : Int32) : Int32 := (if y1 < x1 then y1 else x1)
theorem d10_0 : decode jdk_29_method_69_code 0 = .ok (.iload_n 0, 1) := by decide +kernel
theorem d10_1 : decode jdk_29_method_69_code 1 = .ok (.iload_n 1, 1) := by decide +kernel
theorem d10_2 : decode jdk_29_method_69_code 2 = .ok (.if_icmp .gt 7, 3) := by decide +kernel
theorem d10_5 : decode jdk_29_method_69_code 5 = .ok (.iload_n 0, 1) := by decide +kernel
theorem d10_6 : decode jdk_29_method_69_code 6 = .ok (.goto 4, 3) := by decide +kernel
theorem d10_9 : decode jdk_29_method_69_code 9 = .ok (.iload_n 1, 1) := by decide +kernel
theorem d10_10 : decode jdk_29_method_69_code 10 = .ok (.ireturn, 1) := by decide +kernel
theorem ef_10 (m : MethodId) (x0 : Int32) (x1 : Int32) : entryFrame m #[(.int x0), (.int x1)] 2 = mkF m 0 #[.val (.int x0), .val (.int x1)] [] := by first | (simp [entryFrame, mkF, argsToLocals, Value.category]; done) | rfl
def own_Q10 (Z : State) (x1 : Int32) (y1 : Int32) (h0 : Heap) (n0 : Nat) (v : Option Value) (h : Heap) (L : List Loc) : Prop := v = some (.int (own_f10 x1 y1)) ∧ Fr n0 L ∧ h = h0
set_option maxRecDepth 65536 in
set_option maxHeartbeats 40000000 in
theorem rm10 (l : Launch) (Z : State) (a0 : Array Value) (hw : ∀ d ∈ tables_1, d.before a0 Z = true) (ws : List Jvm.Cond) (x1 : Int32) (y1 : Int32) (h0 : Heap) (n0 : Nat) (Z0 : n0 ≤ h0.size)  :
    MetFree l (⟨"java/lang/Math", "min", "(II)I"⟩ : MethodName) (head1 (Jvm.Cond.code (⟨"java/lang/Math", "min", "(II)I"⟩ : MethodName) jdk_29_method_69_code 2 (some .int) :: ws) ({ frames := 0, cells := 0, slots := 0, locals := 0 } : Room)) (fun a U => a = #[(.int x1), (.int y1)] ∧ Z.Warmed39 U.vm ∧ U.heap = h0) (fun _ _ _ _ _ => True) (fun _ U o U' => ∃ v L, o = .returned v ∧ own_Q10 Z x1 y1 h0 n0 v U'.heap L ∧ FrameEnd U o U' L ({ frames := 0, cells := 0, slots := 0, locals := 0 } : Room).cells ({ frames := 0, cells := 0, slots := 0, locals := 0 } : Room).slots) := by
  refine MetFree.of_bodySF (Jvm.Free.JP.mathPlain rfl (by decide +kernel)) hisR ?_
  intro p e s m args below meth c s₁ Bd hml0 hP hK
  obtain ⟨rfl, hZ, hh⟩ := hP
  have hx := Bd.exec
  have hby := Bd.bytes
  have hml : c.maxLocals = 2 := hml0
  have hown : s.vm.findClass "java/lang/Math" = some m.cls := findClass_of_methodNamed Bd.named
  have hnm := (name_of_methodNamed Bd.named Bd.method).1
  have X0 : Stand p l e ({ frames := 0, cells := 0, slots := 0, locals := 0 } : Room) s m #[(.int x1), (.int y1)] below meth c s₁ [] 0 0 := Stand.of_body Bd
  have e0 : s₁.heap = h0 := by rw [← hh, Bd.state]; rfl
  have N0 := Fr.nil n0
  have Zs := Z0
  show own_Goes p e below s (own_Q10 Z x1 y1 h0 n0) ({ frames := 0, cells := 0, slots := 0, locals := 0 } : Room).cells ({ frames := 0, cells := 0, slots := 0, locals := 0 } : Room).slots _
  refine own_go (B := s₁.setTop (mkF m 0 #[.val (.int x1), .val (.int y1)] [])) (fun t k => castTop (ef_10 m x1 y1) k) ?_
  refine own_go (B := s₁.setTop (mkF m 1 #[.val (.int x1), .val (.int y1)] [(.int x1)])) (fun t k => XS.iloadN X0.here hx rfl (Jvm.hb hby d10_0) rfl k) ?_
  refine own_go (B := s₁.setTop (mkF m 2 #[.val (.int x1), .val (.int y1)] [(.int y1), (.int x1)])) (fun t k => XS.iloadN X0.here hx rfl (Jvm.hb hby d10_1) rfl k) ?_
  by_cases hc2_1 : y1 < x1
  · refine own_go (B := s₁.setTop (mkF m 9 #[.val (.int x1), .val (.int y1)] [])) (fun t k => XS.icmpYes X0.here hx rfl (pc0 := 2) (pc' := 9) rfl (Jvm.hb hby d10_2) rfl (tlt hc2_1).2.2.1 (by decide) (by decide) k) ?_
    refine own_go (B := s₁.setTop (mkF m 10 #[.val (.int x1), .val (.int y1)] [(.int y1)])) (fun t k => XS.iloadN X0.here hx rfl (Jvm.hb hby d10_9) rfl k) ?_
    refine own_out X0 (v := (some (.int y1))) (fun h => by rw [Bd.returns] at h; cases h) Bd.notSynchronized (fun fs hr => retOut X0 hx (t := .int) Bd.returns rfl (Or.inl ⟨rfl, Or.inl rfl, _, rfl⟩) (Jvm.hb hby d10_10) hr) ?_ (by decide) (by decide)
    show own_Q10 Z x1 y1 h0 n0 (some (.int y1)) s₁.heap _
    rw [e0]
    exact ⟨congrArg (fun z => some (Value.int z)) (by unfold own_f10; simp only [if_pos hc2_1]), N0, rfl⟩
  · refine own_go (B := s₁.setTop (mkF m 5 #[.val (.int x1), .val (.int y1)] [])) (fun t k => XS.icmpNo X0.here hx rfl (Jvm.hb hby d10_2) rfl (flt hc2_1).2.2.1 k) ?_
    refine own_go (B := s₁.setTop (mkF m 6 #[.val (.int x1), .val (.int y1)] [(.int x1)])) (fun t k => XS.iloadN X0.here hx rfl (Jvm.hb hby d10_5) rfl k) ?_
    refine own_go (B := s₁.setTop (mkF m 10 #[.val (.int x1), .val (.int y1)] [(.int x1)])) (fun t k => XS.goto X0.here hx rfl (pc0 := 6) (pc' := 10) rfl (Jvm.hb hby d10_6) (by decide) (by decide) k) ?_
    refine own_out X0 (v := (some (.int x1))) (fun h => by rw [Bd.returns] at h; cases h) Bd.notSynchronized (fun fs hr => retOut X0 hx (t := .int) Bd.returns rfl (Or.inl ⟨rfl, Or.inl rfl, _, rfl⟩) (Jvm.hb hby d10_10) hr) ?_ (by decide) (by decide)
    show own_Q10 Z x1 y1 h0 n0 (some (.int x1)) s₁.heap _
    rw [e0]
    exact ⟨congrArg (fun z => some (Value.int z)) (by unfold own_f10; simp only [if_neg hc2_1]), N0, rfl⟩
def own_f11 (x1 : Int32) (y1 : Int32) : Int32 := (if x1 < y1 then y1 else x1)
theorem d11_0 : decode jdk_29_method_65_code 0 = .ok (.iload_n 0, 1) := by decide +kernel
theorem d11_1 : decode jdk_29_method_65_code 1 = .ok (.iload_n 1, 1) := by decide +kernel
theorem d11_2 : decode jdk_29_method_65_code 2 = .ok (.if_icmp .lt 7, 3) := by decide +kernel
theorem d11_5 : decode jdk_29_method_65_code 5 = .ok (.iload_n 0, 1) := by decide +kernel
theorem d11_6 : decode jdk_29_method_65_code 6 = .ok (.goto 4, 3) := by decide +kernel
theorem d11_9 : decode jdk_29_method_65_code 9 = .ok (.iload_n 1, 1) := by decide +kernel
theorem d11_10 : decode jdk_29_method_65_code 10 = .ok (.ireturn, 1) := by decide +kernel
theorem ef_11 (m : MethodId) (x0 : Int32) (x1 : Int32) : entryFrame m #[(.int x0), (.int x1)] 2 = mkF m 0 #[.val (.int x0), .val (.int x1)] [] := by first | (simp [entryFrame, mkF, argsToLocals, Value.category]; done) | rfl
def own_Q11 (Z : State) (x1 : Int32) (y1 : Int32) (h0 : Heap) (n0 : Nat) (v : Option Value) (h : Heap) (L : List Loc) : Prop := v = some (.int (own_f11 x1 y1)) ∧ Fr n0 L ∧ h = h0
set_option maxRecDepth 65536 in
set_option maxHeartbeats 40000000 in
theorem rm11 (l : Launch) (Z : State) (a0 : Array Value) (hw : ∀ d ∈ tables_1, d.before a0 Z = true) (ws : List Jvm.Cond) (x1 : Int32) (y1 : Int32) (h0 : Heap) (n0 : Nat) (Z0 : n0 ≤ h0.size)  :
    MetFree l (⟨"java/lang/Math", "max", "(II)I"⟩ : MethodName) (head1 (Jvm.Cond.code (⟨"java/lang/Math", "max", "(II)I"⟩ : MethodName) jdk_29_method_65_code 2 (some .int) :: ws) ({ frames := 0, cells := 0, slots := 0, locals := 0 } : Room)) (fun a U => a = #[(.int x1), (.int y1)] ∧ Z.Warmed39 U.vm ∧ U.heap = h0) (fun _ _ _ _ _ => True) (fun _ U o U' => ∃ v L, o = .returned v ∧ own_Q11 Z x1 y1 h0 n0 v U'.heap L ∧ FrameEnd U o U' L ({ frames := 0, cells := 0, slots := 0, locals := 0 } : Room).cells ({ frames := 0, cells := 0, slots := 0, locals := 0 } : Room).slots) := by
  refine MetFree.of_bodySF (Jvm.Free.JP.mathPlain rfl (by decide +kernel)) hisR ?_
  intro p e s m args below meth c s₁ Bd hml0 hP hK
  obtain ⟨rfl, hZ, hh⟩ := hP
  have hx := Bd.exec
  have hby := Bd.bytes
  have hml : c.maxLocals = 2 := hml0
  have hown : s.vm.findClass "java/lang/Math" = some m.cls := findClass_of_methodNamed Bd.named
  have hnm := (name_of_methodNamed Bd.named Bd.method).1
  have X0 : Stand p l e ({ frames := 0, cells := 0, slots := 0, locals := 0 } : Room) s m #[(.int x1), (.int y1)] below meth c s₁ [] 0 0 := Stand.of_body Bd
  have e0 : s₁.heap = h0 := by rw [← hh, Bd.state]; rfl
  have N0 := Fr.nil n0
  have Zs := Z0
  show own_Goes p e below s (own_Q11 Z x1 y1 h0 n0) ({ frames := 0, cells := 0, slots := 0, locals := 0 } : Room).cells ({ frames := 0, cells := 0, slots := 0, locals := 0 } : Room).slots _
  refine own_go (B := s₁.setTop (mkF m 0 #[.val (.int x1), .val (.int y1)] [])) (fun t k => castTop (ef_11 m x1 y1) k) ?_
  refine own_go (B := s₁.setTop (mkF m 1 #[.val (.int x1), .val (.int y1)] [(.int x1)])) (fun t k => XS.iloadN X0.here hx rfl (Jvm.hb hby d11_0) rfl k) ?_
  refine own_go (B := s₁.setTop (mkF m 2 #[.val (.int x1), .val (.int y1)] [(.int y1), (.int x1)])) (fun t k => XS.iloadN X0.here hx rfl (Jvm.hb hby d11_1) rfl k) ?_
  by_cases hc2_2 : x1 < y1
  · refine own_go (B := s₁.setTop (mkF m 9 #[.val (.int x1), .val (.int y1)] [])) (fun t k => XS.icmpYes X0.here hx rfl (pc0 := 2) (pc' := 9) rfl (Jvm.hb hby d11_2) rfl (tlt hc2_2).1 (by decide) (by decide) k) ?_
    refine own_go (B := s₁.setTop (mkF m 10 #[.val (.int x1), .val (.int y1)] [(.int y1)])) (fun t k => XS.iloadN X0.here hx rfl (Jvm.hb hby d11_9) rfl k) ?_
    refine own_out X0 (v := (some (.int y1))) (fun h => by rw [Bd.returns] at h; cases h) Bd.notSynchronized (fun fs hr => retOut X0 hx (t := .int) Bd.returns rfl (Or.inl ⟨rfl, Or.inl rfl, _, rfl⟩) (Jvm.hb hby d11_10) hr) ?_ (by decide) (by decide)
    show own_Q11 Z x1 y1 h0 n0 (some (.int y1)) s₁.heap _
    rw [e0]
    exact ⟨congrArg (fun z => some (Value.int z)) (by unfold own_f11; simp only [if_pos hc2_2]), N0, rfl⟩
  · refine own_go (B := s₁.setTop (mkF m 5 #[.val (.int x1), .val (.int y1)] [])) (fun t k => XS.icmpNo X0.here hx rfl (Jvm.hb hby d11_2) rfl (flt hc2_2).1 k) ?_
    refine own_go (B := s₁.setTop (mkF m 6 #[.val (.int x1), .val (.int y1)] [(.int x1)])) (fun t k => XS.iloadN X0.here hx rfl (Jvm.hb hby d11_5) rfl k) ?_
    refine own_go (B := s₁.setTop (mkF m 10 #[.val (.int x1), .val (.int y1)] [(.int x1)])) (fun t k => XS.goto X0.here hx rfl (pc0 := 6) (pc' := 10) rfl (Jvm.hb hby d11_6) (by decide) (by decide) k) ?_
    refine own_out X0 (v := (some (.int x1))) (fun h => by rw [Bd.returns] at h; cases h) Bd.notSynchronized (fun fs hr => retOut X0 hx (t := .int) Bd.returns rfl (Or.inl ⟨rfl, Or.inl rfl, _, rfl⟩) (Jvm.hb hby d11_10) hr) ?_ (by decide) (by decide)
    show own_Q11 Z x1 y1 h0 n0 (some (.int x1)) s₁.heap _
    rw [e0]
    exact ⟨congrArg (fun z => some (Value.int z)) (by unfold own_f11; simp only [if_neg hc2_2]), N0, rfl⟩
def own_f8 (i1 : Int32) : Int32 := (if (0 : Int32) < ((i1 ^^^ (-1 : Int32)) &&& (i1 - (1 : Int32))) then (if (65536 : Int32) < ((i1 ^^^ (-1 : Int32)) &&& (i1 - (1 : Int32))) then (if (256 : Int32) < ((((i1 ^^^ (-1 : Int32)) &&& (i1 - (1 : Int32))).toUInt32 >>> ((16 : Int32) &&& 31).toUInt32).toInt32) then (if (16 : Int32) < ((((((i1 ^^^ (-1 : Int32)) &&& (i1 - (1 : Int32))).toUInt32 >>> ((16 : Int32) &&& 31).toUInt32).toInt32).toUInt32 >>> ((8 : Int32) &&& 31).toUInt32).toInt32) then (if (4 : Int32) < ((((((((i1 ^^^ (-1 : Int32)) &&& (i1 - (1 : Int32))).toUInt32 >>> ((16 : Int32) &&& 31).toUInt32).toInt32).toUInt32 >>> ((8 : Int32) &&& 31).toUInt32).toInt32).toUInt32 >>> ((4 : Int32) &&& 31).toUInt32).toInt32) then ((31 : Int32) + ((((((((((((i1 ^^^ (-1 : Int32)) &&& (i1 - (1 : Int32))).toUInt32 >>> ((16 : Int32) &&& 31).toUInt32).toInt32).toUInt32 >>> ((8 : Int32) &&& 31).toUInt32).toInt32).toUInt32 >>> ((4 : Int32) &&& 31).toUInt32).toInt32).toUInt32 >>> ((2 : Int32) &&& 31).toUInt32).toInt32).toUInt32 >>> ((1 : Int32) &&& 31).toUInt32).toInt32)) else ((29 : Int32) + ((((((((((i1 ^^^ (-1 : Int32)) &&& (i1 - (1 : Int32))).toUInt32 >>> ((16 : Int32) &&& 31).toUInt32).toInt32).toUInt32 >>> ((8 : Int32) &&& 31).toUInt32).toInt32).toUInt32 >>> ((4 : Int32) &&& 31).toUInt32).toInt32).toUInt32 >>> ((1 : Int32) &&& 31).toUInt32).toInt32))) else (if (4 : Int32) < ((((((i1 ^^^ (-1 : Int32)) &&& (i1 - (1 : Int32))).toUInt32 >>> ((16 : Int32) &&& 31).toUInt32).toInt32).toUInt32 >>> ((8 : Int32) &&& 31).toUInt32).toInt32) then ((27 : Int32) + ((((((((((i1 ^^^ (-1 : Int32)) &&& (i1 - (1 : Int32))).toUInt32 >>> ((16 : Int32) &&& 31).toUInt32).toInt32).toUInt32 >>> ((8 : Int32) &&& 31).toUInt32).toInt32).toUInt32 >>> ((2 : Int32) &&& 31).toUInt32).toInt32).toUInt32 >>> ((1 : Int32) &&& 31).toUInt32).toInt32)) else ((25 : Int32) + ((((((((i1 ^^^ (-1 : Int32)) &&& (i1 - (1 : Int32))).toUInt32 >>> ((16 : Int32) &&& 31).toUInt32).toInt32).toUInt32 >>> ((8 : Int32) &&& 31).toUInt32).toInt32).toUInt32 >>> ((1 : Int32) &&& 31).toUInt32).toInt32)))) else (if (16 : Int32) < ((((i1 ^^^ (-1 : Int32)) &&& (i1 - (1 : Int32))).toUInt32 >>> ((16 : Int32) &&& 31).toUInt32).toInt32) then (if (4 : Int32) < ((((((i1 ^^^ (-1 : Int32)) &&& (i1 - (1 : Int32))).toUInt32 >>> ((16 : Int32) &&& 31).toUInt32).toInt32).toUInt32 >>> ((4 : Int32) &&& 31).toUInt32).toInt32) then ((23 : Int32) + ((((((((((i1 ^^^ (-1 : Int32)) &&& (i1 - (1 : Int32))).toUInt32 >>> ((16 : Int32) &&& 31).toUInt32).toInt32).toUInt32 >>> ((4 : Int32) &&& 31).toUInt32).toInt32).toUInt32 >>> ((2 : Int32) &&& 31).toUInt32).toInt32).toUInt32 >>> ((1 : Int32) &&& 31).toUInt32).toInt32)) else ((21 : Int32) + ((((((((i1 ^^^ (-1 : Int32)) &&& (i1 - (1 : Int32))).toUInt32 >>> ((16 : Int32) &&& 31).toUInt32).toInt32).toUInt32 >>> ((4 : Int32) &&& 31).toUInt32).toInt32).toUInt32 >>> ((1 : Int32) &&& 31).toUInt32).toInt32))) else (if (4 : Int32) < ((((i1 ^^^ (-1 : Int32)) &&& (i1 - (1 : Int32))).toUInt32 >>> ((16 : Int32) &&& 31).toUInt32).toInt32) then ((19 : Int32) + ((((((((i1 ^^^ (-1 : Int32)) &&& (i1 - (1 : Int32))).toUInt32 >>> ((16 : Int32) &&& 31).toUInt32).toInt32).toUInt32 >>> ((2 : Int32) &&& 31).toUInt32).toInt32).toUInt32 >>> ((1 : Int32) &&& 31).toUInt32).toInt32)) else ((17 : Int32) + ((((((i1 ^^^ (-1 : Int32)) &&& (i1 - (1 : Int32))).toUInt32 >>> ((16 : Int32) &&& 31).toUInt32).toInt32).toUInt32 >>> ((1 : Int32) &&& 31).toUInt32).toInt32))))) else (if (256 : Int32) < ((i1 ^^^ (-1 : Int32)) &&& (i1 - (1 : Int32))) then (if (16 : Int32) < ((((i1 ^^^ (-1 : Int32)) &&& (i1 - (1 : Int32))).toUInt32 >>> ((8 : Int32) &&& 31).toUInt32).toInt32) then (if (4 : Int32) < ((((((i1 ^^^ (-1 : Int32)) &&& (i1 - (1 : Int32))).toUInt32 >>> ((8 : Int32) &&& 31).toUInt32).toInt32).toUInt32 >>> ((4 : Int32) &&& 31).toUInt32).toInt32) then ((15 : Int32) + ((((((((((i1 ^^^ (-1 : Int32)) &&& (i1 - (1 : Int32))).toUInt32 >>> ((8 : Int32) &&& 31).toUInt32).toInt32).toUInt32 >>> ((4 : Int32) &&& 31).toUInt32).toInt32).toUInt32 >>> ((2 : Int32) &&& 31).toUInt32).toInt32).toUInt32 >>> ((1 : Int32) &&& 31).toUInt32).toInt32)) else ((13 : Int32) + ((((((((i1 ^^^ (-1 : Int32)) &&& (i1 - (1 : Int32))).toUInt32 >>> ((8 : Int32) &&& 31).toUInt32).toInt32).toUInt32 >>> ((4 : Int32) &&& 31).toUInt32).toInt32).toUInt32 >>> ((1 : Int32) &&& 31).toUInt32).toInt32))) else (if (4 : Int32) < ((((i1 ^^^ (-1 : Int32)) &&& (i1 - (1 : Int32))).toUInt32 >>> ((8 : Int32) &&& 31).toUInt32).toInt32) then ((11 : Int32) + ((((((((i1 ^^^ (-1 : Int32)) &&& (i1 - (1 : Int32))).toUInt32 >>> ((8 : Int32) &&& 31).toUInt32).toInt32).toUInt32 >>> ((2 : Int32) &&& 31).toUInt32).toInt32).toUInt32 >>> ((1 : Int32) &&& 31).toUInt32).toInt32)) else ((9 : Int32) + ((((((i1 ^^^ (-1 : Int32)) &&& (i1 - (1 : Int32))).toUInt32 >>> ((8 : Int32) &&& 31).toUInt32).toInt32).toUInt32 >>> ((1 : Int32) &&& 31).toUInt32).toInt32)))) else (if (16 : Int32) < ((i1 ^^^ (-1 : Int32)) &&& (i1 - (1 : Int32))) then (if (4 : Int32) < ((((i1 ^^^ (-1 : Int32)) &&& (i1 - (1 : Int32))).toUInt32 >>> ((4 : Int32) &&& 31).toUInt32).toInt32) then ((7 : Int32) + ((((((((i1 ^^^ (-1 : Int32)) &&& (i1 - (1 : Int32))).toUInt32 >>> ((4 : Int32) &&& 31).toUInt32).toInt32).toUInt32 >>> ((2 : Int32) &&& 31).toUInt32).toInt32).toUInt32 >>> ((1 : Int32) &&& 31).toUInt32).toInt32)) else ((5 : Int32) + ((((((i1 ^^^ (-1 : Int32)) &&& (i1 - (1 : Int32))).toUInt32 >>> ((4 : Int32) &&& 31).toUInt32).toInt32).toUInt32 >>> ((1 : Int32) &&& 31).toUInt32).toInt32))) else (if (4 : Int32) < ((i1 ^^^ (-1 : Int32)) &&& (i1 - (1 : Int32))) then ((3 : Int32) + ((((((i1 ^^^ (-1 : Int32)) &&& (i1 - (1 : Int32))).toUInt32 >>> ((2 : Int32) &&& 31).toUInt32).toInt32).toUInt32 >>> ((1 : Int32) &&& 31).toUInt32).toInt32)) else ((1 : Int32) + ((((i1 ^^^ (-1 : Int32)) &&& (i1 - (1 : Int32))).toUInt32 >>> ((1 : Int32) &&& 31).toUInt32).toInt32)))))) else (((i1 ^^^ (-1 : Int32)) &&& (i1 - (1 : Int32))) &&& (32 : Int32)))
theorem pn_java_lang_Integer : plainName "java/lang/Integer" = true := by first | (simp [plainName, overriddenIn]; done) | decide +kernel
theorem d8_0 : decode jdk_33_method_48_code 0 = .ok (.iload_n 0, 1) := by decide +kernel
theorem d8_1 : decode jdk_33_method_48_code 1 = .ok (.iconst (-1), 1) := by decide +kernel
theorem d8_2 : decode jdk_33_method_48_code 2 = .ok (.ixor, 1) := by decide +kernel
theorem d8_3 : decode jdk_33_method_48_code 3 = .ok (.iload_n 0, 1) := by decide +kernel
theorem d8_4 : decode jdk_33_method_48_code 4 = .ok (.iconst 1, 1) := by decide +kernel
theorem d8_5 : decode jdk_33_method_48_code 5 = .ok (.isub, 1) := by decide +kernel
theorem d8_6 : decode jdk_33_method_48_code 6 = .ok (.iand, 1) := by decide +kernel
theorem d8_7 : decode jdk_33_method_48_code 7 = .ok (.istore_n 0, 1) := by decide +kernel
theorem d8_8 : decode jdk_33_method_48_code 8 = .ok (.iload_n 0, 1) := by decide +kernel
theorem d8_9 : decode jdk_33_method_48_code 9 = .ok (.ifCond .gt 8, 3) := by decide +kernel
theorem d8_12 : decode jdk_33_method_48_code 12 = .ok (.iload_n 0, 1) := by decide +kernel
theorem d8_13 : decode jdk_33_method_48_code 13 = .ok (.bipush 32, 2) := by decide +kernel
theorem d8_15 : decode jdk_33_method_48_code 15 = .ok (.iand, 1) := by decide +kernel
theorem d8_16 : decode jdk_33_method_48_code 16 = .ok (.ireturn, 1) := by decide +kernel
theorem d8_17 : decode jdk_33_method_48_code 17 = .ok (.iconst 1, 1) := by decide +kernel
theorem d8_18 : decode jdk_33_method_48_code 18 = .ok (.istore_n 1, 1) := by decide +kernel
theorem d8_19 : decode jdk_33_method_48_code 19 = .ok (.iload_n 0, 1) := by decide +kernel
theorem d8_20 : decode jdk_33_method_48_code 20 = .ok (.ldc_w 264, 3) := by decide +kernel
theorem d8_23 : decode jdk_33_method_48_code 23 = .ok (.if_icmp .le 11, 3) := by decide +kernel
theorem d8_26 : decode jdk_33_method_48_code 26 = .ok (.iinc 1 16, 3) := by decide +kernel
theorem d8_29 : decode jdk_33_method_48_code 29 = .ok (.iload_n 0, 1) := by decide +kernel
theorem d8_30 : decode jdk_33_method_48_code 30 = .ok (.bipush 16, 2) := by decide +kernel
theorem d8_32 : decode jdk_33_method_48_code 32 = .ok (.iushr, 1) := by decide +kernel
theorem d8_33 : decode jdk_33_method_48_code 33 = .ok (.istore_n 0, 1) := by decide +kernel
theorem d8_34 : decode jdk_33_method_48_code 34 = .ok (.iload_n 0, 1) := by decide +kernel
theorem d8_35 : decode jdk_33_method_48_code 35 = .ok (.sipush 256, 3) := by decide +kernel
theorem d8_38 : decode jdk_33_method_48_code 38 = .ok (.if_icmp .le 11, 3) := by decide +kernel
theorem d8_41 : decode jdk_33_method_48_code 41 = .ok (.iinc 1 8, 3) := by decide +kernel
theorem d8_44 : decode jdk_33_method_48_code 44 = .ok (.iload_n 0, 1) := by decide +kernel
theorem d8_45 : decode jdk_33_method_48_code 45 = .ok (.bipush 8, 2) := by decide +kernel
theorem d8_47 : decode jdk_33_method_48_code 47 = .ok (.iushr, 1) := by decide +kernel
theorem d8_48 : decode jdk_33_method_48_code 48 = .ok (.istore_n 0, 1) := by decide +kernel
theorem d8_49 : decode jdk_33_method_48_code 49 = .ok (.iload_n 0, 1) := by decide +kernel
theorem d8_50 : decode jdk_33_method_48_code 50 = .ok (.bipush 16, 2) := by decide +kernel
theorem d8_52 : decode jdk_33_method_48_code 52 = .ok (.if_icmp .le 10, 3) := by decide +kernel
theorem d8_55 : decode jdk_33_method_48_code 55 = .ok (.iinc 1 4, 3) := by decide +kernel
theorem d8_58 : decode jdk_33_method_48_code 58 = .ok (.iload_n 0, 1) := by decide +kernel
theorem d8_59 : decode jdk_33_method_48_code 59 = .ok (.iconst 4, 1) := by decide +kernel
theorem d8_60 : decode jdk_33_method_48_code 60 = .ok (.iushr, 1) := by decide +kernel
theorem d8_61 : decode jdk_33_method_48_code 61 = .ok (.istore_n 0, 1) := by decide +kernel
theorem d8_62 : decode jdk_33_method_48_code 62 = .ok (.iload_n 0, 1) := by decide +kernel
theorem d8_63 : decode jdk_33_method_48_code 63 = .ok (.iconst 4, 1) := by decide +kernel
theorem d8_64 : decode jdk_33_method_48_code 64 = .ok (.if_icmp .le 10, 3) := by decide +kernel
theorem d8_67 : decode jdk_33_method_48_code 67 = .ok (.iinc 1 2, 3) := by decide +kernel
theorem d8_70 : decode jdk_33_method_48_code 70 = .ok (.iload_n 0, 1) := by decide +kernel
theorem d8_71 : decode jdk_33_method_48_code 71 = .ok (.iconst 2, 1) := by decide +kernel
theorem d8_72 : decode jdk_33_method_48_code 72 = .ok (.iushr, 1) := by decide +kernel
theorem d8_73 : decode jdk_33_method_48_code 73 = .ok (.istore_n 0, 1) := by decide +kernel
theorem d8_74 : decode jdk_33_method_48_code 74 = .ok (.iload_n 1, 1) := by decide +kernel
theorem d8_75 : decode jdk_33_method_48_code 75 = .ok (.iload_n 0, 1) := by decide +kernel
theorem d8_76 : decode jdk_33_method_48_code 76 = .ok (.iconst 1, 1) := by decide +kernel
theorem d8_77 : decode jdk_33_method_48_code 77 = .ok (.iushr, 1) := by decide +kernel
theorem d8_78 : decode jdk_33_method_48_code 78 = .ok (.iadd, 1) := by decide +kernel
theorem d8_79 : decode jdk_33_method_48_code 79 = .ok (.ireturn, 1) := by decide +kernel
theorem ef_8 (m : MethodId) (x0 : Int32) : entryFrame m #[(.int x0)] 2 = mkF m 0 #[.val (.int x0), .unset] [] := by first | (simp [entryFrame, mkF, argsToLocals, Value.category]; done) | rfl
def own_Q8 (Z : State) (i1 : Int32) (h0 : Heap) (n0 : Nat) (v : Option Value) (h : Heap) (L : List Loc) : Prop := v = some (.int (own_f8 i1)) ∧ Fr n0 L ∧ h = h0
set_option maxRecDepth 65536 in
set_option maxHeartbeats 40000000 in
theorem rm8 (l : Launch) (Z : State) (a0 : Array Value) (hw : ∀ d ∈ tables_1, d.before a0 Z = true) (ws : List Jvm.Cond) (i1 : Int32) (h0 : Heap) (n0 : Nat) (Z0 : n0 ≤ h0.size)  :
    MetFree l (⟨"java/lang/Integer", "numberOfTrailingZeros", "(I)I"⟩ : MethodName) (head1 (Jvm.Cond.code (⟨"java/lang/Integer", "numberOfTrailingZeros", "(I)I"⟩ : MethodName) jdk_33_method_48_code 2 (some .int) :: ws) ({ frames := 0, cells := 0, slots := 0, locals := 0 } : Room)) (fun a U => a = #[(.int i1)] ∧ Z.Warmed39 U.vm ∧ U.heap = h0) (fun _ _ _ _ _ => True) (fun _ U o U' => ∃ v L, o = .returned v ∧ own_Q8 Z i1 h0 n0 v U'.heap L ∧ FrameEnd U o U' L ({ frames := 0, cells := 0, slots := 0, locals := 0 } : Room).cells ({ frames := 0, cells := 0, slots := 0, locals := 0 } : Room).slots) := by
  refine MetFree.of_bodySF (plainFor_of_name pn_java_lang_Integer) hisR ?_
  intro p e s m args below meth c s₁ Bd hml0 hP hK
  obtain ⟨rfl, hZ, hh⟩ := hP
  have hx := Bd.exec
  have hby := Bd.bytes
  have hml : c.maxLocals = 2 := hml0
  have hown : s.vm.findClass "java/lang/Integer" = some m.cls := findClass_of_methodNamed Bd.named
  have hnm := (name_of_methodNamed Bd.named Bd.method).1
  have X0 : Stand p l e ({ frames := 0, cells := 0, slots := 0, locals := 0 } : Room) s m #[(.int i1)] below meth c s₁ [] 0 0 := Stand.of_body Bd
  have e0 : s₁.heap = h0 := by rw [← hh, Bd.state]; rfl
  have N0 := Fr.nil n0
  have Zs := Z0
  show own_Goes p e below s (own_Q8 Z i1 h0 n0) ({ frames := 0, cells := 0, slots := 0, locals := 0 } : Room).cells ({ frames := 0, cells := 0, slots := 0, locals := 0 } : Room).slots _
  refine own_go (B := s₁.setTop (mkF m 0 #[.val (.int i1), .unset] [])) (fun t k => castTop (ef_8 m i1) k) ?_
  refine own_go (B := s₁.setTop (mkF m 1 #[.val (.int i1), .unset] [(.int i1)])) (fun t k => XS.iloadN X0.here hx rfl (Jvm.hb hby d8_0) rfl k) ?_
  refine own_go (B := s₁.setTop (mkF m 2 #[.val (.int i1), .unset] [(.int (-1 : Int32)), (.int i1)])) (fun t k => XS.iconst X0.here hx rfl (Jvm.hb hby d8_1) k) ?_
  refine own_go (B := s₁.setTop (mkF m 3 #[.val (.int i1), .unset] [(.int (i1 ^^^ (-1 : Int32)))])) (fun t k => XS.ixor X0.here hx rfl (Jvm.hb hby d8_2) rfl k) ?_
  refine own_go (B := s₁.setTop (mkF m 4 #[.val (.int i1), .unset] [(.int i1), (.int (i1 ^^^ (-1 : Int32)))])) (fun t k => XS.iloadN X0.here hx rfl (Jvm.hb hby d8_3) rfl k) ?_
  refine own_go (B := s₁.setTop (mkF m 5 #[.val (.int i1), .unset] [(.int (1 : Int32)), (.int i1), (.int (i1 ^^^ (-1 : Int32)))])) (fun t k => XS.iconst X0.here hx rfl (Jvm.hb hby d8_4) k) ?_
  refine own_go (B := s₁.setTop (mkF m 6 #[.val (.int i1), .unset] [(.int (i1 - (1 : Int32))), (.int (i1 ^^^ (-1 : Int32)))])) (fun t k => XS.isub X0.here hx rfl (Jvm.hb hby d8_5) rfl k) ?_
  refine own_go (B := s₁.setTop (mkF m 7 #[.val (.int i1), .unset] [(.int ((i1 ^^^ (-1 : Int32)) &&& (i1 - (1 : Int32))))])) (fun t k => XS.iand X0.here hx rfl (Jvm.hb hby d8_6) rfl k) ?_
  refine own_go (B := s₁.setTop (mkF m 8 #[.val (.int ((i1 ^^^ (-1 : Int32)) &&& (i1 - (1 : Int32)))), .unset] [])) (fun t k => XS.istoreN X0.here hx rfl (Jvm.hb hby d8_7) rfl (l' := #[.val (.int ((i1 ^^^ (-1 : Int32)) &&& (i1 - (1 : Int32)))), .unset]) rfl k) ?_
  refine own_go (B := s₁.setTop (mkF m 9 #[.val (.int ((i1 ^^^ (-1 : Int32)) &&& (i1 - (1 : Int32)))), .unset] [(.int ((i1 ^^^ (-1 : Int32)) &&& (i1 - (1 : Int32))))])) (fun t k => XS.iloadN X0.here hx rfl (Jvm.hb hby d8_8) rfl k) ?_
  by_cases hc9_3 : (0 : Int32) < ((i1 ^^^ (-1 : Int32)) &&& (i1 - (1 : Int32)))
  · refine own_go (B := s₁.setTop (mkF m 17 #[.val (.int ((i1 ^^^ (-1 : Int32)) &&& (i1 - (1 : Int32)))), .unset] [])) (fun t k => XS.ifYes X0.here hx rfl (pc0 := 9) (pc' := 17) rfl (Jvm.hb hby d8_9) rfl ((if0 _ _).trans (tlt hc9_3).2.2.1) (by decide) (by decide) k) ?_
    refine own_go (B := s₁.setTop (mkF m 18 #[.val (.int ((i1 ^^^ (-1 : Int32)) &&& (i1 - (1 : Int32)))), .unset] [(.int (1 : Int32))])) (fun t k => XS.iconst X0.here hx rfl (Jvm.hb hby d8_17) k) ?_
    refine own_go (B := s₁.setTop (mkF m 19 #[.val (.int ((i1 ^^^ (-1 : Int32)) &&& (i1 - (1 : Int32)))), .val (.int (1 : Int32))] [])) (fun t k => XS.istoreN X0.here hx rfl (Jvm.hb hby d8_18) rfl (l' := #[.val (.int ((i1 ^^^ (-1 : Int32)) &&& (i1 - (1 : Int32)))), .val (.int (1 : Int32))]) rfl k) ?_
    refine own_go (B := s₁.setTop (mkF m 20 #[.val (.int ((i1 ^^^ (-1 : Int32)) &&& (i1 - (1 : Int32)))), .val (.int (1 : Int32))] [(.int ((i1 ^^^ (-1 : Int32)) &&& (i1 - (1 : Int32))))])) (fun t k => XS.iloadN X0.here hx rfl (Jvm.hb hby d8_19) rfl k) ?_
    refine own_go (B := s₁.setTop (mkF m 23 #[.val (.int ((i1 ^^^ (-1 : Int32)) &&& (i1 - (1 : Int32)))), .val (.int (1 : Int32))] [(.int (65536 : Int32)), (.int ((i1 ^^^ (-1 : Int32)) &&& (i1 - (1 : Int32))))])) (fun t k => X0.ldcwInt hx hown (mvT hZ (own_w hw 68 rfl)) (g := (mkF m 20 #[.val (.int ((i1 ^^^ (-1 : Int32)) &&& (i1 - (1 : Int32)))), .val (.int (1 : Int32))] [(.int ((i1 ^^^ (-1 : Int32)) &&& (i1 - (1 : Int32))))])) rfl (Jvm.hb hby d8_20) _ k) ?_
    by_cases hc23_4 : (65536 : Int32) < ((i1 ^^^ (-1 : Int32)) &&& (i1 - (1 : Int32)))
    · refine own_go (B := s₁.setTop (mkF m 26 #[.val (.int ((i1 ^^^ (-1 : Int32)) &&& (i1 - (1 : Int32)))), .val (.int (1 : Int32))] [])) (fun t k => XS.icmpNo X0.here hx rfl (Jvm.hb hby d8_23) rfl (tlt hc23_4).2.2.2 k) ?_
      refine own_go (B := s₁.setTop (mkF m 29 #[.val (.int ((i1 ^^^ (-1 : Int32)) &&& (i1 - (1 : Int32)))), .val (.int ((1 : Int32) + (16 : Int32)))] [])) (fun t k => XS.iinc X0.here hx rfl (Jvm.hb hby d8_26) rfl (l' := #[.val (.int ((i1 ^^^ (-1 : Int32)) &&& (i1 - (1 : Int32)))), .val (.int ((1 : Int32) + (16 : Int32)))]) rfl k) ?_
      rw [show ((1 : Int32) + (16 : Int32)) = (17 : Int32) from by decide]
      refine own_go (B := s₁.setTop (mkF m 30 #[.val (.int ((i1 ^^^ (-1 : Int32)) &&& (i1 - (1 : Int32)))), .val (.int (17 : Int32))] [(.int ((i1 ^^^ (-1 : Int32)) &&& (i1 - (1 : Int32))))])) (fun t k => XS.iloadN X0.here hx rfl (Jvm.hb hby d8_29) rfl k) ?_
      refine own_go (B := s₁.setTop (mkF m 32 #[.val (.int ((i1 ^^^ (-1 : Int32)) &&& (i1 - (1 : Int32)))), .val (.int (17 : Int32))] [(.int (16 : Int32)), (.int ((i1 ^^^ (-1 : Int32)) &&& (i1 - (1 : Int32))))])) (fun t k => XS.bipush X0.here hx rfl (Jvm.hb hby d8_30) k) ?_
      refine own_go (B := s₁.setTop (mkF m 33 #[.val (.int ((i1 ^^^ (-1 : Int32)) &&& (i1 - (1 : Int32)))), .val (.int (17 : Int32))] [(.int ((((i1 ^^^ (-1 : Int32)) &&& (i1 - (1 : Int32))).toUInt32 >>> ((16 : Int32) &&& 31).toUInt32).toInt32))])) (fun t k => XS.iushr X0.here hx rfl (Jvm.hb hby d8_32) rfl k) ?_
      refine own_go (B := s₁.setTop (mkF m 34 #[.val (.int ((((i1 ^^^ (-1 : Int32)) &&& (i1 - (1 : Int32))).toUInt32 >>> ((16 : Int32) &&& 31).toUInt32).toInt32)), .val (.int (17 : Int32))] [])) (fun t k => XS.istoreN X0.here hx rfl (Jvm.hb hby d8_33) rfl (l' := #[.val (.int ((((i1 ^^^ (-1 : Int32)) &&& (i1 - (1 : Int32))).toUInt32 >>> ((16 : Int32) &&& 31).toUInt32).toInt32)), .val (.int (17 : Int32))]) rfl k) ?_
      refine own_go (B := s₁.setTop (mkF m 35 #[.val (.int ((((i1 ^^^ (-1 : Int32)) &&& (i1 - (1 : Int32))).toUInt32 >>> ((16 : Int32) &&& 31).toUInt32).toInt32)), .val (.int (17 : Int32))] [(.int ((((i1 ^^^ (-1 : Int32)) &&& (i1 - (1 : Int32))).toUInt32 >>> ((16 : Int32) &&& 31).toUInt32).toInt32))])) (fun t k => XS.iloadN X0.here hx rfl (Jvm.hb hby d8_34) rfl k) ?_
      refine own_go (B := s₁.setTop (mkF m 38 #[.val (.int ((((i1 ^^^ (-1 : Int32)) &&& (i1 - (1 : Int32))).toUInt32 >>> ((16 : Int32) &&& 31).toUInt32).toInt32)), .val (.int (17 : Int32))] [(.int (256 : Int32)), (.int ((((i1 ^^^ (-1 : Int32)) &&& (i1 - (1 : Int32))).toUInt32 >>> ((16 : Int32) &&& 31).toUInt32).toInt32))])) (fun t k => XS.sipush X0.here hx rfl (Jvm.hb hby d8_35) k) ?_
      by_cases hc38_5 : (256 : Int32) < ((((i1 ^^^ (-1 : Int32)) &&& (i1 - (1 : Int32))).toUInt32 >>> ((16 : Int32) &&& 31).toUInt32).toInt32)
      · refine own_go (B := s₁.setTop (mkF m 41 #[.val (.int ((((i1 ^^^ (-1 : Int32)) &&& (i1 - (1 : Int32))).toUInt32 >>> ((16 : Int32) &&& 31).toUInt32).toInt32)), .val (.int (17 : Int32))] [])) (fun t k => XS.icmpNo X0.here hx rfl (Jvm.hb hby d8_38) rfl (tlt hc38_5).2.2.2 k) ?_
        refine own_go (B := s₁.setTop (mkF m 44 #[.val (.int ((((i1 ^^^ (-1 : Int32)) &&& (i1 - (1 : Int32))).toUInt32 >>> ((16 : Int32) &&& 31).toUInt32).toInt32)), .val (.int ((17 : Int32) + (8 : Int32)))] [])) (fun t k => XS.iinc X0.here hx rfl (Jvm.hb hby d8_41) rfl (l' := #[.val (.int ((((i1 ^^^ (-1 : Int32)) &&& (i1 - (1 : Int32))).toUInt32 >>> ((16 : Int32) &&& 31).toUInt32).toInt32)), .val (.int ((17 : Int32) + (8 : Int32)))]) rfl k) ?_
        rw [show ((17 : Int32) + (8 : Int32)) = (25 : Int32) from by decide]
        refine own_go (B := s₁.setTop (mkF m 45 #[.val (.int ((((i1 ^^^ (-1 : Int32)) &&& (i1 - (1 : Int32))).toUInt32 >>> ((16 : Int32) &&& 31).toUInt32).toInt32)), .val (.int (25 : Int32))] [(.int ((((i1 ^^^ (-1 : Int32)) &&& (i1 - (1 : Int32))).toUInt32 >>> ((16 : Int32) &&& 31).toUInt32).toInt32))])) (fun t k => XS.iloadN X0.here hx rfl (Jvm.hb hby d8_44) rfl k) ?_
        refine own_go (B := s₁.setTop (mkF m 47 #[.val (.int ((((i1 ^^^ (-1 : Int32)) &&& (i1 - (1 : Int32))).toUInt32 >>> ((16 : Int32) &&& 31).toUInt32).toInt32)), .val (.int (25 : Int32))] [(.int (8 : Int32)), (.int ((((i1 ^^^ (-1 : Int32)) &&& (i1 - (1 : Int32))).toUInt32 >>> ((16 : Int32) &&& 31).toUInt32).toInt32))])) (fun t k => XS.bipush X0.here hx rfl (Jvm.hb hby d8_45) k) ?_
        refine own_go (B := s₁.setTop (mkF m 48 #[.val (.int ((((i1 ^^^ (-1 : Int32)) &&& (i1 - (1 : Int32))).toUInt32 >>> ((16 : Int32) &&& 31).toUInt32).toInt32)), .val (.int (25 : Int32))] [(.int ((((((i1 ^^^ (-1 : Int32)) &&& (i1 - (1 : Int32))).toUInt32 >>> ((16 : Int32) &&& 31).toUInt32).toInt32).toUInt32 >>> ((8 : Int32) &&& 31).toUInt32).toInt32))])) (fun t k => XS.iushr X0.here hx rfl (Jvm.hb hby d8_47) rfl k) ?_
        refine own_go (B := s₁.setTop (mkF m 49 #[.val (.int ((((((i1 ^^^ (-1 : Int32)) &&& (i1 - (1 : Int32))).toUInt32 >>> ((16 : Int32) &&& 31).toUInt32).toInt32).toUInt32 >>> ((8 : Int32) &&& 31).toUInt32).toInt32)), .val (.int (25 : Int32))] [])) (fun t k => XS.istoreN X0.here hx rfl (Jvm.hb hby d8_48) rfl (l' := #[.val (.int ((((((i1 ^^^ (-1 : Int32)) &&& (i1 - (1 : Int32))).toUInt32 >>> ((16 : Int32) &&& 31).toUInt32).toInt32).toUInt32 >>> ((8 : Int32) &&& 31).toUInt32).toInt32)), .val (.int (25 : Int32))]) rfl k) ?_
        refine own_go (B := s₁.setTop (mkF m 50 #[.val (.int ((((((i1 ^^^ (-1 : Int32)) &&& (i1 - (1 : Int32))).toUInt32 >>> ((16 : Int32) &&& 31).toUInt32).toInt32).toUInt32 >>> ((8 : Int32) &&& 31).toUInt32).toInt32)), .val (.int (25 : Int32))] [(.int ((((((i1 ^^^ (-1 : Int32)) &&& (i1 - (1 : Int32))).toUInt32 >>> ((16 : Int32) &&& 31).toUInt32).toInt32).toUInt32 >>> ((8 : Int32) &&& 31).toUInt32).toInt32))])) (fun t k => XS.iloadN X0.here hx rfl (Jvm.hb hby d8_49) rfl k) ?_
        refine own_go (B := s₁.setTop (mkF m 52 #[.val (.int ((((((i1 ^^^ (-1 : Int32)) &&& (i1 - (1 : Int32))).toUInt32 >>> ((16 : Int32) &&& 31).toUInt32).toInt32).toUInt32 >>> ((8 : Int32) &&& 31).toUInt32).toInt32)), .val (.int (25 : Int32))] [(.int (16 : Int32)), (.int ((((((i1 ^^^ (-1 : Int32)) &&& (i1 - (1 : Int32))).toUInt32 >>> ((16 : Int32) &&& 31).toUInt32).toInt32).toUInt32 >>> ((8 : Int32) &&& 31).toUInt32).toInt32))])) (fun t k => XS.bipush X0.here hx rfl (Jvm.hb hby d8_50) k) ?_
        by_cases hc52_6 : (16 : Int32) < ((((((i1 ^^^ (-1 : Int32)) &&& (i1 - (1 : Int32))).toUInt32 >>> ((16 : Int32) &&& 31).toUInt32).toInt32).toUInt32 >>> ((8 : Int32) &&& 31).toUInt32).toInt32)
        · refine own_go (B := s₁.setTop (mkF m 55 #[.val (.int ((((((i1 ^^^ (-1 : Int32)) &&& (i1 - (1 : Int32))).toUInt32 >>> ((16 : Int32) &&& 31).toUInt32).toInt32).toUInt32 >>> ((8 : Int32) &&& 31).toUInt32).toInt32)), .val (.int (25 : Int32))] [])) (fun t k => XS.icmpNo X0.here hx rfl (Jvm.hb hby d8_52) rfl (tlt hc52_6).2.2.2 k) ?_
          refine own_go (B := s₁.setTop (mkF m 58 #[.val (.int ((((((i1 ^^^ (-1 : Int32)) &&& (i1 - (1 : Int32))).toUInt32 >>> ((16 : Int32) &&& 31).toUInt32).toInt32).toUInt32 >>> ((8 : Int32) &&& 31).toUInt32).toInt32)), .val (.int ((25 : Int32) + (4 : Int32)))] [])) (fun t k => XS.iinc X0.here hx rfl (Jvm.hb hby d8_55) rfl (l' := #[.val (.int ((((((i1 ^^^ (-1 : Int32)) &&& (i1 - (1 : Int32))).toUInt32 >>> ((16 : Int32) &&& 31).toUInt32).toInt32).toUInt32 >>> ((8 : Int32) &&& 31).toUInt32).toInt32)), .val (.int ((25 : Int32) + (4 : Int32)))]) rfl k) ?_
          rw [show ((25 : Int32) + (4 : Int32)) = (29 : Int32) from by decide]
          refine own_go (B := s₁.setTop (mkF m 59 #[.val (.int ((((((i1 ^^^ (-1 : Int32)) &&& (i1 - (1 : Int32))).toUInt32 >>> ((16 : Int32) &&& 31).toUInt32).toInt32).toUInt32 >>> ((8 : Int32) &&& 31).toUInt32).toInt32)), .val (.int (29 : Int32))] [(.int ((((((i1 ^^^ (-1 : Int32)) &&& (i1 - (1 : Int32))).toUInt32 >>> ((16 : Int32) &&& 31).toUInt32).toInt32).toUInt32 >>> ((8 : Int32) &&& 31).toUInt32).toInt32))])) (fun t k => XS.iloadN X0.here hx rfl (Jvm.hb hby d8_58) rfl k) ?_
          refine own_go (B := s₁.setTop (mkF m 60 #[.val (.int ((((((i1 ^^^ (-1 : Int32)) &&& (i1 - (1 : Int32))).toUInt32 >>> ((16 : Int32) &&& 31).toUInt32).toInt32).toUInt32 >>> ((8 : Int32) &&& 31).toUInt32).toInt32)), .val (.int (29 : Int32))] [(.int (4 : Int32)), (.int ((((((i1 ^^^ (-1 : Int32)) &&& (i1 - (1 : Int32))).toUInt32 >>> ((16 : Int32) &&& 31).toUInt32).toInt32).toUInt32 >>> ((8 : Int32) &&& 31).toUInt32).toInt32))])) (fun t k => XS.iconst X0.here hx rfl (Jvm.hb hby d8_59) k) ?_
          refine own_go (B := s₁.setTop (mkF m 61 #[.val (.int ((((((i1 ^^^ (-1 : Int32)) &&& (i1 - (1 : Int32))).toUInt32 >>> ((16 : Int32) &&& 31).toUInt32).toInt32).toUInt32 >>> ((8 : Int32) &&& 31).toUInt32).toInt32)), .val (.int (29 : Int32))] [(.int ((((((((i1 ^^^ (-1 : Int32)) &&& (i1 - (1 : Int32))).toUInt32 >>> ((16 : Int32) &&& 31).toUInt32).toInt32).toUInt32 >>> ((8 : Int32) &&& 31).toUInt32).toInt32).toUInt32 >>> ((4 : Int32) &&& 31).toUInt32).toInt32))])) (fun t k => XS.iushr X0.here hx rfl (Jvm.hb hby d8_60) rfl k) ?_
          refine own_go (B := s₁.setTop (mkF m 62 #[.val (.int ((((((((i1 ^^^ (-1 : Int32)) &&& (i1 - (1 : Int32))).toUInt32 >>> ((16 : Int32) &&& 31).toUInt32).toInt32).toUInt32 >>> ((8 : Int32) &&& 31).toUInt32).toInt32).toUInt32 >>> ((4 : Int32) &&& 31).toUInt32).toInt32)), .val (.int (29 : Int32))] [])) (fun t k => XS.istoreN X0.here hx rfl (Jvm.hb hby d8_61) rfl (l' := #[.val (.int ((((((((i1 ^^^ (-1 : Int32)) &&& (i1 - (1 : Int32))).toUInt32 >>> ((16 : Int32) &&& 31).toUInt32).toInt32).toUInt32 >>> ((8 : Int32) &&& 31).toUInt32).toInt32).toUInt32 >>> ((4 : Int32) &&& 31).toUInt32).toInt32)), .val (.int (29 : Int32))]) rfl k) ?_
          refine own_go (B := s₁.setTop (mkF m 63 #[.val (.int ((((((((i1 ^^^ (-1 : Int32)) &&& (i1 - (1 : Int32))).toUInt32 >>> ((16 : Int32) &&& 31).toUInt32).toInt32).toUInt32 >>> ((8 : Int32) &&& 31).toUInt32).toInt32).toUInt32 >>> ((4 : Int32) &&& 31).toUInt32).toInt32)), .val (.int (29 : Int32))] [(.int ((((((((i1 ^^^ (-1 : Int32)) &&& (i1 - (1 : Int32))).toUInt32 >>> ((16 : Int32) &&& 31).toUInt32).toInt32).toUInt32 >>> ((8 : Int32) &&& 31).toUInt32).toInt32).toUInt32 >>> ((4 : Int32) &&& 31).toUInt32).toInt32))])) (fun t k => XS.iloadN X0.here hx rfl (Jvm.hb hby d8_62) rfl k) ?_
          refine own_go (B := s₁.setTop (mkF m 64 #[.val (.int ((((((((i1 ^^^ (-1 : Int32)) &&& (i1 - (1 : Int32))).toUInt32 >>> ((16 : Int32) &&& 31).toUInt32).toInt32).toUInt32 >>> ((8 : Int32) &&& 31).toUInt32).toInt32).toUInt32 >>> ((4 : Int32) &&& 31).toUInt32).toInt32)), .val (.int (29 : Int32))] [(.int (4 : Int32)), (.int ((((((((i1 ^^^ (-1 : Int32)) &&& (i1 - (1 : Int32))).toUInt32 >>> ((16 : Int32) &&& 31).toUInt32).toInt32).toUInt32 >>> ((8 : Int32) &&& 31).toUInt32).toInt32).toUInt32 >>> ((4 : Int32) &&& 31).toUInt32).toInt32))])) (fun t k => XS.iconst X0.here hx rfl (Jvm.hb hby d8_63) k) ?_
          by_cases hc64_7 : (4 : Int32) < ((((((((i1 ^^^ (-1 : Int32)) &&& (i1 - (1 : Int32))).toUInt32 >>> ((16 : Int32) &&& 31).toUInt32).toInt32).toUInt32 >>> ((8 : Int32) &&& 31).toUInt32).toInt32).toUInt32 >>> ((4 : Int32) &&& 31).toUInt32).toInt32)
          · refine own_go (B := s₁.setTop (mkF m 67 #[.val (.int ((((((((i1 ^^^ (-1 : Int32)) &&& (i1 - (1 : Int32))).toUInt32 >>> ((16 : Int32) &&& 31).toUInt32).toInt32).toUInt32 >>> ((8 : Int32) &&& 31).toUInt32).toInt32).toUInt32 >>> ((4 : Int32) &&& 31).toUInt32).toInt32)), .val (.int (29 : Int32))] [])) (fun t k => XS.icmpNo X0.here hx rfl (Jvm.hb hby d8_64) rfl (tlt hc64_7).2.2.2 k) ?_
            refine own_go (B := s₁.setTop (mkF m 70 #[.val (.int ((((((((i1 ^^^ (-1 : Int32)) &&& (i1 - (1 : Int32))).toUInt32 >>> ((16 : Int32) &&& 31).toUInt32).toInt32).toUInt32 >>> ((8 : Int32) &&& 31).toUInt32).toInt32).toUInt32 >>> ((4 : Int32) &&& 31).toUInt32).toInt32)), .val (.int ((29 : Int32) + (2 : Int32)))] [])) (fun t k => XS.iinc X0.here hx rfl (Jvm.hb hby d8_67) rfl (l' := #[.val (.int ((((((((i1 ^^^ (-1 : Int32)) &&& (i1 - (1 : Int32))).toUInt32 >>> ((16 : Int32) &&& 31).toUInt32).toInt32).toUInt32 >>> ((8 : Int32) &&& 31).toUInt32).toInt32).toUInt32 >>> ((4 : Int32) &&& 31).toUInt32).toInt32)), .val (.int ((29 : Int32) + (2 : Int32)))]) rfl k) ?_
            rw [show ((29 : Int32) + (2 : Int32)) = (31 : Int32) from by decide]
            refine own_go (B := s₁.setTop (mkF m 71 #[.val (.int ((((((((i1 ^^^ (-1 : Int32)) &&& (i1 - (1 : Int32))).toUInt32 >>> ((16 : Int32) &&& 31).toUInt32).toInt32).toUInt32 >>> ((8 : Int32) &&& 31).toUInt32).toInt32).toUInt32 >>> ((4 : Int32) &&& 31).toUInt32).toInt32)), .val (.int (31 : Int32))] [(.int ((((((((i1 ^^^ (-1 : Int32)) &&& (i1 - (1 : Int32))).toUInt32 >>> ((16 : Int32) &&& 31).toUInt32).toInt32).toUInt32 >>> ((8 : Int32) &&& 31).toUInt32).toInt32).toUInt32 >>> ((4 : Int32) &&& 31).toUInt32).toInt32))])) (fun t k => XS.iloadN X0.here hx rfl (Jvm.hb hby d8_70) rfl k) ?_
            refine own_go (B := s₁.setTop (mkF m 72 #[.val (.int ((((((((i1 ^^^ (-1 : Int32)) &&& (i1 - (1 : Int32))).toUInt32 >>> ((16 : Int32) &&& 31).toUInt32).toInt32).toUInt32 >>> ((8 : Int32) &&& 31).toUInt32).toInt32).toUInt32 >>> ((4 : Int32) &&& 31).toUInt32).toInt32)), .val (.int (31 : Int32))] [(.int (2 : Int32)), (.int ((((((((i1 ^^^ (-1 : Int32)) &&& (i1 - (1 : Int32))).toUInt32 >>> ((16 : Int32) &&& 31).toUInt32).toInt32).toUInt32 >>> ((8 : Int32) &&& 31).toUInt32).toInt32).toUInt32 >>> ((4 : Int32) &&& 31).toUInt32).toInt32))])) (fun t k => XS.iconst X0.here hx rfl (Jvm.hb hby d8_71) k) ?_
            refine own_go (B := s₁.setTop (mkF m 73 #[.val (.int ((((((((i1 ^^^ (-1 : Int32)) &&& (i1 - (1 : Int32))).toUInt32 >>> ((16 : Int32) &&& 31).toUInt32).toInt32).toUInt32 >>> ((8 : Int32) &&& 31).toUInt32).toInt32).toUInt32 >>> ((4 : Int32) &&& 31).toUInt32).toInt32)), .val (.int (31 : Int32))] [(.int ((((((((((i1 ^^^ (-1 : Int32)) &&& (i1 - (1 : Int32))).toUInt32 >>> ((16 : Int32) &&& 31).toUInt32).toInt32).toUInt32 >>> ((8 : Int32) &&& 31).toUInt32).toInt32).toUInt32 >>> ((4 : Int32) &&& 31).toUInt32).toInt32).toUInt32 >>> ((2 : Int32) &&& 31).toUInt32).toInt32))])) (fun t k => XS.iushr X0.here hx rfl (Jvm.hb hby d8_72) rfl k) ?_
            refine own_go (B := s₁.setTop (mkF m 74 #[.val (.int ((((((((((i1 ^^^ (-1 : Int32)) &&& (i1 - (1 : Int32))).toUInt32 >>> ((16 : Int32) &&& 31).toUInt32).toInt32).toUInt32 >>> ((8 : Int32) &&& 31).toUInt32).toInt32).toUInt32 >>> ((4 : Int32) &&& 31).toUInt32).toInt32).toUInt32 >>> ((2 : Int32) &&& 31).toUInt32).toInt32)), .val (.int (31 : Int32))] [])) (fun t k => XS.istoreN X0.here hx rfl (Jvm.hb hby d8_73) rfl (l' := #[.val (.int ((((((((((i1 ^^^ (-1 : Int32)) &&& (i1 - (1 : Int32))).toUInt32 >>> ((16 : Int32) &&& 31).toUInt32).toInt32).toUInt32 >>> ((8 : Int32) &&& 31).toUInt32).toInt32).toUInt32 >>> ((4 : Int32) &&& 31).toUInt32).toInt32).toUInt32 >>> ((2 : Int32) &&& 31).toUInt32).toInt32)), .val (.int (31 : Int32))]) rfl k) ?_
            refine own_go (B := s₁.setTop (mkF m 75 #[.val (.int ((((((((((i1 ^^^ (-1 : Int32)) &&& (i1 - (1 : Int32))).toUInt32 >>> ((16 : Int32) &&& 31).toUInt32).toInt32).toUInt32 >>> ((8 : Int32) &&& 31).toUInt32).toInt32).toUInt32 >>> ((4 : Int32) &&& 31).toUInt32).toInt32).toUInt32 >>> ((2 : Int32) &&& 31).toUInt32).toInt32)), .val (.int (31 : Int32))] [(.int (31 : Int32))])) (fun t k => XS.iloadN X0.here hx rfl (Jvm.hb hby d8_74) rfl k) ?_
            refine own_go (B := s₁.setTop (mkF m 76 #[.val (.int ((((((((((i1 ^^^ (-1 : Int32)) &&& (i1 - (1 : Int32))).toUInt32 >>> ((16 : Int32) &&& 31).toUInt32).toInt32).toUInt32 >>> ((8 : Int32) &&& 31).toUInt32).toInt32).toUInt32 >>> ((4 : Int32) &&& 31).toUInt32).toInt32).toUInt32 >>> ((2 : Int32) &&& 31).toUInt32).toInt32)), .val (.int (31 : Int32))] [(.int ((((((((((i1 ^^^ (-1 : Int32)) &&& (i1 - (1 : Int32))).toUInt32 >>> ((16 : Int32) &&& 31).toUInt32).toInt32).toUInt32 >>> ((8 : Int32) &&& 31).toUInt32).toInt32).toUInt32 >>> ((4 : Int32) &&& 31).toUInt32).toInt32).toUInt32 >>> ((2 : Int32) &&& 31).toUInt32).toInt32)), (.int (31 : Int32))])) (fun t k => XS.iloadN X0.here hx rfl (Jvm.hb hby d8_75) rfl k) ?_
            refine own_go (B := s₁.setTop (mkF m 77 #[.val (.int ((((((((((i1 ^^^ (-1 : Int32)) &&& (i1 - (1 : Int32))).toUInt32 >>> ((16 : Int32) &&& 31).toUInt32).toInt32).toUInt32 >>> ((8 : Int32) &&& 31).toUInt32).toInt32).toUInt32 >>> ((4 : Int32) &&& 31).toUInt32).toInt32).toUInt32 >>> ((2 : Int32) &&& 31).toUInt32).toInt32)), .val (.int (31 : Int32))] [(.int (1 : Int32)), (.int ((((((((((i1 ^^^ (-1 : Int32)) &&& (i1 - (1 : Int32))).toUInt32 >>> ((16 : Int32) &&& 31).toUInt32).toInt32).toUInt32 >>> ((8 : Int32) &&& 31).toUInt32).toInt32).toUInt32 >>> ((4 : Int32) &&& 31).toUInt32).toInt32).toUInt32 >>> ((2 : Int32) &&& 31).toUInt32).toInt32)), (.int (31 : Int32))])) (fun t k => XS.iconst X0.here hx rfl (Jvm.hb hby d8_76) k) ?_
            refine own_go (B := s₁.setTop (mkF m 78 #[.val (.int ((((((((((i1 ^^^ (-1 : Int32)) &&& (i1 - (1 : Int32))).toUInt32 >>> ((16 : Int32) &&& 31).toUInt32).toInt32).toUInt32 >>> ((8 : Int32) &&& 31).toUInt32).toInt32).toUInt32 >>> ((4 : Int32) &&& 31).toUInt32).toInt32).toUInt32 >>> ((2 : Int32) &&& 31).toUInt32).toInt32)), .val (.int (31 : Int32))] [(.int ((((((((((((i1 ^^^ (-1 : Int32)) &&& (i1 - (1 : Int32))).toUInt32 >>> ((16 : Int32) &&& 31).toUInt32).toInt32).toUInt32 >>> ((8 : Int32) &&& 31).toUInt32).toInt32).toUInt32 >>> ((4 : Int32) &&& 31).toUInt32).toInt32).toUInt32 >>> ((2 : Int32) &&& 31).toUInt32).toInt32).toUInt32 >>> ((1 : Int32) &&& 31).toUInt32).toInt32)), (.int (31 : Int32))])) (fun t k => XS.iushr X0.here hx rfl (Jvm.hb hby d8_77) rfl k) ?_
            refine own_go (B := s₁.setTop (mkF m 79 #[.val (.int ((((((((((i1 ^^^ (-1 : Int32)) &&& (i1 - (1 : Int32))).toUInt32 >>> ((16 : Int32) &&& 31).toUInt32).toInt32).toUInt32 >>> ((8 : Int32) &&& 31).toUInt32).toInt32).toUInt32 >>> ((4 : Int32) &&& 31).toUInt32).toInt32).toUInt32 >>> ((2 : Int32) &&& 31).toUInt32).toInt32)), .val (.int (31 : Int32))] [(.int ((31 : Int32) + ((((((((((((i1 ^^^ (-1 : Int32)) &&& (i1 - (1 : Int32))).toUInt32 >>> ((16 : Int32) &&& 31).toUInt32).toInt32).toUInt32 >>> ((8 : Int32) &&& 31).toUInt32).toInt32).toUInt32 >>> ((4 : Int32) &&& 31).toUInt32).toInt32).toUInt32 >>> ((2 : Int32) &&& 31).toUInt32).toInt32).toUInt32 >>> ((1 : Int32) &&& 31).toUInt32).toInt32)))])) (fun t k => XS.iadd X0.here hx rfl (Jvm.hb hby d8_78) rfl k) ?_
            refine own_out X0 (v := (some (.int ((31 : Int32) + ((((((((((((i1 ^^^ (-1 : Int32)) &&& (i1 - (1 : Int32))).toUInt32 >>> ((16 : Int32) &&& 31).toUInt32).toInt32).toUInt32 >>> ((8 : Int32) &&& 31).toUInt32).toInt32).toUInt32 >>> ((4 : Int32) &&& 31).toUInt32).toInt32).toUInt32 >>> ((2 : Int32) &&& 31).toUInt32).toInt32).toUInt32 >>> ((1 : Int32) &&& 31).toUInt32).toInt32))))) (fun h => by rw [Bd.returns] at h; cases h) Bd.notSynchronized (fun fs hr => retOut X0 hx (t := .int) Bd.returns rfl (Or.inl ⟨rfl, Or.inl rfl, _, rfl⟩) (Jvm.hb hby d8_79) hr) ?_ (by decide) (by decide)
            show own_Q8 Z i1 h0 n0 (some (.int ((31 : Int32) + ((((((((((((i1 ^^^ (-1 : Int32)) &&& (i1 - (1 : Int32))).toUInt32 >>> ((16 : Int32) &&& 31).toUInt32).toInt32).toUInt32 >>> ((8 : Int32) &&& 31).toUInt32).toInt32).toUInt32 >>> ((4 : Int32) &&& 31).toUInt32).toInt32).toUInt32 >>> ((2 : Int32) &&& 31).toUInt32).toInt32).toUInt32 >>> ((1 : Int32) &&& 31).toUInt32).toInt32)))) s₁.heap _
            rw [e0]
            exact ⟨congrArg (fun z => some (Value.int z)) (by unfold own_f8; simp only [if_pos hc9_3, if_pos hc23_4, if_pos hc38_5, if_pos hc52_6, if_pos hc64_7]), N0, rfl⟩
          · refine own_go (B := s₁.setTop (mkF m 74 #[.val (.int ((((((((i1 ^^^ (-1 : Int32)) &&& (i1 - (1 : Int32))).toUInt32 >>> ((16 : Int32) &&& 31).toUInt32).toInt32).toUInt32 >>> ((8 : Int32) &&& 31).toUInt32).toInt32).toUInt32 >>> ((4 : Int32) &&& 31).toUInt32).toInt32)), .val (.int (29 : Int32))] [])) (fun t k => XS.icmpYes X0.here hx rfl (pc0 := 64) (pc' := 74) rfl (Jvm.hb hby d8_64) rfl (flt hc64_7).2.2.2 (by decide) (by decide) k) ?_
            refine own_go (B := s₁.setTop (mkF m 75 #[.val (.int ((((((((i1 ^^^ (-1 : Int32)) &&& (i1 - (1 : Int32))).toUInt32 >>> ((16 : Int32) &&& 31).toUInt32).toInt32).toUInt32 >>> ((8 : Int32) &&& 31).toUInt32).toInt32).toUInt32 >>> ((4 : Int32) &&& 31).toUInt32).toInt32)), .val (.int (29 : Int32))] [(.int (29 : Int32))])) (fun t k => XS.iloadN X0.here hx rfl (Jvm.hb hby d8_74) rfl k) ?_
            refine own_go (B := s₁.setTop (mkF m 76 #[.val (.int ((((((((i1 ^^^ (-1 : Int32)) &&& (i1 - (1 : Int32))).toUInt32 >>> ((16 : Int32) &&& 31).toUInt32).toInt32).toUInt32 >>> ((8 : Int32) &&& 31).toUInt32).toInt32).toUInt32 >>> ((4 : Int32) &&& 31).toUInt32).toInt32)), .val (.int (29 : Int32))] [(.int ((((((((i1 ^^^ (-1 : Int32)) &&& (i1 - (1 : Int32))).toUInt32 >>> ((16 : Int32) &&& 31).toUInt32).toInt32).toUInt32 >>> ((8 : Int32) &&& 31).toUInt32).toInt32).toUInt32 >>> ((4 : Int32) &&& 31).toUInt32).toInt32)), (.int (29 : Int32))])) (fun t k => XS.iloadN X0.here hx rfl (Jvm.hb hby d8_75) rfl k) ?_
            refine own_go (B := s₁.setTop (mkF m 77 #[.val (.int ((((((((i1 ^^^ (-1 : Int32)) &&& (i1 - (1 : Int32))).toUInt32 >>> ((16 : Int32) &&& 31).toUInt32).toInt32).toUInt32 >>> ((8 : Int32) &&& 31).toUInt32).toInt32).toUInt32 >>> ((4 : Int32) &&& 31).toUInt32).toInt32)), .val (.int (29 : Int32))] [(.int (1 : Int32)), (.int ((((((((i1 ^^^ (-1 : Int32)) &&& (i1 - (1 : Int32))).toUInt32 >>> ((16 : Int32) &&& 31).toUInt32).toInt32).toUInt32 >>> ((8 : Int32) &&& 31).toUInt32).toInt32).toUInt32 >>> ((4 : Int32) &&& 31).toUInt32).toInt32)), (.int (29 : Int32))])) (fun t k => XS.iconst X0.here hx rfl (Jvm.hb hby d8_76) k) ?_
            refine own_go (B := s₁.setTop (mkF m 78 #[.val (.int ((((((((i1 ^^^ (-1 : Int32)) &&& (i1 - (1 : Int32))).toUInt32 >>> ((16 : Int32) &&& 31).toUInt32).toInt32).toUInt32 >>> ((8 : Int32) &&& 31).toUInt32).toInt32).toUInt32 >>> ((4 : Int32) &&& 31).toUInt32).toInt32)), .val (.int (29 : Int32))] [(.int ((((((((((i1 ^^^ (-1 : Int32)) &&& (i1 - (1 : Int32))).toUInt32 >>> ((16 : Int32) &&& 31).toUInt32).toInt32).toUInt32 >>> ((8 : Int32) &&& 31).toUInt32).toInt32).toUInt32 >>> ((4 : Int32) &&& 31).toUInt32).toInt32).toUInt32 >>> ((1 : Int32) &&& 31).toUInt32).toInt32)), (.int (29 : Int32))])) (fun t k => XS.iushr X0.here hx rfl (Jvm.hb hby d8_77) rfl k) ?_
            refine own_go (B := s₁.setTop (mkF m 79 #[.val (.int ((((((((i1 ^^^ (-1 : Int32)) &&& (i1 - (1 : Int32))).toUInt32 >>> ((16 : Int32) &&& 31).toUInt32).toInt32).toUInt32 >>> ((8 : Int32) &&& 31).toUInt32).toInt32).toUInt32 >>> ((4 : Int32) &&& 31).toUInt32).toInt32)), .val (.int (29 : Int32))] [(.int ((29 : Int32) + ((((((((((i1 ^^^ (-1 : Int32)) &&& (i1 - (1 : Int32))).toUInt32 >>> ((16 : Int32) &&& 31).toUInt32).toInt32).toUInt32 >>> ((8 : Int32) &&& 31).toUInt32).toInt32).toUInt32 >>> ((4 : Int32) &&& 31).toUInt32).toInt32).toUInt32 >>> ((1 : Int32) &&& 31).toUInt32).toInt32)))])) (fun t k => XS.iadd X0.here hx rfl (Jvm.hb hby d8_78) rfl k) ?_
            refine own_out X0 (v := (some (.int ((29 : Int32) + ((((((((((i1 ^^^ (-1 : Int32)) &&& (i1 - (1 : Int32))).toUInt32 >>> ((16 : Int32) &&& 31).toUInt32).toInt32).toUInt32 >>> ((8 : Int32) &&& 31).toUInt32).toInt32).toUInt32 >>> ((4 : Int32) &&& 31).toUInt32).toInt32).toUInt32 >>> ((1 : Int32) &&& 31).toUInt32).toInt32))))) (fun h => by rw [Bd.returns] at h; cases h) Bd.notSynchronized (fun fs hr => retOut X0 hx (t := .int) Bd.returns rfl (Or.inl ⟨rfl, Or.inl rfl, _, rfl⟩) (Jvm.hb hby d8_79) hr) ?_ (by decide) (by decide)
            show own_Q8 Z i1 h0 n0 (some (.int ((29 : Int32) + ((((((((((i1 ^^^ (-1 : Int32)) &&& (i1 - (1 : Int32))).toUInt32 >>> ((16 : Int32) &&& 31).toUInt32).toInt32).toUInt32 >>> ((8 : Int32) &&& 31).toUInt32).toInt32).toUInt32 >>> ((4 : Int32) &&& 31).toUInt32).toInt32).toUInt32 >>> ((1 : Int32) &&& 31).toUInt32).toInt32)))) s₁.heap _
            rw [e0]
            exact ⟨congrArg (fun z => some (Value.int z)) (by unfold own_f8; simp only [if_pos hc9_3, if_pos hc23_4, if_pos hc38_5, if_pos hc52_6, if_neg hc64_7]), N0, rfl⟩
        · refine own_go (B := s₁.setTop (mkF m 62 #[.val (.int ((((((i1 ^^^ (-1 : Int32)) &&& (i1 - (1 : Int32))).toUInt32 >>> ((16 : Int32) &&& 31).toUInt32).toInt32).toUInt32 >>> ((8 : Int32) &&& 31).toUInt32).toInt32)), .val (.int (25 : Int32))] [])) (fun t k => XS.icmpYes X0.here hx rfl (pc0 := 52) (pc' := 62) rfl (Jvm.hb hby d8_52) rfl (flt hc52_6).2.2.2 (by decide) (by decide) k) ?_
          refine own_go (B := s₁.setTop (mkF m 63 #[.val (.int ((((((i1 ^^^ (-1 : Int32)) &&& (i1 - (1 : Int32))).toUInt32 >>> ((16 : Int32) &&& 31).toUInt32).toInt32).toUInt32 >>> ((8 : Int32) &&& 31).toUInt32).toInt32)), .val (.int (25 : Int32))] [(.int ((((((i1 ^^^ (-1 : Int32)) &&& (i1 - (1 : Int32))).toUInt32 >>> ((16 : Int32) &&& 31).toUInt32).toInt32).toUInt32 >>> ((8 : Int32) &&& 31).toUInt32).toInt32))])) (fun t k => XS.iloadN X0.here hx rfl (Jvm.hb hby d8_62) rfl k) ?_
          refine own_go (B := s₁.setTop (mkF m 64 #[.val (.int ((((((i1 ^^^ (-1 : Int32)) &&& (i1 - (1 : Int32))).toUInt32 >>> ((16 : Int32) &&& 31).toUInt32).toInt32).toUInt32 >>> ((8 : Int32) &&& 31).toUInt32).toInt32)), .val (.int (25 : Int32))] [(.int (4 : Int32)), (.int ((((((i1 ^^^ (-1 : Int32)) &&& (i1 - (1 : Int32))).toUInt32 >>> ((16 : Int32) &&& 31).toUInt32).toInt32).toUInt32 >>> ((8 : Int32) &&& 31).toUInt32).toInt32))])) (fun t k => XS.iconst X0.here hx rfl (Jvm.hb hby d8_63) k) ?_
          by_cases hc64_8 : (4 : Int32) < ((((((i1 ^^^ (-1 : Int32)) &&& (i1 - (1 : Int32))).toUInt32 >>> ((16 : Int32) &&& 31).toUInt32).toInt32).toUInt32 >>> ((8 : Int32) &&& 31).toUInt32).toInt32)
          · refine own_go (B := s₁.setTop (mkF m 67 #[.val (.int ((((((i1 ^^^ (-1 : Int32)) &&& (i1 - (1 : Int32))).toUInt32 >>> ((16 : Int32) &&& 31).toUInt32).toInt32).toUInt32 >>> ((8 : Int32) &&& 31).toUInt32).toInt32)), .val (.int (25 : Int32))] [])) (fun t k => XS.icmpNo X0.here hx rfl (Jvm.hb hby d8_64) rfl (tlt hc64_8).2.2.2 k) ?_
            refine own_go (B := s₁.setTop (mkF m 70 #[.val (.int ((((((i1 ^^^ (-1 : Int32)) &&& (i1 - (1 : Int32))).toUInt32 >>> ((16 : Int32) &&& 31).toUInt32).toInt32).toUInt32 >>> ((8 : Int32) &&& 31).toUInt32).toInt32)), .val (.int ((25 : Int32) + (2 : Int32)))] [])) (fun t k => XS.iinc X0.here hx rfl (Jvm.hb hby d8_67) rfl (l' := #[.val (.int ((((((i1 ^^^ (-1 : Int32)) &&& (i1 - (1 : Int32))).toUInt32 >>> ((16 : Int32) &&& 31).toUInt32).toInt32).toUInt32 >>> ((8 : Int32) &&& 31).toUInt32).toInt32)), .val (.int ((25 : Int32) + (2 : Int32)))]) rfl k) ?_
            rw [show ((25 : Int32) + (2 : Int32)) = (27 : Int32) from by decide]
            refine own_go (B := s₁.setTop (mkF m 71 #[.val (.int ((((((i1 ^^^ (-1 : Int32)) &&& (i1 - (1 : Int32))).toUInt32 >>> ((16 : Int32) &&& 31).toUInt32).toInt32).toUInt32 >>> ((8 : Int32) &&& 31).toUInt32).toInt32)), .val (.int (27 : Int32))] [(.int ((((((i1 ^^^ (-1 : Int32)) &&& (i1 - (1 : Int32))).toUInt32 >>> ((16 : Int32) &&& 31).toUInt32).toInt32).toUInt32 >>> ((8 : Int32) &&& 31).toUInt32).toInt32))])) (fun t k => XS.iloadN X0.here hx rfl (Jvm.hb hby d8_70) rfl k) ?_
            refine own_go (B := s₁.setTop (mkF m 72 #[.val (.int ((((((i1 ^^^ (-1 : Int32)) &&& (i1 - (1 : Int32))).toUInt32 >>> ((16 : Int32) &&& 31).toUInt32).toInt32).toUInt32 >>> ((8 : Int32) &&& 31).toUInt32).toInt32)), .val (.int (27 : Int32))] [(.int (2 : Int32)), (.int ((((((i1 ^^^ (-1 : Int32)) &&& (i1 - (1 : Int32))).toUInt32 >>> ((16 : Int32) &&& 31).toUInt32).toInt32).toUInt32 >>> ((8 : Int32) &&& 31).toUInt32).toInt32))])) (fun t k => XS.iconst X0.here hx rfl (Jvm.hb hby d8_71) k) ?_
            refine own_go (B := s₁.setTop (mkF m 73 #[.val (.int ((((((i1 ^^^ (-1 : Int32)) &&& (i1 - (1 : Int32))).toUInt32 >>> ((16 : Int32) &&& 31).toUInt32).toInt32).toUInt32 >>> ((8 : Int32) &&& 31).toUInt32).toInt32)), .val (.int (27 : Int32))] [(.int ((((((((i1 ^^^ (-1 : Int32)) &&& (i1 - (1 : Int32))).toUInt32 >>> ((16 : Int32) &&& 31).toUInt32).toInt32).toUInt32 >>> ((8 : Int32) &&& 31).toUInt32).toInt32).toUInt32 >>> ((2 : Int32) &&& 31).toUInt32).toInt32))])) (fun t k => XS.iushr X0.here hx rfl (Jvm.hb hby d8_72) rfl k) ?_
            refine own_go (B := s₁.setTop (mkF m 74 #[.val (.int ((((((((i1 ^^^ (-1 : Int32)) &&& (i1 - (1 : Int32))).toUInt32 >>> ((16 : Int32) &&& 31).toUInt32).toInt32).toUInt32 >>> ((8 : Int32) &&& 31).toUInt32).toInt32).toUInt32 >>> ((2 : Int32) &&& 31).toUInt32).toInt32)), .val (.int (27 : Int32))] [])) (fun t k => XS.istoreN X0.here hx rfl (Jvm.hb hby d8_73) rfl (l' := #[.val (.int ((((((((i1 ^^^ (-1 : Int32)) &&& (i1 - (1 : Int32))).toUInt32 >>> ((16 : Int32) &&& 31).toUInt32).toInt32).toUInt32 >>> ((8 : Int32) &&& 31).toUInt32).toInt32).toUInt32 >>> ((2 : Int32) &&& 31).toUInt32).toInt32)), .val (.int (27 : Int32))]) rfl k) ?_
            refine own_go (B := s₁.setTop (mkF m 75 #[.val (.int ((((((((i1 ^^^ (-1 : Int32)) &&& (i1 - (1 : Int32))).toUInt32 >>> ((16 : Int32) &&& 31).toUInt32).toInt32).toUInt32 >>> ((8 : Int32) &&& 31).toUInt32).toInt32).toUInt32 >>> ((2 : Int32) &&& 31).toUInt32).toInt32)), .val (.int (27 : Int32))] [(.int (27 : Int32))])) (fun t k => XS.iloadN X0.here hx rfl (Jvm.hb hby d8_74) rfl k) ?_
            refine own_go (B := s₁.setTop (mkF m 76 #[.val (.int ((((((((i1 ^^^ (-1 : Int32)) &&& (i1 - (1 : Int32))).toUInt32 >>> ((16 : Int32) &&& 31).toUInt32).toInt32).toUInt32 >>> ((8 : Int32) &&& 31).toUInt32).toInt32).toUInt32 >>> ((2 : Int32) &&& 31).toUInt32).toInt32)), .val (.int (27 : Int32))] [(.int ((((((((i1 ^^^ (-1 : Int32)) &&& (i1 - (1 : Int32))).toUInt32 >>> ((16 : Int32) &&& 31).toUInt32).toInt32).toUInt32 >>> ((8 : Int32) &&& 31).toUInt32).toInt32).toUInt32 >>> ((2 : Int32) &&& 31).toUInt32).toInt32)), (.int (27 : Int32))])) (fun t k => XS.iloadN X0.here hx rfl (Jvm.hb hby d8_75) rfl k) ?_
            refine own_go (B := s₁.setTop (mkF m 77 #[.val (.int ((((((((i1 ^^^ (-1 : Int32)) &&& (i1 - (1 : Int32))).toUInt32 >>> ((16 : Int32) &&& 31).toUInt32).toInt32).toUInt32 >>> ((8 : Int32) &&& 31).toUInt32).toInt32).toUInt32 >>> ((2 : Int32) &&& 31).toUInt32).toInt32)), .val (.int (27 : Int32))] [(.int (1 : Int32)), (.int ((((((((i1 ^^^ (-1 : Int32)) &&& (i1 - (1 : Int32))).toUInt32 >>> ((16 : Int32) &&& 31).toUInt32).toInt32).toUInt32 >>> ((8 : Int32) &&& 31).toUInt32).toInt32).toUInt32 >>> ((2 : Int32) &&& 31).toUInt32).toInt32)), (.int (27 : Int32))])) (fun t k => XS.iconst X0.here hx rfl (Jvm.hb hby d8_76) k) ?_
            refine own_go (B := s₁.setTop (mkF m 78 #[.val (.int ((((((((i1 ^^^ (-1 : Int32)) &&& (i1 - (1 : Int32))).toUInt32 >>> ((16 : Int32) &&& 31).toUInt32).toInt32).toUInt32 >>> ((8 : Int32) &&& 31).toUInt32).toInt32).toUInt32 >>> ((2 : Int32) &&& 31).toUInt32).toInt32)), .val (.int (27 : Int32))] [(.int ((((((((((i1 ^^^ (-1 : Int32)) &&& (i1 - (1 : Int32))).toUInt32 >>> ((16 : Int32) &&& 31).toUInt32).toInt32).toUInt32 >>> ((8 : Int32) &&& 31).toUInt32).toInt32).toUInt32 >>> ((2 : Int32) &&& 31).toUInt32).toInt32).toUInt32 >>> ((1 : Int32) &&& 31).toUInt32).toInt32)), (.int (27 : Int32))])) (fun t k => XS.iushr X0.here hx rfl (Jvm.hb hby d8_77) rfl k) ?_
            refine own_go (B := s₁.setTop (mkF m 79 #[.val (.int ((((((((i1 ^^^ (-1 : Int32)) &&& (i1 - (1 : Int32))).toUInt32 >>> ((16 : Int32) &&& 31).toUInt32).toInt32).toUInt32 >>> ((8 : Int32) &&& 31).toUInt32).toInt32).toUInt32 >>> ((2 : Int32) &&& 31).toUInt32).toInt32)), .val (.int (27 : Int32))] [(.int ((27 : Int32) + ((((((((((i1 ^^^ (-1 : Int32)) &&& (i1 - (1 : Int32))).toUInt32 >>> ((16 : Int32) &&& 31).toUInt32).toInt32).toUInt32 >>> ((8 : Int32) &&& 31).toUInt32).toInt32).toUInt32 >>> ((2 : Int32) &&& 31).toUInt32).toInt32).toUInt32 >>> ((1 : Int32) &&& 31).toUInt32).toInt32)))])) (fun t k => XS.iadd X0.here hx rfl (Jvm.hb hby d8_78) rfl k) ?_
            refine own_out X0 (v := (some (.int ((27 : Int32) + ((((((((((i1 ^^^ (-1 : Int32)) &&& (i1 - (1 : Int32))).toUInt32 >>> ((16 : Int32) &&& 31).toUInt32).toInt32).toUInt32 >>> ((8 : Int32) &&& 31).toUInt32).toInt32).toUInt32 >>> ((2 : Int32) &&& 31).toUInt32).toInt32).toUInt32 >>> ((1 : Int32) &&& 31).toUInt32).toInt32))))) (fun h => by rw [Bd.returns] at h; cases h) Bd.notSynchronized (fun fs hr => retOut X0 hx (t := .int) Bd.returns rfl (Or.inl ⟨rfl, Or.inl rfl, _, rfl⟩) (Jvm.hb hby d8_79) hr) ?_ (by decide) (by decide)
            show own_Q8 Z i1 h0 n0 (some (.int ((27 : Int32) + ((((((((((i1 ^^^ (-1 : Int32)) &&& (i1 - (1 : Int32))).toUInt32 >>> ((16 : Int32) &&& 31).toUInt32).toInt32).toUInt32 >>> ((8 : Int32) &&& 31).toUInt32).toInt32).toUInt32 >>> ((2 : Int32) &&& 31).toUInt32).toInt32).toUInt32 >>> ((1 : Int32) &&& 31).toUInt32).toInt32)))) s₁.heap _
            rw [e0]
            exact ⟨congrArg (fun z => some (Value.int z)) (by unfold own_f8; simp only [if_pos hc9_3, if_pos hc23_4, if_pos hc38_5, if_neg hc52_6, if_pos hc64_8]), N0, rfl⟩
          · refine own_go (B := s₁.setTop (mkF m 74 #[.val (.int ((((((i1 ^^^ (-1 : Int32)) &&& (i1 - (1 : Int32))).toUInt32 >>> ((16 : Int32) &&& 31).toUInt32).toInt32).toUInt32 >>> ((8 : Int32) &&& 31).toUInt32).toInt32)), .val (.int (25 : Int32))] [])) (fun t k => XS.icmpYes X0.here hx rfl (pc0 := 64) (pc' := 74) rfl (Jvm.hb hby d8_64) rfl (flt hc64_8).2.2.2 (by decide) (by decide) k) ?_
            refine own_go (B := s₁.setTop (mkF m 75 #[.val (.int ((((((i1 ^^^ (-1 : Int32)) &&& (i1 - (1 : Int32))).toUInt32 >>> ((16 : Int32) &&& 31).toUInt32).toInt32).toUInt32 >>> ((8 : Int32) &&& 31).toUInt32).toInt32)), .val (.int (25 : Int32))] [(.int (25 : Int32))])) (fun t k => XS.iloadN X0.here hx rfl (Jvm.hb hby d8_74) rfl k) ?_
            refine own_go (B := s₁.setTop (mkF m 76 #[.val (.int ((((((i1 ^^^ (-1 : Int32)) &&& (i1 - (1 : Int32))).toUInt32 >>> ((16 : Int32) &&& 31).toUInt32).toInt32).toUInt32 >>> ((8 : Int32) &&& 31).toUInt32).toInt32)), .val (.int (25 : Int32))] [(.int ((((((i1 ^^^ (-1 : Int32)) &&& (i1 - (1 : Int32))).toUInt32 >>> ((16 : Int32) &&& 31).toUInt32).toInt32).toUInt32 >>> ((8 : Int32) &&& 31).toUInt32).toInt32)), (.int (25 : Int32))])) (fun t k => XS.iloadN X0.here hx rfl (Jvm.hb hby d8_75) rfl k) ?_
            refine own_go (B := s₁.setTop (mkF m 77 #[.val (.int ((((((i1 ^^^ (-1 : Int32)) &&& (i1 - (1 : Int32))).toUInt32 >>> ((16 : Int32) &&& 31).toUInt32).toInt32).toUInt32 >>> ((8 : Int32) &&& 31).toUInt32).toInt32)), .val (.int (25 : Int32))] [(.int (1 : Int32)), (.int ((((((i1 ^^^ (-1 : Int32)) &&& (i1 - (1 : Int32))).toUInt32 >>> ((16 : Int32) &&& 31).toUInt32).toInt32).toUInt32 >>> ((8 : Int32) &&& 31).toUInt32).toInt32)), (.int (25 : Int32))])) (fun t k => XS.iconst X0.here hx rfl (Jvm.hb hby d8_76) k) ?_
            refine own_go (B := s₁.setTop (mkF m 78 #[.val (.int ((((((i1 ^^^ (-1 : Int32)) &&& (i1 - (1 : Int32))).toUInt32 >>> ((16 : Int32) &&& 31).toUInt32).toInt32).toUInt32 >>> ((8 : Int32) &&& 31).toUInt32).toInt32)), .val (.int (25 : Int32))] [(.int ((((((((i1 ^^^ (-1 : Int32)) &&& (i1 - (1 : Int32))).toUInt32 >>> ((16 : Int32) &&& 31).toUInt32).toInt32).toUInt32 >>> ((8 : Int32) &&& 31).toUInt32).toInt32).toUInt32 >>> ((1 : Int32) &&& 31).toUInt32).toInt32)), (.int (25 : Int32))])) (fun t k => XS.iushr X0.here hx rfl (Jvm.hb hby d8_77) rfl k) ?_
            refine own_go (B := s₁.setTop (mkF m 79 #[.val (.int ((((((i1 ^^^ (-1 : Int32)) &&& (i1 - (1 : Int32))).toUInt32 >>> ((16 : Int32) &&& 31).toUInt32).toInt32).toUInt32 >>> ((8 : Int32) &&& 31).toUInt32).toInt32)), .val (.int (25 : Int32))] [(.int ((25 : Int32) + ((((((((i1 ^^^ (-1 : Int32)) &&& (i1 - (1 : Int32))).toUInt32 >>> ((16 : Int32) &&& 31).toUInt32).toInt32).toUInt32 >>> ((8 : Int32) &&& 31).toUInt32).toInt32).toUInt32 >>> ((1 : Int32) &&& 31).toUInt32).toInt32)))])) (fun t k => XS.iadd X0.here hx rfl (Jvm.hb hby d8_78) rfl k) ?_
            refine own_out X0 (v := (some (.int ((25 : Int32) + ((((((((i1 ^^^ (-1 : Int32)) &&& (i1 - (1 : Int32))).toUInt32 >>> ((16 : Int32) &&& 31).toUInt32).toInt32).toUInt32 >>> ((8 : Int32) &&& 31).toUInt32).toInt32).toUInt32 >>> ((1 : Int32) &&& 31).toUInt32).toInt32))))) (fun h => by rw [Bd.returns] at h; cases h) Bd.notSynchronized (fun fs hr => retOut X0 hx (t := .int) Bd.returns rfl (Or.inl ⟨rfl, Or.inl rfl, _, rfl⟩) (Jvm.hb hby d8_79) hr) ?_ (by decide) (by decide)
            show own_Q8 Z i1 h0 n0 (some (.int ((25 : Int32) + ((((((((i1 ^^^ (-1 : Int32)) &&& (i1 - (1 : Int32))).toUInt32 >>> ((16 : Int32) &&& 31).toUInt32).toInt32).toUInt32 >>> ((8 : Int32) &&& 31).toUInt32).toInt32).toUInt32 >>> ((1 : Int32) &&& 31).toUInt32).toInt32)))) s₁.heap _
            rw [e0]
            exact ⟨congrArg (fun z => some (Value.int z)) (by unfold own_f8; simp only [if_pos hc9_3, if_pos hc23_4, if_pos hc38_5, if_neg hc52_6, if_neg hc64_8]), N0, rfl⟩
      · refine own_go (B := s₁.setTop (mkF m 49 #[.val (.int ((((i1 ^^^ (-1 : Int32)) &&& (i1 - (1 : Int32))).toUInt32 >>> ((16 : Int32) &&& 31).toUInt32).toInt32)), .val (.int (17 : Int32))] [])) (fun t k => XS.icmpYes X0.here hx rfl (pc0 := 38) (pc' := 49) rfl (Jvm.hb hby d8_38) rfl (flt hc38_5).2.2.2 (by decide) (by decide) k) ?_
        refine own_go (B := s₁.setTop (mkF m 50 #[.val (.int ((((i1 ^^^ (-1 : Int32)) &&& (i1 - (1 : Int32))).toUInt32 >>> ((16 : Int32) &&& 31).toUInt32).toInt32)), .val (.int (17 : Int32))] [(.int ((((i1 ^^^ (-1 : Int32)) &&& (i1 - (1 : Int32))).toUInt32 >>> ((16 : Int32) &&& 31).toUInt32).toInt32))])) (fun t k => XS.iloadN X0.here hx rfl (Jvm.hb hby d8_49) rfl k) ?_
        refine own_go (B := s₁.setTop (mkF m 52 #[.val (.int ((((i1 ^^^ (-1 : Int32)) &&& (i1 - (1 : Int32))).toUInt32 >>> ((16 : Int32) &&& 31).toUInt32).toInt32)), .val (.int (17 : Int32))] [(.int (16 : Int32)), (.int ((((i1 ^^^ (-1 : Int32)) &&& (i1 - (1 : Int32))).toUInt32 >>> ((16 : Int32) &&& 31).toUInt32).toInt32))])) (fun t k => XS.bipush X0.here hx rfl (Jvm.hb hby d8_50) k) ?_
        by_cases hc52_9 : (16 : Int32) < ((((i1 ^^^ (-1 : Int32)) &&& (i1 - (1 : Int32))).toUInt32 >>> ((16 : Int32) &&& 31).toUInt32).toInt32)
        · refine own_go (B := s₁.setTop (mkF m 55 #[.val (.int ((((i1 ^^^ (-1 : Int32)) &&& (i1 - (1 : Int32))).toUInt32 >>> ((16 : Int32) &&& 31).toUInt32).toInt32)), .val (.int (17 : Int32))] [])) (fun t k => XS.icmpNo X0.here hx rfl (Jvm.hb hby d8_52) rfl (tlt hc52_9).2.2.2 k) ?_
          refine own_go (B := s₁.setTop (mkF m 58 #[.val (.int ((((i1 ^^^ (-1 : Int32)) &&& (i1 - (1 : Int32))).toUInt32 >>> ((16 : Int32) &&& 31).toUInt32).toInt32)), .val (.int ((17 : Int32) + (4 : Int32)))] [])) (fun t k => XS.iinc X0.here hx rfl (Jvm.hb hby d8_55) rfl (l' := #[.val (.int ((((i1 ^^^ (-1 : Int32)) &&& (i1 - (1 : Int32))).toUInt32 >>> ((16 : Int32) &&& 31).toUInt32).toInt32)), .val (.int ((17 : Int32) + (4 : Int32)))]) rfl k) ?_
          rw [show ((17 : Int32) + (4 : Int32)) = (21 : Int32) from by decide]
          refine own_go (B := s₁.setTop (mkF m 59 #[.val (.int ((((i1 ^^^ (-1 : Int32)) &&& (i1 - (1 : Int32))).toUInt32 >>> ((16 : Int32) &&& 31).toUInt32).toInt32)), .val (.int (21 : Int32))] [(.int ((((i1 ^^^ (-1 : Int32)) &&& (i1 - (1 : Int32))).toUInt32 >>> ((16 : Int32) &&& 31).toUInt32).toInt32))])) (fun t k => XS.iloadN X0.here hx rfl (Jvm.hb hby d8_58) rfl k) ?_
          refine own_go (B := s₁.setTop (mkF m 60 #[.val (.int ((((i1 ^^^ (-1 : Int32)) &&& (i1 - (1 : Int32))).toUInt32 >>> ((16 : Int32) &&& 31).toUInt32).toInt32)), .val (.int (21 : Int32))] [(.int (4 : Int32)), (.int ((((i1 ^^^ (-1 : Int32)) &&& (i1 - (1 : Int32))).toUInt32 >>> ((16 : Int32) &&& 31).toUInt32).toInt32))])) (fun t k => XS.iconst X0.here hx rfl (Jvm.hb hby d8_59) k) ?_
          refine own_go (B := s₁.setTop (mkF m 61 #[.val (.int ((((i1 ^^^ (-1 : Int32)) &&& (i1 - (1 : Int32))).toUInt32 >>> ((16 : Int32) &&& 31).toUInt32).toInt32)), .val (.int (21 : Int32))] [(.int ((((((i1 ^^^ (-1 : Int32)) &&& (i1 - (1 : Int32))).toUInt32 >>> ((16 : Int32) &&& 31).toUInt32).toInt32).toUInt32 >>> ((4 : Int32) &&& 31).toUInt32).toInt32))])) (fun t k => XS.iushr X0.here hx rfl (Jvm.hb hby d8_60) rfl k) ?_
          refine own_go (B := s₁.setTop (mkF m 62 #[.val (.int ((((((i1 ^^^ (-1 : Int32)) &&& (i1 - (1 : Int32))).toUInt32 >>> ((16 : Int32) &&& 31).toUInt32).toInt32).toUInt32 >>> ((4 : Int32) &&& 31).toUInt32).toInt32)), .val (.int (21 : Int32))] [])) (fun t k => XS.istoreN X0.here hx rfl (Jvm.hb hby d8_61) rfl (l' := #[.val (.int ((((((i1 ^^^ (-1 : Int32)) &&& (i1 - (1 : Int32))).toUInt32 >>> ((16 : Int32) &&& 31).toUInt32).toInt32).toUInt32 >>> ((4 : Int32) &&& 31).toUInt32).toInt32)), .val (.int (21 : Int32))]) rfl k) ?_
          refine own_go (B := s₁.setTop (mkF m 63 #[.val (.int ((((((i1 ^^^ (-1 : Int32)) &&& (i1 - (1 : Int32))).toUInt32 >>> ((16 : Int32) &&& 31).toUInt32).toInt32).toUInt32 >>> ((4 : Int32) &&& 31).toUInt32).toInt32)), .val (.int (21 : Int32))] [(.int ((((((i1 ^^^ (-1 : Int32)) &&& (i1 - (1 : Int32))).toUInt32 >>> ((16 : Int32) &&& 31).toUInt32).toInt32).toUInt32 >>> ((4 : Int32) &&& 31).toUInt32).toInt32))])) (fun t k => XS.iloadN X0.here hx rfl (Jvm.hb hby d8_62) rfl k) ?_
          refine own_go (B := s₁.setTop (mkF m 64 #[.val (.int ((((((i1 ^^^ (-1 : Int32)) &&& (i1 - (1 : Int32))).toUInt32 >>> ((16 : Int32) &&& 31).toUInt32).toInt32).toUInt32 >>> ((4 : Int32) &&& 31).toUInt32).toInt32)), .val (.int (21 : Int32))] [(.int (4 : Int32)), (.int ((((((i1 ^^^ (-1 : Int32)) &&& (i1 - (1 : Int32))).toUInt32 >>> ((16 : Int32) &&& 31).toUInt32).toInt32).toUInt32 >>> ((4 : Int32) &&& 31).toUInt32).toInt32))])) (fun t k => XS.iconst X0.here hx rfl (Jvm.hb hby d8_63) k) ?_
          by_cases hc64_10 : (4 : Int32) < ((((((i1 ^^^ (-1 : Int32)) &&& (i1 - (1 : Int32))).toUInt32 >>> ((16 : Int32) &&& 31).toUInt32).toInt32).toUInt32 >>> ((4 : Int32) &&& 31).toUInt32).toInt32)
          · refine own_go (B := s₁.setTop (mkF m 67 #[.val (.int ((((((i1 ^^^ (-1 : Int32)) &&& (i1 - (1 : Int32))).toUInt32 >>> ((16 : Int32) &&& 31).toUInt32).toInt32).toUInt32 >>> ((4 : Int32) &&& 31).toUInt32).toInt32)), .val (.int (21 : Int32))] [])) (fun t k => XS.icmpNo X0.here hx rfl (Jvm.hb hby d8_64) rfl (tlt hc64_10).2.2.2 k) ?_
            refine own_go (B := s₁.setTop (mkF m 70 #[.val (.int ((((((i1 ^^^ (-1 : Int32)) &&& (i1 - (1 : Int32))).toUInt32 >>> ((16 : Int32) &&& 31).toUInt32).toInt32).toUInt32 >>> ((4 : Int32) &&& 31).toUInt32).toInt32)), .val (.int ((21 : Int32) + (2 : Int32)))] [])) (fun t k => XS.iinc X0.here hx rfl (Jvm.hb hby d8_67) rfl (l' := #[.val (.int ((((((i1 ^^^ (-1 : Int32)) &&& (i1 - (1 : Int32))).toUInt32 >>> ((16 : Int32) &&& 31).toUInt32).toInt32).toUInt32 >>> ((4 : Int32) &&& 31).toUInt32).toInt32)), .val (.int ((21 : Int32) + (2 : Int32)))]) rfl k) ?_
            rw [show ((21 : Int32) + (2 : Int32)) = (23 : Int32) from by decide]
            refine own_go (B := s₁.setTop (mkF m 71 #[.val (.int ((((((i1 ^^^ (-1 : Int32)) &&& (i1 - (1 : Int32))).toUInt32 >>> ((16 : Int32) &&& 31).toUInt32).toInt32).toUInt32 >>> ((4 : Int32) &&& 31).toUInt32).toInt32)), .val (.int (23 : Int32))] [(.int ((((((i1 ^^^ (-1 : Int32)) &&& (i1 - (1 : Int32))).toUInt32 >>> ((16 : Int32) &&& 31).toUInt32).toInt32).toUInt32 >>> ((4 : Int32) &&& 31).toUInt32).toInt32))])) (fun t k => XS.iloadN X0.here hx rfl (Jvm.hb hby d8_70) rfl k) ?_
            refine own_go (B := s₁.setTop (mkF m 72 #[.val (.int ((((((i1 ^^^ (-1 : Int32)) &&& (i1 - (1 : Int32))).toUInt32 >>> ((16 : Int32) &&& 31).toUInt32).toInt32).toUInt32 >>> ((4 : Int32) &&& 31).toUInt32).toInt32)), .val (.int (23 : Int32))] [(.int (2 : Int32)), (.int ((((((i1 ^^^ (-1 : Int32)) &&& (i1 - (1 : Int32))).toUInt32 >>> ((16 : Int32) &&& 31).toUInt32).toInt32).toUInt32 >>> ((4 : Int32) &&& 31).toUInt32).toInt32))])) (fun t k => XS.iconst X0.here hx rfl (Jvm.hb hby d8_71) k) ?_
            refine own_go (B := s₁.setTop (mkF m 73 #[.val (.int ((((((i1 ^^^ (-1 : Int32)) &&& (i1 - (1 : Int32))).toUInt32 >>> ((16 : Int32) &&& 31).toUInt32).toInt32).toUInt32 >>> ((4 : Int32) &&& 31).toUInt32).toInt32)), .val (.int (23 : Int32))] [(.int ((((((((i1 ^^^ (-1 : Int32)) &&& (i1 - (1 : Int32))).toUInt32 >>> ((16 : Int32) &&& 31).toUInt32).toInt32).toUInt32 >>> ((4 : Int32) &&& 31).toUInt32).toInt32).toUInt32 >>> ((2 : Int32) &&& 31).toUInt32).toInt32))])) (fun t k => XS.iushr X0.here hx rfl (Jvm.hb hby d8_72) rfl k) ?_
            refine own_go (B := s₁.setTop (mkF m 74 #[.val (.int ((((((((i1 ^^^ (-1 : Int32)) &&& (i1 - (1 : Int32))).toUInt32 >>> ((16 : Int32) &&& 31).toUInt32).toInt32).toUInt32 >>> ((4 : Int32) &&& 31).toUInt32).toInt32).toUInt32 >>> ((2 : Int32) &&& 31).toUInt32).toInt32)), .val (.int (23 : Int32))] [])) (fun t k => XS.istoreN X0.here hx rfl (Jvm.hb hby d8_73) rfl (l' := #[.val (.int ((((((((i1 ^^^ (-1 : Int32)) &&& (i1 - (1 : Int32))).toUInt32 >>> ((16 : Int32) &&& 31).toUInt32).toInt32).toUInt32 >>> ((4 : Int32) &&& 31).toUInt32).toInt32).toUInt32 >>> ((2 : Int32) &&& 31).toUInt32).toInt32)), .val (.int (23 : Int32))]) rfl k) ?_
            refine own_go (B := s₁.setTop (mkF m 75 #[.val (.int ((((((((i1 ^^^ (-1 : Int32)) &&& (i1 - (1 : Int32))).toUInt32 >>> ((16 : Int32) &&& 31).toUInt32).toInt32).toUInt32 >>> ((4 : Int32) &&& 31).toUInt32).toInt32).toUInt32 >>> ((2 : Int32) &&& 31).toUInt32).toInt32)), .val (.int (23 : Int32))] [(.int (23 : Int32))])) (fun t k => XS.iloadN X0.here hx rfl (Jvm.hb hby d8_74) rfl k) ?_
            refine own_go (B := s₁.setTop (mkF m 76 #[.val (.int ((((((((i1 ^^^ (-1 : Int32)) &&& (i1 - (1 : Int32))).toUInt32 >>> ((16 : Int32) &&& 31).toUInt32).toInt32).toUInt32 >>> ((4 : Int32) &&& 31).toUInt32).toInt32).toUInt32 >>> ((2 : Int32) &&& 31).toUInt32).toInt32)), .val (.int (23 : Int32))] [(.int ((((((((i1 ^^^ (-1 : Int32)) &&& (i1 - (1 : Int32))).toUInt32 >>> ((16 : Int32) &&& 31).toUInt32).toInt32).toUInt32 >>> ((4 : Int32) &&& 31).toUInt32).toInt32).toUInt32 >>> ((2 : Int32) &&& 31).toUInt32).toInt32)), (.int (23 : Int32))])) (fun t k => XS.iloadN X0.here hx rfl (Jvm.hb hby d8_75) rfl k) ?_
            refine own_go (B := s₁.setTop (mkF m 77 #[.val (.int ((((((((i1 ^^^ (-1 : Int32)) &&& (i1 - (1 : Int32))).toUInt32 >>> ((16 : Int32) &&& 31).toUInt32).toInt32).toUInt32 >>> ((4 : Int32) &&& 31).toUInt32).toInt32).toUInt32 >>> ((2 : Int32) &&& 31).toUInt32).toInt32)), .val (.int (23 : Int32))] [(.int (1 : Int32)), (.int ((((((((i1 ^^^ (-1 : Int32)) &&& (i1 - (1 : Int32))).toUInt32 >>> ((16 : Int32) &&& 31).toUInt32).toInt32).toUInt32 >>> ((4 : Int32) &&& 31).toUInt32).toInt32).toUInt32 >>> ((2 : Int32) &&& 31).toUInt32).toInt32)), (.int (23 : Int32))])) (fun t k => XS.iconst X0.here hx rfl (Jvm.hb hby d8_76) k) ?_
            refine own_go (B := s₁.setTop (mkF m 78 #[.val (.int ((((((((i1 ^^^ (-1 : Int32)) &&& (i1 - (1 : Int32))).toUInt32 >>> ((16 : Int32) &&& 31).toUInt32).toInt32).toUInt32 >>> ((4 : Int32) &&& 31).toUInt32).toInt32).toUInt32 >>> ((2 : Int32) &&& 31).toUInt32).toInt32)), .val (.int (23 : Int32))] [(.int ((((((((((i1 ^^^ (-1 : Int32)) &&& (i1 - (1 : Int32))).toUInt32 >>> ((16 : Int32) &&& 31).toUInt32).toInt32).toUInt32 >>> ((4 : Int32) &&& 31).toUInt32).toInt32).toUInt32 >>> ((2 : Int32) &&& 31).toUInt32).toInt32).toUInt32 >>> ((1 : Int32) &&& 31).toUInt32).toInt32)), (.int (23 : Int32))])) (fun t k => XS.iushr X0.here hx rfl (Jvm.hb hby d8_77) rfl k) ?_
            refine own_go (B := s₁.setTop (mkF m 79 #[.val (.int ((((((((i1 ^^^ (-1 : Int32)) &&& (i1 - (1 : Int32))).toUInt32 >>> ((16 : Int32) &&& 31).toUInt32).toInt32).toUInt32 >>> ((4 : Int32) &&& 31).toUInt32).toInt32).toUInt32 >>> ((2 : Int32) &&& 31).toUInt32).toInt32)), .val (.int (23 : Int32))] [(.int ((23 : Int32) + ((((((((((i1 ^^^ (-1 : Int32)) &&& (i1 - (1 : Int32))).toUInt32 >>> ((16 : Int32) &&& 31).toUInt32).toInt32).toUInt32 >>> ((4 : Int32) &&& 31).toUInt32).toInt32).toUInt32 >>> ((2 : Int32) &&& 31).toUInt32).toInt32).toUInt32 >>> ((1 : Int32) &&& 31).toUInt32).toInt32)))])) (fun t k => XS.iadd X0.here hx rfl (Jvm.hb hby d8_78) rfl k) ?_
            refine own_out X0 (v := (some (.int ((23 : Int32) + ((((((((((i1 ^^^ (-1 : Int32)) &&& (i1 - (1 : Int32))).toUInt32 >>> ((16 : Int32) &&& 31).toUInt32).toInt32).toUInt32 >>> ((4 : Int32) &&& 31).toUInt32).toInt32).toUInt32 >>> ((2 : Int32) &&& 31).toUInt32).toInt32).toUInt32 >>> ((1 : Int32) &&& 31).toUInt32).toInt32))))) (fun h => by rw [Bd.returns] at h; cases h) Bd.notSynchronized (fun fs hr => retOut X0 hx (t := .int) Bd.returns rfl (Or.inl ⟨rfl, Or.inl rfl, _, rfl⟩) (Jvm.hb hby d8_79) hr) ?_ (by decide) (by decide)
            show own_Q8 Z i1 h0 n0 (some (.int ((23 : Int32) + ((((((((((i1 ^^^ (-1 : Int32)) &&& (i1 - (1 : Int32))).toUInt32 >>> ((16 : Int32) &&& 31).toUInt32).toInt32).toUInt32 >>> ((4 : Int32) &&& 31).toUInt32).toInt32).toUInt32 >>> ((2 : Int32) &&& 31).toUInt32).toInt32).toUInt32 >>> ((1 : Int32) &&& 31).toUInt32).toInt32)))) s₁.heap _
            rw [e0]
            exact ⟨congrArg (fun z => some (Value.int z)) (by unfold own_f8; simp only [if_pos hc9_3, if_pos hc23_4, if_neg hc38_5, if_pos hc52_9, if_pos hc64_10]), N0, rfl⟩
          · refine own_go (B := s₁.setTop (mkF m 74 #[.val (.int ((((((i1 ^^^ (-1 : Int32)) &&& (i1 - (1 : Int32))).toUInt32 >>> ((16 : Int32) &&& 31).toUInt32).toInt32).toUInt32 >>> ((4 : Int32) &&& 31).toUInt32).toInt32)), .val (.int (21 : Int32))] [])) (fun t k => XS.icmpYes X0.here hx rfl (pc0 := 64) (pc' := 74) rfl (Jvm.hb hby d8_64) rfl (flt hc64_10).2.2.2 (by decide) (by decide) k) ?_
            refine own_go (B := s₁.setTop (mkF m 75 #[.val (.int ((((((i1 ^^^ (-1 : Int32)) &&& (i1 - (1 : Int32))).toUInt32 >>> ((16 : Int32) &&& 31).toUInt32).toInt32).toUInt32 >>> ((4 : Int32) &&& 31).toUInt32).toInt32)), .val (.int (21 : Int32))] [(.int (21 : Int32))])) (fun t k => XS.iloadN X0.here hx rfl (Jvm.hb hby d8_74) rfl k) ?_
            refine own_go (B := s₁.setTop (mkF m 76 #[.val (.int ((((((i1 ^^^ (-1 : Int32)) &&& (i1 - (1 : Int32))).toUInt32 >>> ((16 : Int32) &&& 31).toUInt32).toInt32).toUInt32 >>> ((4 : Int32) &&& 31).toUInt32).toInt32)), .val (.int (21 : Int32))] [(.int ((((((i1 ^^^ (-1 : Int32)) &&& (i1 - (1 : Int32))).toUInt32 >>> ((16 : Int32) &&& 31).toUInt32).toInt32).toUInt32 >>> ((4 : Int32) &&& 31).toUInt32).toInt32)), (.int (21 : Int32))])) (fun t k => XS.iloadN X0.here hx rfl (Jvm.hb hby d8_75) rfl k) ?_
            refine own_go (B := s₁.setTop (mkF m 77 #[.val (.int ((((((i1 ^^^ (-1 : Int32)) &&& (i1 - (1 : Int32))).toUInt32 >>> ((16 : Int32) &&& 31).toUInt32).toInt32).toUInt32 >>> ((4 : Int32) &&& 31).toUInt32).toInt32)), .val (.int (21 : Int32))] [(.int (1 : Int32)), (.int ((((((i1 ^^^ (-1 : Int32)) &&& (i1 - (1 : Int32))).toUInt32 >>> ((16 : Int32) &&& 31).toUInt32).toInt32).toUInt32 >>> ((4 : Int32) &&& 31).toUInt32).toInt32)), (.int (21 : Int32))])) (fun t k => XS.iconst X0.here hx rfl (Jvm.hb hby d8_76) k) ?_
            refine own_go (B := s₁.setTop (mkF m 78 #[.val (.int ((((((i1 ^^^ (-1 : Int32)) &&& (i1 - (1 : Int32))).toUInt32 >>> ((16 : Int32) &&& 31).toUInt32).toInt32).toUInt32 >>> ((4 : Int32) &&& 31).toUInt32).toInt32)), .val (.int (21 : Int32))] [(.int ((((((((i1 ^^^ (-1 : Int32)) &&& (i1 - (1 : Int32))).toUInt32 >>> ((16 : Int32) &&& 31).toUInt32).toInt32).toUInt32 >>> ((4 : Int32) &&& 31).toUInt32).toInt32).toUInt32 >>> ((1 : Int32) &&& 31).toUInt32).toInt32)), (.int (21 : Int32))])) (fun t k => XS.iushr X0.here hx rfl (Jvm.hb hby d8_77) rfl k) ?_
            refine own_go (B := s₁.setTop (mkF m 79 #[.val (.int ((((((i1 ^^^ (-1 : Int32)) &&& (i1 - (1 : Int32))).toUInt32 >>> ((16 : Int32) &&& 31).toUInt32).toInt32).toUInt32 >>> ((4 : Int32) &&& 31).toUInt32).toInt32)), .val (.int (21 : Int32))] [(.int ((21 : Int32) + ((((((((i1 ^^^ (-1 : Int32)) &&& (i1 - (1 : Int32))).toUInt32 >>> ((16 : Int32) &&& 31).toUInt32).toInt32).toUInt32 >>> ((4 : Int32) &&& 31).toUInt32).toInt32).toUInt32 >>> ((1 : Int32) &&& 31).toUInt32).toInt32)))])) (fun t k => XS.iadd X0.here hx rfl (Jvm.hb hby d8_78) rfl k) ?_
            refine own_out X0 (v := (some (.int ((21 : Int32) + ((((((((i1 ^^^ (-1 : Int32)) &&& (i1 - (1 : Int32))).toUInt32 >>> ((16 : Int32) &&& 31).toUInt32).toInt32).toUInt32 >>> ((4 : Int32) &&& 31).toUInt32).toInt32).toUInt32 >>> ((1 : Int32) &&& 31).toUInt32).toInt32))))) (fun h => by rw [Bd.returns] at h; cases h) Bd.notSynchronized (fun fs hr => retOut X0 hx (t := .int) Bd.returns rfl (Or.inl ⟨rfl, Or.inl rfl, _, rfl⟩) (Jvm.hb hby d8_79) hr) ?_ (by decide) (by decide)
            show own_Q8 Z i1 h0 n0 (some (.int ((21 : Int32) + ((((((((i1 ^^^ (-1 : Int32)) &&& (i1 - (1 : Int32))).toUInt32 >>> ((16 : Int32) &&& 31).toUInt32).toInt32).toUInt32 >>> ((4 : Int32) &&& 31).toUInt32).toInt32).toUInt32 >>> ((1 : Int32) &&& 31).toUInt32).toInt32)))) s₁.heap _
            rw [e0]
            exact ⟨congrArg (fun z => some (Value.int z)) (by unfold own_f8; simp only [if_pos hc9_3, if_pos hc23_4, if_neg hc38_5, if_pos hc52_9, if_neg hc64_10]), N0, rfl⟩
        · refine own_go (B := s₁.setTop (mkF m 62 #[.val (.int ((((i1 ^^^ (-1 : Int32)) &&& (i1 - (1 : Int32))).toUInt32 >>> ((16 : Int32) &&& 31).toUInt32).toInt32)), .val (.int (17 : Int32))] [])) (fun t k => XS.icmpYes X0.here hx rfl (pc0 := 52) (pc' := 62) rfl (Jvm.hb hby d8_52) rfl (flt hc52_9).2.2.2 (by decide) (by decide) k) ?_
          refine own_go (B := s₁.setTop (mkF m 63 #[.val (.int ((((i1 ^^^ (-1 : Int32)) &&& (i1 - (1 : Int32))).toUInt32 >>> ((16 : Int32) &&& 31).toUInt32).toInt32)), .val (.int (17 : Int32))] [(.int ((((i1 ^^^ (-1 : Int32)) &&& (i1 - (1 : Int32))).toUInt32 >>> ((16 : Int32) &&& 31).toUInt32).toInt32))])) (fun t k => XS.iloadN X0.here hx rfl (Jvm.hb hby d8_62) rfl k) ?_
          refine own_go (B := s₁.setTop (mkF m 64 #[.val (.int ((((i1 ^^^ (-1 : Int32)) &&& (i1 - (1 : Int32))).toUInt32 >>> ((16 : Int32) &&& 31).toUInt32).toInt32)), .val (.int (17 : Int32))] [(.int (4 : Int32)), (.int ((((i1 ^^^ (-1 : Int32)) &&& (i1 - (1 : Int32))).toUInt32 >>> ((16 : Int32) &&& 31).toUInt32).toInt32))])) (fun t k => XS.iconst X0.here hx rfl (Jvm.hb hby d8_63) k) ?_
          by_cases hc64_11 : (4 : Int32) < ((((i1 ^^^ (-1 : Int32)) &&& (i1 - (1 : Int32))).toUInt32 >>> ((16 : Int32) &&& 31).toUInt32).toInt32)
          · refine own_go (B := s₁.setTop (mkF m 67 #[.val (.int ((((i1 ^^^ (-1 : Int32)) &&& (i1 - (1 : Int32))).toUInt32 >>> ((16 : Int32) &&& 31).toUInt32).toInt32)), .val (.int (17 : Int32))] [])) (fun t k => XS.icmpNo X0.here hx rfl (Jvm.hb hby d8_64) rfl (tlt hc64_11).2.2.2 k) ?_
            refine own_go (B := s₁.setTop (mkF m 70 #[.val (.int ((((i1 ^^^ (-1 : Int32)) &&& (i1 - (1 : Int32))).toUInt32 >>> ((16 : Int32) &&& 31).toUInt32).toInt32)), .val (.int ((17 : Int32) + (2 : Int32)))] [])) (fun t k => XS.iinc X0.here hx rfl (Jvm.hb hby d8_67) rfl (l' := #[.val (.int ((((i1 ^^^ (-1 : Int32)) &&& (i1 - (1 : Int32))).toUInt32 >>> ((16 : Int32) &&& 31).toUInt32).toInt32)), .val (.int ((17 : Int32) + (2 : Int32)))]) rfl k) ?_
            rw [show ((17 : Int32) + (2 : Int32)) = (19 : Int32) from by decide]
            refine own_go (B := s₁.setTop (mkF m 71 #[.val (.int ((((i1 ^^^ (-1 : Int32)) &&& (i1 - (1 : Int32))).toUInt32 >>> ((16 : Int32) &&& 31).toUInt32).toInt32)), .val (.int (19 : Int32))] [(.int ((((i1 ^^^ (-1 : Int32)) &&& (i1 - (1 : Int32))).toUInt32 >>> ((16 : Int32) &&& 31).toUInt32).toInt32))])) (fun t k => XS.iloadN X0.here hx rfl (Jvm.hb hby d8_70) rfl k) ?_
            refine own_go (B := s₁.setTop (mkF m 72 #[.val (.int ((((i1 ^^^ (-1 : Int32)) &&& (i1 - (1 : Int32))).toUInt32 >>> ((16 : Int32) &&& 31).toUInt32).toInt32)), .val (.int (19 : Int32))] [(.int (2 : Int32)), (.int ((((i1 ^^^ (-1 : Int32)) &&& (i1 - (1 : Int32))).toUInt32 >>> ((16 : Int32) &&& 31).toUInt32).toInt32))])) (fun t k => XS.iconst X0.here hx rfl (Jvm.hb hby d8_71) k) ?_
            refine own_go (B := s₁.setTop (mkF m 73 #[.val (.int ((((i1 ^^^ (-1 : Int32)) &&& (i1 - (1 : Int32))).toUInt32 >>> ((16 : Int32) &&& 31).toUInt32).toInt32)), .val (.int (19 : Int32))] [(.int ((((((i1 ^^^ (-1 : Int32)) &&& (i1 - (1 : Int32))).toUInt32 >>> ((16 : Int32) &&& 31).toUInt32).toInt32).toUInt32 >>> ((2 : Int32) &&& 31).toUInt32).toInt32))])) (fun t k => XS.iushr X0.here hx rfl (Jvm.hb hby d8_72) rfl k) ?_
            refine own_go (B := s₁.setTop (mkF m 74 #[.val (.int ((((((i1 ^^^ (-1 : Int32)) &&& (i1 - (1 : Int32))).toUInt32 >>> ((16 : Int32) &&& 31).toUInt32).toInt32).toUInt32 >>> ((2 : Int32) &&& 31).toUInt32).toInt32)), .val (.int (19 : Int32))] [])) (fun t k => XS.istoreN X0.here hx rfl (Jvm.hb hby d8_73) rfl (l' := #[.val (.int ((((((i1 ^^^ (-1 : Int32)) &&& (i1 - (1 : Int32))).toUInt32 >>> ((16 : Int32) &&& 31).toUInt32).toInt32).toUInt32 >>> ((2 : Int32) &&& 31).toUInt32).toInt32)), .val (.int (19 : Int32))]) rfl k) ?_
            refine own_go (B := s₁.setTop (mkF m 75 #[.val (.int ((((((i1 ^^^ (-1 : Int32)) &&& (i1 - (1 : Int32))).toUInt32 >>> ((16 : Int32) &&& 31).toUInt32).toInt32).toUInt32 >>> ((2 : Int32) &&& 31).toUInt32).toInt32)), .val (.int (19 : Int32))] [(.int (19 : Int32))])) (fun t k => XS.iloadN X0.here hx rfl (Jvm.hb hby d8_74) rfl k) ?_
            refine own_go (B := s₁.setTop (mkF m 76 #[.val (.int ((((((i1 ^^^ (-1 : Int32)) &&& (i1 - (1 : Int32))).toUInt32 >>> ((16 : Int32) &&& 31).toUInt32).toInt32).toUInt32 >>> ((2 : Int32) &&& 31).toUInt32).toInt32)), .val (.int (19 : Int32))] [(.int ((((((i1 ^^^ (-1 : Int32)) &&& (i1 - (1 : Int32))).toUInt32 >>> ((16 : Int32) &&& 31).toUInt32).toInt32).toUInt32 >>> ((2 : Int32) &&& 31).toUInt32).toInt32)), (.int (19 : Int32))])) (fun t k => XS.iloadN X0.here hx rfl (Jvm.hb hby d8_75) rfl k) ?_
            refine own_go (B := s₁.setTop (mkF m 77 #[.val (.int ((((((i1 ^^^ (-1 : Int32)) &&& (i1 - (1 : Int32))).toUInt32 >>> ((16 : Int32) &&& 31).toUInt32).toInt32).toUInt32 >>> ((2 : Int32) &&& 31).toUInt32).toInt32)), .val (.int (19 : Int32))] [(.int (1 : Int32)), (.int ((((((i1 ^^^ (-1 : Int32)) &&& (i1 - (1 : Int32))).toUInt32 >>> ((16 : Int32) &&& 31).toUInt32).toInt32).toUInt32 >>> ((2 : Int32) &&& 31).toUInt32).toInt32)), (.int (19 : Int32))])) (fun t k => XS.iconst X0.here hx rfl (Jvm.hb hby d8_76) k) ?_
            refine own_go (B := s₁.setTop (mkF m 78 #[.val (.int ((((((i1 ^^^ (-1 : Int32)) &&& (i1 - (1 : Int32))).toUInt32 >>> ((16 : Int32) &&& 31).toUInt32).toInt32).toUInt32 >>> ((2 : Int32) &&& 31).toUInt32).toInt32)), .val (.int (19 : Int32))] [(.int ((((((((i1 ^^^ (-1 : Int32)) &&& (i1 - (1 : Int32))).toUInt32 >>> ((16 : Int32) &&& 31).toUInt32).toInt32).toUInt32 >>> ((2 : Int32) &&& 31).toUInt32).toInt32).toUInt32 >>> ((1 : Int32) &&& 31).toUInt32).toInt32)), (.int (19 : Int32))])) (fun t k => XS.iushr X0.here hx rfl (Jvm.hb hby d8_77) rfl k) ?_
            refine own_go (B := s₁.setTop (mkF m 79 #[.val (.int ((((((i1 ^^^ (-1 : Int32)) &&& (i1 - (1 : Int32))).toUInt32 >>> ((16 : Int32) &&& 31).toUInt32).toInt32).toUInt32 >>> ((2 : Int32) &&& 31).toUInt32).toInt32)), .val (.int (19 : Int32))] [(.int ((19 : Int32) + ((((((((i1 ^^^ (-1 : Int32)) &&& (i1 - (1 : Int32))).toUInt32 >>> ((16 : Int32) &&& 31).toUInt32).toInt32).toUInt32 >>> ((2 : Int32) &&& 31).toUInt32).toInt32).toUInt32 >>> ((1 : Int32) &&& 31).toUInt32).toInt32)))])) (fun t k => XS.iadd X0.here hx rfl (Jvm.hb hby d8_78) rfl k) ?_
            refine own_out X0 (v := (some (.int ((19 : Int32) + ((((((((i1 ^^^ (-1 : Int32)) &&& (i1 - (1 : Int32))).toUInt32 >>> ((16 : Int32) &&& 31).toUInt32).toInt32).toUInt32 >>> ((2 : Int32) &&& 31).toUInt32).toInt32).toUInt32 >>> ((1 : Int32) &&& 31).toUInt32).toInt32))))) (fun h => by rw [Bd.returns] at h; cases h) Bd.notSynchronized (fun fs hr => retOut X0 hx (t := .int) Bd.returns rfl (Or.inl ⟨rfl, Or.inl rfl, _, rfl⟩) (Jvm.hb hby d8_79) hr) ?_ (by decide) (by decide)
            show own_Q8 Z i1 h0 n0 (some (.int ((19 : Int32) + ((((((((i1 ^^^ (-1 : Int32)) &&& (i1 - (1 : Int32))).toUInt32 >>> ((16 : Int32) &&& 31).toUInt32).toInt32).toUInt32 >>> ((2 : Int32) &&& 31).toUInt32).toInt32).toUInt32 >>> ((1 : Int32) &&& 31).toUInt32).toInt32)))) s₁.heap _
            rw [e0]
            exact ⟨congrArg (fun z => some (Value.int z)) (by unfold own_f8; simp only [if_pos hc9_3, if_pos hc23_4, if_neg hc38_5, if_neg hc52_9, if_pos hc64_11]), N0, rfl⟩
          · refine own_go (B := s₁.setTop (mkF m 74 #[.val (.int ((((i1 ^^^ (-1 : Int32)) &&& (i1 - (1 : Int32))).toUInt32 >>> ((16 : Int32) &&& 31).toUInt32).toInt32)), .val (.int (17 : Int32))] [])) (fun t k => XS.icmpYes X0.here hx rfl (pc0 := 64) (pc' := 74) rfl (Jvm.hb hby d8_64) rfl (flt hc64_11).2.2.2 (by decide) (by decide) k) ?_
            refine own_go (B := s₁.setTop (mkF m 75 #[.val (.int ((((i1 ^^^ (-1 : Int32)) &&& (i1 - (1 : Int32))).toUInt32 >>> ((16 : Int32) &&& 31).toUInt32).toInt32)), .val (.int (17 : Int32))] [(.int (17 : Int32))])) (fun t k => XS.iloadN X0.here hx rfl (Jvm.hb hby d8_74) rfl k) ?_
            refine own_go (B := s₁.setTop (mkF m 76 #[.val (.int ((((i1 ^^^ (-1 : Int32)) &&& (i1 - (1 : Int32))).toUInt32 >>> ((16 : Int32) &&& 31).toUInt32).toInt32)), .val (.int (17 : Int32))] [(.int ((((i1 ^^^ (-1 : Int32)) &&& (i1 - (1 : Int32))).toUInt32 >>> ((16 : Int32) &&& 31).toUInt32).toInt32)), (.int (17 : Int32))])) (fun t k => XS.iloadN X0.here hx rfl (Jvm.hb hby d8_75) rfl k) ?_
            refine own_go (B := s₁.setTop (mkF m 77 #[.val (.int ((((i1 ^^^ (-1 : Int32)) &&& (i1 - (1 : Int32))).toUInt32 >>> ((16 : Int32) &&& 31).toUInt32).toInt32)), .val (.int (17 : Int32))] [(.int (1 : Int32)), (.int ((((i1 ^^^ (-1 : Int32)) &&& (i1 - (1 : Int32))).toUInt32 >>> ((16 : Int32) &&& 31).toUInt32).toInt32)), (.int (17 : Int32))])) (fun t k => XS.iconst X0.here hx rfl (Jvm.hb hby d8_76) k) ?_
            refine own_go (B := s₁.setTop (mkF m 78 #[.val (.int ((((i1 ^^^ (-1 : Int32)) &&& (i1 - (1 : Int32))).toUInt32 >>> ((16 : Int32) &&& 31).toUInt32).toInt32)), .val (.int (17 : Int32))] [(.int ((((((i1 ^^^ (-1 : Int32)) &&& (i1 - (1 : Int32))).toUInt32 >>> ((16 : Int32) &&& 31).toUInt32).toInt32).toUInt32 >>> ((1 : Int32) &&& 31).toUInt32).toInt32)), (.int (17 : Int32))])) (fun t k => XS.iushr X0.here hx rfl (Jvm.hb hby d8_77) rfl k) ?_
            refine own_go (B := s₁.setTop (mkF m 79 #[.val (.int ((((i1 ^^^ (-1 : Int32)) &&& (i1 - (1 : Int32))).toUInt32 >>> ((16 : Int32) &&& 31).toUInt32).toInt32)), .val (.int (17 : Int32))] [(.int ((17 : Int32) + ((((((i1 ^^^ (-1 : Int32)) &&& (i1 - (1 : Int32))).toUInt32 >>> ((16 : Int32) &&& 31).toUInt32).toInt32).toUInt32 >>> ((1 : Int32) &&& 31).toUInt32).toInt32)))])) (fun t k => XS.iadd X0.here hx rfl (Jvm.hb hby d8_78) rfl k) ?_
            refine own_out X0 (v := (some (.int ((17 : Int32) + ((((((i1 ^^^ (-1 : Int32)) &&& (i1 - (1 : Int32))).toUInt32 >>> ((16 : Int32) &&& 31).toUInt32).toInt32).toUInt32 >>> ((1 : Int32) &&& 31).toUInt32).toInt32))))) (fun h => by rw [Bd.returns] at h; cases h) Bd.notSynchronized (fun fs hr => retOut X0 hx (t := .int) Bd.returns rfl (Or.inl ⟨rfl, Or.inl rfl, _, rfl⟩) (Jvm.hb hby d8_79) hr) ?_ (by decide) (by decide)
            show own_Q8 Z i1 h0 n0 (some (.int ((17 : Int32) + ((((((i1 ^^^ (-1 : Int32)) &&& (i1 - (1 : Int32))).toUInt32 >>> ((16 : Int32) &&& 31).toUInt32).toInt32).toUInt32 >>> ((1 : Int32) &&& 31).toUInt32).toInt32)))) s₁.heap _
            rw [e0]
            exact ⟨congrArg (fun z => some (Value.int z)) (by unfold own_f8; simp only [if_pos hc9_3, if_pos hc23_4, if_neg hc38_5, if_neg hc52_9, if_neg hc64_11]), N0, rfl⟩
    · refine own_go (B := s₁.setTop (mkF m 34 #[.val (.int ((i1 ^^^ (-1 : Int32)) &&& (i1 - (1 : Int32)))), .val (.int (1 : Int32))] [])) (fun t k => XS.icmpYes X0.here hx rfl (pc0 := 23) (pc' := 34) rfl (Jvm.hb hby d8_23) rfl (flt hc23_4).2.2.2 (by decide) (by decide) k) ?_
      refine own_go (B := s₁.setTop (mkF m 35 #[.val (.int ((i1 ^^^ (-1 : Int32)) &&& (i1 - (1 : Int32)))), .val (.int (1 : Int32))] [(.int ((i1 ^^^ (-1 : Int32)) &&& (i1 - (1 : Int32))))])) (fun t k => XS.iloadN X0.here hx rfl (Jvm.hb hby d8_34) rfl k) ?_
      refine own_go (B := s₁.setTop (mkF m 38 #[.val (.int ((i1 ^^^ (-1 : Int32)) &&& (i1 - (1 : Int32)))), .val (.int (1 : Int32))] [(.int (256 : Int32)), (.int ((i1 ^^^ (-1 : Int32)) &&& (i1 - (1 : Int32))))])) (fun t k => XS.sipush X0.here hx rfl (Jvm.hb hby d8_35) k) ?_
      by_cases hc38_12 : (256 : Int32) < ((i1 ^^^ (-1 : Int32)) &&& (i1 - (1 : Int32)))
      · refine own_go (B := s₁.setTop (mkF m 41 #[.val (.int ((i1 ^^^ (-1 : Int32)) &&& (i1 - (1 : Int32)))), .val (.int (1 : Int32))] [])) (fun t k => XS.icmpNo X0.here hx rfl (Jvm.hb hby d8_38) rfl (tlt hc38_12).2.2.2 k) ?_
        refine own_go (B := s₁.setTop (mkF m 44 #[.val (.int ((i1 ^^^ (-1 : Int32)) &&& (i1 - (1 : Int32)))), .val (.int ((1 : Int32) + (8 : Int32)))] [])) (fun t k => XS.iinc X0.here hx rfl (Jvm.hb hby d8_41) rfl (l' := #[.val (.int ((i1 ^^^ (-1 : Int32)) &&& (i1 - (1 : Int32)))), .val (.int ((1 : Int32) + (8 : Int32)))]) rfl k) ?_
        rw [show ((1 : Int32) + (8 : Int32)) = (9 : Int32) from by decide]
        refine own_go (B := s₁.setTop (mkF m 45 #[.val (.int ((i1 ^^^ (-1 : Int32)) &&& (i1 - (1 : Int32)))), .val (.int (9 : Int32))] [(.int ((i1 ^^^ (-1 : Int32)) &&& (i1 - (1 : Int32))))])) (fun t k => XS.iloadN X0.here hx rfl (Jvm.hb hby d8_44) rfl k) ?_
        refine own_go (B := s₁.setTop (mkF m 47 #[.val (.int ((i1 ^^^ (-1 : Int32)) &&& (i1 - (1 : Int32)))), .val (.int (9 : Int32))] [(.int (8 : Int32)), (.int ((i1 ^^^ (-1 : Int32)) &&& (i1 - (1 : Int32))))])) (fun t k => XS.bipush X0.here hx rfl (Jvm.hb hby d8_45) k) ?_
        refine own_go (B := s₁.setTop (mkF m 48 #[.val (.int ((i1 ^^^ (-1 : Int32)) &&& (i1 - (1 : Int32)))), .val (.int (9 : Int32))] [(.int ((((i1 ^^^ (-1 : Int32)) &&& (i1 - (1 : Int32))).toUInt32 >>> ((8 : Int32) &&& 31).toUInt32).toInt32))])) (fun t k => XS.iushr X0.here hx rfl (Jvm.hb hby d8_47) rfl k) ?_
        refine own_go (B := s₁.setTop (mkF m 49 #[.val (.int ((((i1 ^^^ (-1 : Int32)) &&& (i1 - (1 : Int32))).toUInt32 >>> ((8 : Int32) &&& 31).toUInt32).toInt32)), .val (.int (9 : Int32))] [])) (fun t k => XS.istoreN X0.here hx rfl (Jvm.hb hby d8_48) rfl (l' := #[.val (.int ((((i1 ^^^ (-1 : Int32)) &&& (i1 - (1 : Int32))).toUInt32 >>> ((8 : Int32) &&& 31).toUInt32).toInt32)), .val (.int (9 : Int32))]) rfl k) ?_
        refine own_go (B := s₁.setTop (mkF m 50 #[.val (.int ((((i1 ^^^ (-1 : Int32)) &&& (i1 - (1 : Int32))).toUInt32 >>> ((8 : Int32) &&& 31).toUInt32).toInt32)), .val (.int (9 : Int32))] [(.int ((((i1 ^^^ (-1 : Int32)) &&& (i1 - (1 : Int32))).toUInt32 >>> ((8 : Int32) &&& 31).toUInt32).toInt32))])) (fun t k => XS.iloadN X0.here hx rfl (Jvm.hb hby d8_49) rfl k) ?_
        refine own_go (B := s₁.setTop (mkF m 52 #[.val (.int ((((i1 ^^^ (-1 : Int32)) &&& (i1 - (1 : Int32))).toUInt32 >>> ((8 : Int32) &&& 31).toUInt32).toInt32)), .val (.int (9 : Int32))] [(.int (16 : Int32)), (.int ((((i1 ^^^ (-1 : Int32)) &&& (i1 - (1 : Int32))).toUInt32 >>> ((8 : Int32) &&& 31).toUInt32).toInt32))])) (fun t k => XS.bipush X0.here hx rfl (Jvm.hb hby d8_50) k) ?_
        by_cases hc52_13 : (16 : Int32) < ((((i1 ^^^ (-1 : Int32)) &&& (i1 - (1 : Int32))).toUInt32 >>> ((8 : Int32) &&& 31).toUInt32).toInt32)
        · refine own_go (B := s₁.setTop (mkF m 55 #[.val (.int ((((i1 ^^^ (-1 : Int32)) &&& (i1 - (1 : Int32))).toUInt32 >>> ((8 : Int32) &&& 31).toUInt32).toInt32)), .val (.int (9 : Int32))] [])) (fun t k => XS.icmpNo X0.here hx rfl (Jvm.hb hby d8_52) rfl (tlt hc52_13).2.2.2 k) ?_
          refine own_go (B := s₁.setTop (mkF m 58 #[.val (.int ((((i1 ^^^ (-1 : Int32)) &&& (i1 - (1 : Int32))).toUInt32 >>> ((8 : Int32) &&& 31).toUInt32).toInt32)), .val (.int ((9 : Int32) + (4 : Int32)))] [])) (fun t k => XS.iinc X0.here hx rfl (Jvm.hb hby d8_55) rfl (l' := #[.val (.int ((((i1 ^^^ (-1 : Int32)) &&& (i1 - (1 : Int32))).toUInt32 >>> ((8 : Int32) &&& 31).toUInt32).toInt32)), .val (.int ((9 : Int32) + (4 : Int32)))]) rfl k) ?_
          rw [show ((9 : Int32) + (4 : Int32)) = (13 : Int32) from by decide]
          refine own_go (B := s₁.setTop (mkF m 59 #[.val (.int ((((i1 ^^^ (-1 : Int32)) &&& (i1 - (1 : Int32))).toUInt32 >>> ((8 : Int32) &&& 31).toUInt32).toInt32)), .val (.int (13 : Int32))] [(.int ((((i1 ^^^ (-1 : Int32)) &&& (i1 - (1 : Int32))).toUInt32 >>> ((8 : Int32) &&& 31).toUInt32).toInt32))])) (fun t k => XS.iloadN X0.here hx rfl (Jvm.hb hby d8_58) rfl k) ?_
          refine own_go (B := s₁.setTop (mkF m 60 #[.val (.int ((((i1 ^^^ (-1 : Int32)) &&& (i1 - (1 : Int32))).toUInt32 >>> ((8 : Int32) &&& 31).toUInt32).toInt32)), .val (.int (13 : Int32))] [(.int (4 : Int32)), (.int ((((i1 ^^^ (-1 : Int32)) &&& (i1 - (1 : Int32))).toUInt32 >>> ((8 : Int32) &&& 31).toUInt32).toInt32))])) (fun t k => XS.iconst X0.here hx rfl (Jvm.hb hby d8_59) k) ?_
          refine own_go (B := s₁.setTop (mkF m 61 #[.val (.int ((((i1 ^^^ (-1 : Int32)) &&& (i1 - (1 : Int32))).toUInt32 >>> ((8 : Int32) &&& 31).toUInt32).toInt32)), .val (.int (13 : Int32))] [(.int ((((((i1 ^^^ (-1 : Int32)) &&& (i1 - (1 : Int32))).toUInt32 >>> ((8 : Int32) &&& 31).toUInt32).toInt32).toUInt32 >>> ((4 : Int32) &&& 31).toUInt32).toInt32))])) (fun t k => XS.iushr X0.here hx rfl (Jvm.hb hby d8_60) rfl k) ?_
          refine own_go (B := s₁.setTop (mkF m 62 #[.val (.int ((((((i1 ^^^ (-1 : Int32)) &&& (i1 - (1 : Int32))).toUInt32 >>> ((8 : Int32) &&& 31).toUInt32).toInt32).toUInt32 >>> ((4 : Int32) &&& 31).toUInt32).toInt32)), .val (.int (13 : Int32))] [])) (fun t k => XS.istoreN X0.here hx rfl (Jvm.hb hby d8_61) rfl (l' := #[.val (.int ((((((i1 ^^^ (-1 : Int32)) &&& (i1 - (1 : Int32))).toUInt32 >>> ((8 : Int32) &&& 31).toUInt32).toInt32).toUInt32 >>> ((4 : Int32) &&& 31).toUInt32).toInt32)), .val (.int (13 : Int32))]) rfl k) ?_
          refine own_go (B := s₁.setTop (mkF m 63 #[.val (.int ((((((i1 ^^^ (-1 : Int32)) &&& (i1 - (1 : Int32))).toUInt32 >>> ((8 : Int32) &&& 31).toUInt32).toInt32).toUInt32 >>> ((4 : Int32) &&& 31).toUInt32).toInt32)), .val (.int (13 : Int32))] [(.int ((((((i1 ^^^ (-1 : Int32)) &&& (i1 - (1 : Int32))).toUInt32 >>> ((8 : Int32) &&& 31).toUInt32).toInt32).toUInt32 >>> ((4 : Int32) &&& 31).toUInt32).toInt32))])) (fun t k => XS.iloadN X0.here hx rfl (Jvm.hb hby d8_62) rfl k) ?_
          refine own_go (B := s₁.setTop (mkF m 64 #[.val (.int ((((((i1 ^^^ (-1 : Int32)) &&& (i1 - (1 : Int32))).toUInt32 >>> ((8 : Int32) &&& 31).toUInt32).toInt32).toUInt32 >>> ((4 : Int32) &&& 31).toUInt32).toInt32)), .val (.int (13 : Int32))] [(.int (4 : Int32)), (.int ((((((i1 ^^^ (-1 : Int32)) &&& (i1 - (1 : Int32))).toUInt32 >>> ((8 : Int32) &&& 31).toUInt32).toInt32).toUInt32 >>> ((4 : Int32) &&& 31).toUInt32).toInt32))])) (fun t k => XS.iconst X0.here hx rfl (Jvm.hb hby d8_63) k) ?_
          by_cases hc64_14 : (4 : Int32) < ((((((i1 ^^^ (-1 : Int32)) &&& (i1 - (1 : Int32))).toUInt32 >>> ((8 : Int32) &&& 31).toUInt32).toInt32).toUInt32 >>> ((4 : Int32) &&& 31).toUInt32).toInt32)
          · refine own_go (B := s₁.setTop (mkF m 67 #[.val (.int ((((((i1 ^^^ (-1 : Int32)) &&& (i1 - (1 : Int32))).toUInt32 >>> ((8 : Int32) &&& 31).toUInt32).toInt32).toUInt32 >>> ((4 : Int32) &&& 31).toUInt32).toInt32)), .val (.int (13 : Int32))] [])) (fun t k => XS.icmpNo X0.here hx rfl (Jvm.hb hby d8_64) rfl (tlt hc64_14).2.2.2 k) ?_
            refine own_go (B := s₁.setTop (mkF m 70 #[.val (.int ((((((i1 ^^^ (-1 : Int32)) &&& (i1 - (1 : Int32))).toUInt32 >>> ((8 : Int32) &&& 31).toUInt32).toInt32).toUInt32 >>> ((4 : Int32) &&& 31).toUInt32).toInt32)), .val (.int ((13 : Int32) + (2 : Int32)))] [])) (fun t k => XS.iinc X0.here hx rfl (Jvm.hb hby d8_67) rfl (l' := #[.val (.int ((((((i1 ^^^ (-1 : Int32)) &&& (i1 - (1 : Int32))).toUInt32 >>> ((8 : Int32) &&& 31).toUInt32).toInt32).toUInt32 >>> ((4 : Int32) &&& 31).toUInt32).toInt32)), .val (.int ((13 : Int32) + (2 : Int32)))]) rfl k) ?_
            rw [show ((13 : Int32) + (2 : Int32)) = (15 : Int32) from by decide]
            refine own_go (B := s₁.setTop (mkF m 71 #[.val (.int ((((((i1 ^^^ (-1 : Int32)) &&& (i1 - (1 : Int32))).toUInt32 >>> ((8 : Int32) &&& 31).toUInt32).toInt32).toUInt32 >>> ((4 : Int32) &&& 31).toUInt32).toInt32)), .val (.int (15 : Int32))] [(.int ((((((i1 ^^^ (-1 : Int32)) &&& (i1 - (1 : Int32))).toUInt32 >>> ((8 : Int32) &&& 31).toUInt32).toInt32).toUInt32 >>> ((4 : Int32) &&& 31).toUInt32).toInt32))])) (fun t k => XS.iloadN X0.here hx rfl (Jvm.hb hby d8_70) rfl k) ?_
            refine own_go (B := s₁.setTop (mkF m 72 #[.val (.int ((((((i1 ^^^ (-1 : Int32)) &&& (i1 - (1 : Int32))).toUInt32 >>> ((8 : Int32) &&& 31).toUInt32).toInt32).toUInt32 >>> ((4 : Int32) &&& 31).toUInt32).toInt32)), .val (.int (15 : Int32))] [(.int (2 : Int32)), (.int ((((((i1 ^^^ (-1 : Int32)) &&& (i1 - (1 : Int32))).toUInt32 >>> ((8 : Int32) &&& 31).toUInt32).toInt32).toUInt32 >>> ((4 : Int32) &&& 31).toUInt32).toInt32))])) (fun t k => XS.iconst X0.here hx rfl (Jvm.hb hby d8_71) k) ?_
            refine own_go (B := s₁.setTop (mkF m 73 #[.val (.int ((((((i1 ^^^ (-1 : Int32)) &&& (i1 - (1 : Int32))).toUInt32 >>> ((8 : Int32) &&& 31).toUInt32).toInt32).toUInt32 >>> ((4 : Int32) &&& 31).toUInt32).toInt32)), .val (.int (15 : Int32))] [(.int ((((((((i1 ^^^ (-1 : Int32)) &&& (i1 - (1 : Int32))).toUInt32 >>> ((8 : Int32) &&& 31).toUInt32).toInt32).toUInt32 >>> ((4 : Int32) &&& 31).toUInt32).toInt32).toUInt32 >>> ((2 : Int32) &&& 31).toUInt32).toInt32))])) (fun t k => XS.iushr X0.here hx rfl (Jvm.hb hby d8_72) rfl k) ?_
            refine own_go (B := s₁.setTop (mkF m 74 #[.val (.int ((((((((i1 ^^^ (-1 : Int32)) &&& (i1 - (1 : Int32))).toUInt32 >>> ((8 : Int32) &&& 31).toUInt32).toInt32).toUInt32 >>> ((4 : Int32) &&& 31).toUInt32).toInt32).toUInt32 >>> ((2 : Int32) &&& 31).toUInt32).toInt32)), .val (.int (15 : Int32))] [])) (fun t k => XS.istoreN X0.here hx rfl (Jvm.hb hby d8_73) rfl (l' := #[.val (.int ((((((((i1 ^^^ (-1 : Int32)) &&& (i1 - (1 : Int32))).toUInt32 >>> ((8 : Int32) &&& 31).toUInt32).toInt32).toUInt32 >>> ((4 : Int32) &&& 31).toUInt32).toInt32).toUInt32 >>> ((2 : Int32) &&& 31).toUInt32).toInt32)), .val (.int (15 : Int32))]) rfl k) ?_
            refine own_go (B := s₁.setTop (mkF m 75 #[.val (.int ((((((((i1 ^^^ (-1 : Int32)) &&& (i1 - (1 : Int32))).toUInt32 >>> ((8 : Int32) &&& 31).toUInt32).toInt32).toUInt32 >>> ((4 : Int32) &&& 31).toUInt32).toInt32).toUInt32 >>> ((2 : Int32) &&& 31).toUInt32).toInt32)), .val (.int (15 : Int32))] [(.int (15 : Int32))])) (fun t k => XS.iloadN X0.here hx rfl (Jvm.hb hby d8_74) rfl k) ?_
            refine own_go (B := s₁.setTop (mkF m 76 #[.val (.int ((((((((i1 ^^^ (-1 : Int32)) &&& (i1 - (1 : Int32))).toUInt32 >>> ((8 : Int32) &&& 31).toUInt32).toInt32).toUInt32 >>> ((4 : Int32) &&& 31).toUInt32).toInt32).toUInt32 >>> ((2 : Int32) &&& 31).toUInt32).toInt32)), .val (.int (15 : Int32))] [(.int ((((((((i1 ^^^ (-1 : Int32)) &&& (i1 - (1 : Int32))).toUInt32 >>> ((8 : Int32) &&& 31).toUInt32).toInt32).toUInt32 >>> ((4 : Int32) &&& 31).toUInt32).toInt32).toUInt32 >>> ((2 : Int32) &&& 31).toUInt32).toInt32)), (.int (15 : Int32))])) (fun t k => XS.iloadN X0.here hx rfl (Jvm.hb hby d8_75) rfl k) ?_
            refine own_go (B := s₁.setTop (mkF m 77 #[.val (.int ((((((((i1 ^^^ (-1 : Int32)) &&& (i1 - (1 : Int32))).toUInt32 >>> ((8 : Int32) &&& 31).toUInt32).toInt32).toUInt32 >>> ((4 : Int32) &&& 31).toUInt32).toInt32).toUInt32 >>> ((2 : Int32) &&& 31).toUInt32).toInt32)), .val (.int (15 : Int32))] [(.int (1 : Int32)), (.int ((((((((i1 ^^^ (-1 : Int32)) &&& (i1 - (1 : Int32))).toUInt32 >>> ((8 : Int32) &&& 31).toUInt32).toInt32).toUInt32 >>> ((4 : Int32) &&& 31).toUInt32).toInt32).toUInt32 >>> ((2 : Int32) &&& 31).toUInt32).toInt32)), (.int (15 : Int32))])) (fun t k => XS.iconst X0.here hx rfl (Jvm.hb hby d8_76) k) ?_
            refine own_go (B := s₁.setTop (mkF m 78 #[.val (.int ((((((((i1 ^^^ (-1 : Int32)) &&& (i1 - (1 : Int32))).toUInt32 >>> ((8 : Int32) &&& 31).toUInt32).toInt32).toUInt32 >>> ((4 : Int32) &&& 31).toUInt32).toInt32).toUInt32 >>> ((2 : Int32) &&& 31).toUInt32).toInt32)), .val (.int (15 : Int32))] [(.int ((((((((((i1 ^^^ (-1 : Int32)) &&& (i1 - (1 : Int32))).toUInt32 >>> ((8 : Int32) &&& 31).toUInt32).toInt32).toUInt32 >>> ((4 : Int32) &&& 31).toUInt32).toInt32).toUInt32 >>> ((2 : Int32) &&& 31).toUInt32).toInt32).toUInt32 >>> ((1 : Int32) &&& 31).toUInt32).toInt32)), (.int (15 : Int32))])) (fun t k => XS.iushr X0.here hx rfl (Jvm.hb hby d8_77) rfl k) ?_
            refine own_go (B := s₁.setTop (mkF m 79 #[.val (.int ((((((((i1 ^^^ (-1 : Int32)) &&& (i1 - (1 : Int32))).toUInt32 >>> ((8 : Int32) &&& 31).toUInt32).toInt32).toUInt32 >>> ((4 : Int32) &&& 31).toUInt32).toInt32).toUInt32 >>> ((2 : Int32) &&& 31).toUInt32).toInt32)), .val (.int (15 : Int32))] [(.int ((15 : Int32) + ((((((((((i1 ^^^ (-1 : Int32)) &&& (i1 - (1 : Int32))).toUInt32 >>> ((8 : Int32) &&& 31).toUInt32).toInt32).toUInt32 >>> ((4 : Int32) &&& 31).toUInt32).toInt32).toUInt32 >>> ((2 : Int32) &&& 31).toUInt32).toInt32).toUInt32 >>> ((1 : Int32) &&& 31).toUInt32).toInt32)))])) (fun t k => XS.iadd X0.here hx rfl (Jvm.hb hby d8_78) rfl k) ?_
            refine own_out X0 (v := (some (.int ((15 : Int32) + ((((((((((i1 ^^^ (-1 : Int32)) &&& (i1 - (1 : Int32))).toUInt32 >>> ((8 : Int32) &&& 31).toUInt32).toInt32).toUInt32 >>> ((4 : Int32) &&& 31).toUInt32).toInt32).toUInt32 >>> ((2 : Int32) &&& 31).toUInt32).toInt32).toUInt32 >>> ((1 : Int32) &&& 31).toUInt32).toInt32))))) (fun h => by rw [Bd.returns] at h; cases h) Bd.notSynchronized (fun fs hr => retOut X0 hx (t := .int) Bd.returns rfl (Or.inl ⟨rfl, Or.inl rfl, _, rfl⟩) (Jvm.hb hby d8_79) hr) ?_ (by decide) (by decide)
            show own_Q8 Z i1 h0 n0 (some (.int ((15 : Int32) + ((((((((((i1 ^^^ (-1 : Int32)) &&& (i1 - (1 : Int32))).toUInt32 >>> ((8 : Int32) &&& 31).toUInt32).toInt32).toUInt32 >>> ((4 : Int32) &&& 31).toUInt32).toInt32).toUInt32 >>> ((2 : Int32) &&& 31).toUInt32).toInt32).toUInt32 >>> ((1 : Int32) &&& 31).toUInt32).toInt32)))) s₁.heap _
            rw [e0]
            exact ⟨congrArg (fun z => some (Value.int z)) (by unfold own_f8; simp only [if_pos hc9_3, if_neg hc23_4, if_pos hc38_12, if_pos hc52_13, if_pos hc64_14]), N0, rfl⟩
          · refine own_go (B := s₁.setTop (mkF m 74 #[.val (.int ((((((i1 ^^^ (-1 : Int32)) &&& (i1 - (1 : Int32))).toUInt32 >>> ((8 : Int32) &&& 31).toUInt32).toInt32).toUInt32 >>> ((4 : Int32) &&& 31).toUInt32).toInt32)), .val (.int (13 : Int32))] [])) (fun t k => XS.icmpYes X0.here hx rfl (pc0 := 64) (pc' := 74) rfl (Jvm.hb hby d8_64) rfl (flt hc64_14).2.2.2 (by decide) (by decide) k) ?_
            refine own_go (B := s₁.setTop (mkF m 75 #[.val (.int ((((((i1 ^^^ (-1 : Int32)) &&& (i1 - (1 : Int32))).toUInt32 >>> ((8 : Int32) &&& 31).toUInt32).toInt32).toUInt32 >>> ((4 : Int32) &&& 31).toUInt32).toInt32)), .val (.int (13 : Int32))] [(.int (13 : Int32))])) (fun t k => XS.iloadN X0.here hx rfl (Jvm.hb hby d8_74) rfl k) ?_
            refine own_go (B := s₁.setTop (mkF m 76 #[.val (.int ((((((i1 ^^^ (-1 : Int32)) &&& (i1 - (1 : Int32))).toUInt32 >>> ((8 : Int32) &&& 31).toUInt32).toInt32).toUInt32 >>> ((4 : Int32) &&& 31).toUInt32).toInt32)), .val (.int (13 : Int32))] [(.int ((((((i1 ^^^ (-1 : Int32)) &&& (i1 - (1 : Int32))).toUInt32 >>> ((8 : Int32) &&& 31).toUInt32).toInt32).toUInt32 >>> ((4 : Int32) &&& 31).toUInt32).toInt32)), (.int (13 : Int32))])) (fun t k => XS.iloadN X0.here hx rfl (Jvm.hb hby d8_75) rfl k) ?_
            refine own_go (B := s₁.setTop (mkF m 77 #[.val (.int ((((((i1 ^^^ (-1 : Int32)) &&& (i1 - (1 : Int32))).toUInt32 >>> ((8 : Int32) &&& 31).toUInt32).toInt32).toUInt32 >>> ((4 : Int32) &&& 31).toUInt32).toInt32)), .val (.int (13 : Int32))] [(.int (1 : Int32)), (.int ((((((i1 ^^^ (-1 : Int32)) &&& (i1 - (1 : Int32))).toUInt32 >>> ((8 : Int32) &&& 31).toUInt32).toInt32).toUInt32 >>> ((4 : Int32) &&& 31).toUInt32).toInt32)), (.int (13 : Int32))])) (fun t k => XS.iconst X0.here hx rfl (Jvm.hb hby d8_76) k) ?_
            refine own_go (B := s₁.setTop (mkF m 78 #[.val (.int ((((((i1 ^^^ (-1 : Int32)) &&& (i1 - (1 : Int32))).toUInt32 >>> ((8 : Int32) &&& 31).toUInt32).toInt32).toUInt32 >>> ((4 : Int32) &&& 31).toUInt32).toInt32)), .val (.int (13 : Int32))] [(.int ((((((((i1 ^^^ (-1 : Int32)) &&& (i1 - (1 : Int32))).toUInt32 >>> ((8 : Int32) &&& 31).toUInt32).toInt32).toUInt32 >>> ((4 : Int32) &&& 31).toUInt32).toInt32).toUInt32 >>> ((1 : Int32) &&& 31).toUInt32).toInt32)), (.int (13 : Int32))])) (fun t k => XS.iushr X0.here hx rfl (Jvm.hb hby d8_77) rfl k) ?_
            refine own_go (B := s₁.setTop (mkF m 79 #[.val (.int ((((((i1 ^^^ (-1 : Int32)) &&& (i1 - (1 : Int32))).toUInt32 >>> ((8 : Int32) &&& 31).toUInt32).toInt32).toUInt32 >>> ((4 : Int32) &&& 31).toUInt32).toInt32)), .val (.int (13 : Int32))] [(.int ((13 : Int32) + ((((((((i1 ^^^ (-1 : Int32)) &&& (i1 - (1 : Int32))).toUInt32 >>> ((8 : Int32) &&& 31).toUInt32).toInt32).toUInt32 >>> ((4 : Int32) &&& 31).toUInt32).toInt32).toUInt32 >>> ((1 : Int32) &&& 31).toUInt32).toInt32)))])) (fun t k => XS.iadd X0.here hx rfl (Jvm.hb hby d8_78) rfl k) ?_
            refine own_out X0 (v := (some (.int ((13 : Int32) + ((((((((i1 ^^^ (-1 : Int32)) &&& (i1 - (1 : Int32))).toUInt32 >>> ((8 : Int32) &&& 31).toUInt32).toInt32).toUInt32 >>> ((4 : Int32) &&& 31).toUInt32).toInt32).toUInt32 >>> ((1 : Int32) &&& 31).toUInt32).toInt32))))) (fun h => by rw [Bd.returns] at h; cases h) Bd.notSynchronized (fun fs hr => retOut X0 hx (t := .int) Bd.returns rfl (Or.inl ⟨rfl, Or.inl rfl, _, rfl⟩) (Jvm.hb hby d8_79) hr) ?_ (by decide) (by decide)
            show own_Q8 Z i1 h0 n0 (some (.int ((13 : Int32) + ((((((((i1 ^^^ (-1 : Int32)) &&& (i1 - (1 : Int32))).toUInt32 >>> ((8 : Int32) &&& 31).toUInt32).toInt32).toUInt32 >>> ((4 : Int32) &&& 31).toUInt32).toInt32).toUInt32 >>> ((1 : Int32) &&& 31).toUInt32).toInt32)))) s₁.heap _
            rw [e0]
            exact ⟨congrArg (fun z => some (Value.int z)) (by unfold own_f8; simp only [if_pos hc9_3, if_neg hc23_4, if_pos hc38_12, if_pos hc52_13, if_neg hc64_14]), N0, rfl⟩
        · refine own_go (B := s₁.setTop (mkF m 62 #[.val (.int ((((i1 ^^^ (-1 : Int32)) &&& (i1 - (1 : Int32))).toUInt32 >>> ((8 : Int32) &&& 31).toUInt32).toInt32)), .val (.int (9 : Int32))] [])) (fun t k => XS.icmpYes X0.here hx rfl (pc0 := 52) (pc' := 62) rfl (Jvm.hb hby d8_52) rfl (flt hc52_13).2.2.2 (by decide) (by decide) k) ?_
          refine own_go (B := s₁.setTop (mkF m 63 #[.val (.int ((((i1 ^^^ (-1 : Int32)) &&& (i1 - (1 : Int32))).toUInt32 >>> ((8 : Int32) &&& 31).toUInt32).toInt32)), .val (.int (9 : Int32))] [(.int ((((i1 ^^^ (-1 : Int32)) &&& (i1 - (1 : Int32))).toUInt32 >>> ((8 : Int32) &&& 31).toUInt32).toInt32))])) (fun t k => XS.iloadN X0.here hx rfl (Jvm.hb hby d8_62) rfl k) ?_
          refine own_go (B := s₁.setTop (mkF m 64 #[.val (.int ((((i1 ^^^ (-1 : Int32)) &&& (i1 - (1 : Int32))).toUInt32 >>> ((8 : Int32) &&& 31).toUInt32).toInt32)), .val (.int (9 : Int32))] [(.int (4 : Int32)), (.int ((((i1 ^^^ (-1 : Int32)) &&& (i1 - (1 : Int32))).toUInt32 >>> ((8 : Int32) &&& 31).toUInt32).toInt32))])) (fun t k => XS.iconst X0.here hx rfl (Jvm.hb hby d8_63) k) ?_
          by_cases hc64_15 : (4 : Int32) < ((((i1 ^^^ (-1 : Int32)) &&& (i1 - (1 : Int32))).toUInt32 >>> ((8 : Int32) &&& 31).toUInt32).toInt32)
          · refine own_go (B := s₁.setTop (mkF m 67 #[.val (.int ((((i1 ^^^ (-1 : Int32)) &&& (i1 - (1 : Int32))).toUInt32 >>> ((8 : Int32) &&& 31).toUInt32).toInt32)), .val (.int (9 : Int32))] [])) (fun t k => XS.icmpNo X0.here hx rfl (Jvm.hb hby d8_64) rfl (tlt hc64_15).2.2.2 k) ?_
            refine own_go (B := s₁.setTop (mkF m 70 #[.val (.int ((((i1 ^^^ (-1 : Int32)) &&& (i1 - (1 : Int32))).toUInt32 >>> ((8 : Int32) &&& 31).toUInt32).toInt32)), .val (.int ((9 : Int32) + (2 : Int32)))] [])) (fun t k => XS.iinc X0.here hx rfl (Jvm.hb hby d8_67) rfl (l' := #[.val (.int ((((i1 ^^^ (-1 : Int32)) &&& (i1 - (1 : Int32))).toUInt32 >>> ((8 : Int32) &&& 31).toUInt32).toInt32)), .val (.int ((9 : Int32) + (2 : Int32)))]) rfl k) ?_
            rw [show ((9 : Int32) + (2 : Int32)) = (11 : Int32) from by decide]
            refine own_go (B := s₁.setTop (mkF m 71 #[.val (.int ((((i1 ^^^ (-1 : Int32)) &&& (i1 - (1 : Int32))).toUInt32 >>> ((8 : Int32) &&& 31).toUInt32).toInt32)), .val (.int (11 : Int32))] [(.int ((((i1 ^^^ (-1 : Int32)) &&& (i1 - (1 : Int32))).toUInt32 >>> ((8 : Int32) &&& 31).toUInt32).toInt32))])) (fun t k => XS.iloadN X0.here hx rfl (Jvm.hb hby d8_70) rfl k) ?_
            refine own_go (B := s₁.setTop (mkF m 72 #[.val (.int ((((i1 ^^^ (-1 : Int32)) &&& (i1 - (1 : Int32))).toUInt32 >>> ((8 : Int32) &&& 31).toUInt32).toInt32)), .val (.int (11 : Int32))] [(.int (2 : Int32)), (.int ((((i1 ^^^ (-1 : Int32)) &&& (i1 - (1 : Int32))).toUInt32 >>> ((8 : Int32) &&& 31).toUInt32).toInt32))])) (fun t k => XS.iconst X0.here hx rfl (Jvm.hb hby d8_71) k) ?_
            refine own_go (B := s₁.setTop (mkF m 73 #[.val (.int ((((i1 ^^^ (-1 : Int32)) &&& (i1 - (1 : Int32))).toUInt32 >>> ((8 : Int32) &&& 31).toUInt32).toInt32)), .val (.int (11 : Int32))] [(.int ((((((i1 ^^^ (-1 : Int32)) &&& (i1 - (1 : Int32))).toUInt32 >>> ((8 : Int32) &&& 31).toUInt32).toInt32).toUInt32 >>> ((2 : Int32) &&& 31).toUInt32).toInt32))])) (fun t k => XS.iushr X0.here hx rfl (Jvm.hb hby d8_72) rfl k) ?_
            refine own_go (B := s₁.setTop (mkF m 74 #[.val (.int ((((((i1 ^^^ (-1 : Int32)) &&& (i1 - (1 : Int32))).toUInt32 >>> ((8 : Int32) &&& 31).toUInt32).toInt32).toUInt32 >>> ((2 : Int32) &&& 31).toUInt32).toInt32)), .val (.int (11 : Int32))] [])) (fun t k => XS.istoreN X0.here hx rfl (Jvm.hb hby d8_73) rfl (l' := #[.val (.int ((((((i1 ^^^ (-1 : Int32)) &&& (i1 - (1 : Int32))).toUInt32 >>> ((8 : Int32) &&& 31).toUInt32).toInt32).toUInt32 >>> ((2 : Int32) &&& 31).toUInt32).toInt32)), .val (.int (11 : Int32))]) rfl k) ?_
            refine own_go (B := s₁.setTop (mkF m 75 #[.val (.int ((((((i1 ^^^ (-1 : Int32)) &&& (i1 - (1 : Int32))).toUInt32 >>> ((8 : Int32) &&& 31).toUInt32).toInt32).toUInt32 >>> ((2 : Int32) &&& 31).toUInt32).toInt32)), .val (.int (11 : Int32))] [(.int (11 : Int32))])) (fun t k => XS.iloadN X0.here hx rfl (Jvm.hb hby d8_74) rfl k) ?_
            refine own_go (B := s₁.setTop (mkF m 76 #[.val (.int ((((((i1 ^^^ (-1 : Int32)) &&& (i1 - (1 : Int32))).toUInt32 >>> ((8 : Int32) &&& 31).toUInt32).toInt32).toUInt32 >>> ((2 : Int32) &&& 31).toUInt32).toInt32)), .val (.int (11 : Int32))] [(.int ((((((i1 ^^^ (-1 : Int32)) &&& (i1 - (1 : Int32))).toUInt32 >>> ((8 : Int32) &&& 31).toUInt32).toInt32).toUInt32 >>> ((2 : Int32) &&& 31).toUInt32).toInt32)), (.int (11 : Int32))])) (fun t k => XS.iloadN X0.here hx rfl (Jvm.hb hby d8_75) rfl k) ?_
            refine own_go (B := s₁.setTop (mkF m 77 #[.val (.int ((((((i1 ^^^ (-1 : Int32)) &&& (i1 - (1 : Int32))).toUInt32 >>> ((8 : Int32) &&& 31).toUInt32).toInt32).toUInt32 >>> ((2 : Int32) &&& 31).toUInt32).toInt32)), .val (.int (11 : Int32))] [(.int (1 : Int32)), (.int ((((((i1 ^^^ (-1 : Int32)) &&& (i1 - (1 : Int32))).toUInt32 >>> ((8 : Int32) &&& 31).toUInt32).toInt32).toUInt32 >>> ((2 : Int32) &&& 31).toUInt32).toInt32)), (.int (11 : Int32))])) (fun t k => XS.iconst X0.here hx rfl (Jvm.hb hby d8_76) k) ?_
            refine own_go (B := s₁.setTop (mkF m 78 #[.val (.int ((((((i1 ^^^ (-1 : Int32)) &&& (i1 - (1 : Int32))).toUInt32 >>> ((8 : Int32) &&& 31).toUInt32).toInt32).toUInt32 >>> ((2 : Int32) &&& 31).toUInt32).toInt32)), .val (.int (11 : Int32))] [(.int ((((((((i1 ^^^ (-1 : Int32)) &&& (i1 - (1 : Int32))).toUInt32 >>> ((8 : Int32) &&& 31).toUInt32).toInt32).toUInt32 >>> ((2 : Int32) &&& 31).toUInt32).toInt32).toUInt32 >>> ((1 : Int32) &&& 31).toUInt32).toInt32)), (.int (11 : Int32))])) (fun t k => XS.iushr X0.here hx rfl (Jvm.hb hby d8_77) rfl k) ?_
            refine own_go (B := s₁.setTop (mkF m 79 #[.val (.int ((((((i1 ^^^ (-1 : Int32)) &&& (i1 - (1 : Int32))).toUInt32 >>> ((8 : Int32) &&& 31).toUInt32).toInt32).toUInt32 >>> ((2 : Int32) &&& 31).toUInt32).toInt32)), .val (.int (11 : Int32))] [(.int ((11 : Int32) + ((((((((i1 ^^^ (-1 : Int32)) &&& (i1 - (1 : Int32))).toUInt32 >>> ((8 : Int32) &&& 31).toUInt32).toInt32).toUInt32 >>> ((2 : Int32) &&& 31).toUInt32).toInt32).toUInt32 >>> ((1 : Int32) &&& 31).toUInt32).toInt32)))])) (fun t k => XS.iadd X0.here hx rfl (Jvm.hb hby d8_78) rfl k) ?_
            refine own_out X0 (v := (some (.int ((11 : Int32) + ((((((((i1 ^^^ (-1 : Int32)) &&& (i1 - (1 : Int32))).toUInt32 >>> ((8 : Int32) &&& 31).toUInt32).toInt32).toUInt32 >>> ((2 : Int32) &&& 31).toUInt32).toInt32).toUInt32 >>> ((1 : Int32) &&& 31).toUInt32).toInt32))))) (fun h => by rw [Bd.returns] at h; cases h) Bd.notSynchronized (fun fs hr => retOut X0 hx (t := .int) Bd.returns rfl (Or.inl ⟨rfl, Or.inl rfl, _, rfl⟩) (Jvm.hb hby d8_79) hr) ?_ (by decide) (by decide)
            show own_Q8 Z i1 h0 n0 (some (.int ((11 : Int32) + ((((((((i1 ^^^ (-1 : Int32)) &&& (i1 - (1 : Int32))).toUInt32 >>> ((8 : Int32) &&& 31).toUInt32).toInt32).toUInt32 >>> ((2 : Int32) &&& 31).toUInt32).toInt32).toUInt32 >>> ((1 : Int32) &&& 31).toUInt32).toInt32)))) s₁.heap _
            rw [e0]
            exact ⟨congrArg (fun z => some (Value.int z)) (by unfold own_f8; simp only [if_pos hc9_3, if_neg hc23_4, if_pos hc38_12, if_neg hc52_13, if_pos hc64_15]), N0, rfl⟩
          · refine own_go (B := s₁.setTop (mkF m 74 #[.val (.int ((((i1 ^^^ (-1 : Int32)) &&& (i1 - (1 : Int32))).toUInt32 >>> ((8 : Int32) &&& 31).toUInt32).toInt32)), .val (.int (9 : Int32))] [])) (fun t k => XS.icmpYes X0.here hx rfl (pc0 := 64) (pc' := 74) rfl (Jvm.hb hby d8_64) rfl (flt hc64_15).2.2.2 (by decide) (by decide) k) ?_
            refine own_go (B := s₁.setTop (mkF m 75 #[.val (.int ((((i1 ^^^ (-1 : Int32)) &&& (i1 - (1 : Int32))).toUInt32 >>> ((8 : Int32) &&& 31).toUInt32).toInt32)), .val (.int (9 : Int32))] [(.int (9 : Int32))])) (fun t k => XS.iloadN X0.here hx rfl (Jvm.hb hby d8_74) rfl k) ?_
            refine own_go (B := s₁.setTop (mkF m 76 #[.val (.int ((((i1 ^^^ (-1 : Int32)) &&& (i1 - (1 : Int32))).toUInt32 >>> ((8 : Int32) &&& 31).toUInt32).toInt32)), .val (.int (9 : Int32))] [(.int ((((i1 ^^^ (-1 : Int32)) &&& (i1 - (1 : Int32))).toUInt32 >>> ((8 : Int32) &&& 31).toUInt32).toInt32)), (.int (9 : Int32))])) (fun t k => XS.iloadN X0.here hx rfl (Jvm.hb hby d8_75) rfl k) ?_
            refine own_go (B := s₁.setTop (mkF m 77 #[.val (.int ((((i1 ^^^ (-1 : Int32)) &&& (i1 - (1 : Int32))).toUInt32 >>> ((8 : Int32) &&& 31).toUInt32).toInt32)), .val (.int (9 : Int32))] [(.int (1 : Int32)), (.int ((((i1 ^^^ (-1 : Int32)) &&& (i1 - (1 : Int32))).toUInt32 >>> ((8 : Int32) &&& 31).toUInt32).toInt32)), (.int (9 : Int32))])) (fun t k => XS.iconst X0.here hx rfl (Jvm.hb hby d8_76) k) ?_
            refine own_go (B := s₁.setTop (mkF m 78 #[.val (.int ((((i1 ^^^ (-1 : Int32)) &&& (i1 - (1 : Int32))).toUInt32 >>> ((8 : Int32) &&& 31).toUInt32).toInt32)), .val (.int (9 : Int32))] [(.int ((((((i1 ^^^ (-1 : Int32)) &&& (i1 - (1 : Int32))).toUInt32 >>> ((8 : Int32) &&& 31).toUInt32).toInt32).toUInt32 >>> ((1 : Int32) &&& 31).toUInt32).toInt32)), (.int (9 : Int32))])) (fun t k => XS.iushr X0.here hx rfl (Jvm.hb hby d8_77) rfl k) ?_
            refine own_go (B := s₁.setTop (mkF m 79 #[.val (.int ((((i1 ^^^ (-1 : Int32)) &&& (i1 - (1 : Int32))).toUInt32 >>> ((8 : Int32) &&& 31).toUInt32).toInt32)), .val (.int (9 : Int32))] [(.int ((9 : Int32) + ((((((i1 ^^^ (-1 : Int32)) &&& (i1 - (1 : Int32))).toUInt32 >>> ((8 : Int32) &&& 31).toUInt32).toInt32).toUInt32 >>> ((1 : Int32) &&& 31).toUInt32).toInt32)))])) (fun t k => XS.iadd X0.here hx rfl (Jvm.hb hby d8_78) rfl k) ?_
            refine own_out X0 (v := (some (.int ((9 : Int32) + ((((((i1 ^^^ (-1 : Int32)) &&& (i1 - (1 : Int32))).toUInt32 >>> ((8 : Int32) &&& 31).toUInt32).toInt32).toUInt32 >>> ((1 : Int32) &&& 31).toUInt32).toInt32))))) (fun h => by rw [Bd.returns] at h; cases h) Bd.notSynchronized (fun fs hr => retOut X0 hx (t := .int) Bd.returns rfl (Or.inl ⟨rfl, Or.inl rfl, _, rfl⟩) (Jvm.hb hby d8_79) hr) ?_ (by decide) (by decide)
            show own_Q8 Z i1 h0 n0 (some (.int ((9 : Int32) + ((((((i1 ^^^ (-1 : Int32)) &&& (i1 - (1 : Int32))).toUInt32 >>> ((8 : Int32) &&& 31).toUInt32).toInt32).toUInt32 >>> ((1 : Int32) &&& 31).toUInt32).toInt32)))) s₁.heap _
            rw [e0]
            exact ⟨congrArg (fun z => some (Value.int z)) (by unfold own_f8; simp only [if_pos hc9_3, if_neg hc23_4, if_pos hc38_12, if_neg hc52_13, if_neg hc64_15]), N0, rfl⟩
      · refine own_go (B := s₁.setTop (mkF m 49 #[.val (.int ((i1 ^^^ (-1 : Int32)) &&& (i1 - (1 : Int32)))), .val (.int (1 : Int32))] [])) (fun t k => XS.icmpYes X0.here hx rfl (pc0 := 38) (pc' := 49) rfl (Jvm.hb hby d8_38) rfl (flt hc38_12).2.2.2 (by decide) (by decide) k) ?_
        refine own_go (B := s₁.setTop (mkF m 50 #[.val (.int ((i1 ^^^ (-1 : Int32)) &&& (i1 - (1 : Int32)))), .val (.int (1 : Int32))] [(.int ((i1 ^^^ (-1 : Int32)) &&& (i1 - (1 : Int32))))])) (fun t k => XS.iloadN X0.here hx rfl (Jvm.hb hby d8_49) rfl k) ?_
        refine own_go (B := s₁.setTop (mkF m 52 #[.val (.int ((i1 ^^^ (-1 : Int32)) &&& (i1 - (1 : Int32)))), .val (.int (1 : Int32))] [(.int (16 : Int32)), (.int ((i1 ^^^ (-1 : Int32)) &&& (i1 - (1 : Int32))))])) (fun t k => XS.bipush X0.here hx rfl (Jvm.hb hby d8_50) k) ?_
        by_cases hc52_16 : (16 : Int32) < ((i1 ^^^ (-1 : Int32)) &&& (i1 - (1 : Int32)))
        · refine own_go (B := s₁.setTop (mkF m 55 #[.val (.int ((i1 ^^^ (-1 : Int32)) &&& (i1 - (1 : Int32)))), .val (.int (1 : Int32))] [])) (fun t k => XS.icmpNo X0.here hx rfl (Jvm.hb hby d8_52) rfl (tlt hc52_16).2.2.2 k) ?_
          refine own_go (B := s₁.setTop (mkF m 58 #[.val (.int ((i1 ^^^ (-1 : Int32)) &&& (i1 - (1 : Int32)))), .val (.int ((1 : Int32) + (4 : Int32)))] [])) (fun t k => XS.iinc X0.here hx rfl (Jvm.hb hby d8_55) rfl (l' := #[.val (.int ((i1 ^^^ (-1 : Int32)) &&& (i1 - (1 : Int32)))), .val (.int ((1 : Int32) + (4 : Int32)))]) rfl k) ?_
          rw [show ((1 : Int32) + (4 : Int32)) = (5 : Int32) from by decide]
          refine own_go (B := s₁.setTop (mkF m 59 #[.val (.int ((i1 ^^^ (-1 : Int32)) &&& (i1 - (1 : Int32)))), .val (.int (5 : Int32))] [(.int ((i1 ^^^ (-1 : Int32)) &&& (i1 - (1 : Int32))))])) (fun t k => XS.iloadN X0.here hx rfl (Jvm.hb hby d8_58) rfl k) ?_
          refine own_go (B := s₁.setTop (mkF m 60 #[.val (.int ((i1 ^^^ (-1 : Int32)) &&& (i1 - (1 : Int32)))), .val (.int (5 : Int32))] [(.int (4 : Int32)), (.int ((i1 ^^^ (-1 : Int32)) &&& (i1 - (1 : Int32))))])) (fun t k => XS.iconst X0.here hx rfl (Jvm.hb hby d8_59) k) ?_
          refine own_go (B := s₁.setTop (mkF m 61 #[.val (.int ((i1 ^^^ (-1 : Int32)) &&& (i1 - (1 : Int32)))), .val (.int (5 : Int32))] [(.int ((((i1 ^^^ (-1 : Int32)) &&& (i1 - (1 : Int32))).toUInt32 >>> ((4 : Int32) &&& 31).toUInt32).toInt32))])) (fun t k => XS.iushr X0.here hx rfl (Jvm.hb hby d8_60) rfl k) ?_
          refine own_go (B := s₁.setTop (mkF m 62 #[.val (.int ((((i1 ^^^ (-1 : Int32)) &&& (i1 - (1 : Int32))).toUInt32 >>> ((4 : Int32) &&& 31).toUInt32).toInt32)), .val (.int (5 : Int32))] [])) (fun t k => XS.istoreN X0.here hx rfl (Jvm.hb hby d8_61) rfl (l' := #[.val (.int ((((i1 ^^^ (-1 : Int32)) &&& (i1 - (1 : Int32))).toUInt32 >>> ((4 : Int32) &&& 31).toUInt32).toInt32)), .val (.int (5 : Int32))]) rfl k) ?_
          refine own_go (B := s₁.setTop (mkF m 63 #[.val (.int ((((i1 ^^^ (-1 : Int32)) &&& (i1 - (1 : Int32))).toUInt32 >>> ((4 : Int32) &&& 31).toUInt32).toInt32)), .val (.int (5 : Int32))] [(.int ((((i1 ^^^ (-1 : Int32)) &&& (i1 - (1 : Int32))).toUInt32 >>> ((4 : Int32) &&& 31).toUInt32).toInt32))])) (fun t k => XS.iloadN X0.here hx rfl (Jvm.hb hby d8_62) rfl k) ?_
          refine own_go (B := s₁.setTop (mkF m 64 #[.val (.int ((((i1 ^^^ (-1 : Int32)) &&& (i1 - (1 : Int32))).toUInt32 >>> ((4 : Int32) &&& 31).toUInt32).toInt32)), .val (.int (5 : Int32))] [(.int (4 : Int32)), (.int ((((i1 ^^^ (-1 : Int32)) &&& (i1 - (1 : Int32))).toUInt32 >>> ((4 : Int32) &&& 31).toUInt32).toInt32))])) (fun t k => XS.iconst X0.here hx rfl (Jvm.hb hby d8_63) k) ?_
          by_cases hc64_17 : (4 : Int32) < ((((i1 ^^^ (-1 : Int32)) &&& (i1 - (1 : Int32))).toUInt32 >>> ((4 : Int32) &&& 31).toUInt32).toInt32)
          · refine own_go (B := s₁.setTop (mkF m 67 #[.val (.int ((((i1 ^^^ (-1 : Int32)) &&& (i1 - (1 : Int32))).toUInt32 >>> ((4 : Int32) &&& 31).toUInt32).toInt32)), .val (.int (5 : Int32))] [])) (fun t k => XS.icmpNo X0.here hx rfl (Jvm.hb hby d8_64) rfl (tlt hc64_17).2.2.2 k) ?_
            refine own_go (B := s₁.setTop (mkF m 70 #[.val (.int ((((i1 ^^^ (-1 : Int32)) &&& (i1 - (1 : Int32))).toUInt32 >>> ((4 : Int32) &&& 31).toUInt32).toInt32)), .val (.int ((5 : Int32) + (2 : Int32)))] [])) (fun t k => XS.iinc X0.here hx rfl (Jvm.hb hby d8_67) rfl (l' := #[.val (.int ((((i1 ^^^ (-1 : Int32)) &&& (i1 - (1 : Int32))).toUInt32 >>> ((4 : Int32) &&& 31).toUInt32).toInt32)), .val (.int ((5 : Int32) + (2 : Int32)))]) rfl k) ?_
            rw [show ((5 : Int32) + (2 : Int32)) = (7 : Int32) from by decide]
            refine own_go (B := s₁.setTop (mkF m 71 #[.val (.int ((((i1 ^^^ (-1 : Int32)) &&& (i1 - (1 : Int32))).toUInt32 >>> ((4 : Int32) &&& 31).toUInt32).toInt32)), .val (.int (7 : Int32))] [(.int ((((i1 ^^^ (-1 : Int32)) &&& (i1 - (1 : Int32))).toUInt32 >>> ((4 : Int32) &&& 31).toUInt32).toInt32))])) (fun t k => XS.iloadN X0.here hx rfl (Jvm.hb hby d8_70) rfl k) ?_
            refine own_go (B := s₁.setTop (mkF m 72 #[.val (.int ((((i1 ^^^ (-1 : Int32)) &&& (i1 - (1 : Int32))).toUInt32 >>> ((4 : Int32) &&& 31).toUInt32).toInt32)), .val (.int (7 : Int32))] [(.int (2 : Int32)), (.int ((((i1 ^^^ (-1 : Int32)) &&& (i1 - (1 : Int32))).toUInt32 >>> ((4 : Int32) &&& 31).toUInt32).toInt32))])) (fun t k => XS.iconst X0.here hx rfl (Jvm.hb hby d8_71) k) ?_
            refine own_go (B := s₁.setTop (mkF m 73 #[.val (.int ((((i1 ^^^ (-1 : Int32)) &&& (i1 - (1 : Int32))).toUInt32 >>> ((4 : Int32) &&& 31).toUInt32).toInt32)), .val (.int (7 : Int32))] [(.int ((((((i1 ^^^ (-1 : Int32)) &&& (i1 - (1 : Int32))).toUInt32 >>> ((4 : Int32) &&& 31).toUInt32).toInt32).toUInt32 >>> ((2 : Int32) &&& 31).toUInt32).toInt32))])) (fun t k => XS.iushr X0.here hx rfl (Jvm.hb hby d8_72) rfl k) ?_
            refine own_go (B := s₁.setTop (mkF m 74 #[.val (.int ((((((i1 ^^^ (-1 : Int32)) &&& (i1 - (1 : Int32))).toUInt32 >>> ((4 : Int32) &&& 31).toUInt32).toInt32).toUInt32 >>> ((2 : Int32) &&& 31).toUInt32).toInt32)), .val (.int (7 : Int32))] [])) (fun t k => XS.istoreN X0.here hx rfl (Jvm.hb hby d8_73) rfl (l' := #[.val (.int ((((((i1 ^^^ (-1 : Int32)) &&& (i1 - (1 : Int32))).toUInt32 >>> ((4 : Int32) &&& 31).toUInt32).toInt32).toUInt32 >>> ((2 : Int32) &&& 31).toUInt32).toInt32)), .val (.int (7 : Int32))]) rfl k) ?_
            refine own_go (B := s₁.setTop (mkF m 75 #[.val (.int ((((((i1 ^^^ (-1 : Int32)) &&& (i1 - (1 : Int32))).toUInt32 >>> ((4 : Int32) &&& 31).toUInt32).toInt32).toUInt32 >>> ((2 : Int32) &&& 31).toUInt32).toInt32)), .val (.int (7 : Int32))] [(.int (7 : Int32))])) (fun t k => XS.iloadN X0.here hx rfl (Jvm.hb hby d8_74) rfl k) ?_
            refine own_go (B := s₁.setTop (mkF m 76 #[.val (.int ((((((i1 ^^^ (-1 : Int32)) &&& (i1 - (1 : Int32))).toUInt32 >>> ((4 : Int32) &&& 31).toUInt32).toInt32).toUInt32 >>> ((2 : Int32) &&& 31).toUInt32).toInt32)), .val (.int (7 : Int32))] [(.int ((((((i1 ^^^ (-1 : Int32)) &&& (i1 - (1 : Int32))).toUInt32 >>> ((4 : Int32) &&& 31).toUInt32).toInt32).toUInt32 >>> ((2 : Int32) &&& 31).toUInt32).toInt32)), (.int (7 : Int32))])) (fun t k => XS.iloadN X0.here hx rfl (Jvm.hb hby d8_75) rfl k) ?_
            refine own_go (B := s₁.setTop (mkF m 77 #[.val (.int ((((((i1 ^^^ (-1 : Int32)) &&& (i1 - (1 : Int32))).toUInt32 >>> ((4 : Int32) &&& 31).toUInt32).toInt32).toUInt32 >>> ((2 : Int32) &&& 31).toUInt32).toInt32)), .val (.int (7 : Int32))] [(.int (1 : Int32)), (.int ((((((i1 ^^^ (-1 : Int32)) &&& (i1 - (1 : Int32))).toUInt32 >>> ((4 : Int32) &&& 31).toUInt32).toInt32).toUInt32 >>> ((2 : Int32) &&& 31).toUInt32).toInt32)), (.int (7 : Int32))])) (fun t k => XS.iconst X0.here hx rfl (Jvm.hb hby d8_76) k) ?_
            refine own_go (B := s₁.setTop (mkF m 78 #[.val (.int ((((((i1 ^^^ (-1 : Int32)) &&& (i1 - (1 : Int32))).toUInt32 >>> ((4 : Int32) &&& 31).toUInt32).toInt32).toUInt32 >>> ((2 : Int32) &&& 31).toUInt32).toInt32)), .val (.int (7 : Int32))] [(.int ((((((((i1 ^^^ (-1 : Int32)) &&& (i1 - (1 : Int32))).toUInt32 >>> ((4 : Int32) &&& 31).toUInt32).toInt32).toUInt32 >>> ((2 : Int32) &&& 31).toUInt32).toInt32).toUInt32 >>> ((1 : Int32) &&& 31).toUInt32).toInt32)), (.int (7 : Int32))])) (fun t k => XS.iushr X0.here hx rfl (Jvm.hb hby d8_77) rfl k) ?_
            refine own_go (B := s₁.setTop (mkF m 79 #[.val (.int ((((((i1 ^^^ (-1 : Int32)) &&& (i1 - (1 : Int32))).toUInt32 >>> ((4 : Int32) &&& 31).toUInt32).toInt32).toUInt32 >>> ((2 : Int32) &&& 31).toUInt32).toInt32)), .val (.int (7 : Int32))] [(.int ((7 : Int32) + ((((((((i1 ^^^ (-1 : Int32)) &&& (i1 - (1 : Int32))).toUInt32 >>> ((4 : Int32) &&& 31).toUInt32).toInt32).toUInt32 >>> ((2 : Int32) &&& 31).toUInt32).toInt32).toUInt32 >>> ((1 : Int32) &&& 31).toUInt32).toInt32)))])) (fun t k => XS.iadd X0.here hx rfl (Jvm.hb hby d8_78) rfl k) ?_
            refine own_out X0 (v := (some (.int ((7 : Int32) + ((((((((i1 ^^^ (-1 : Int32)) &&& (i1 - (1 : Int32))).toUInt32 >>> ((4 : Int32) &&& 31).toUInt32).toInt32).toUInt32 >>> ((2 : Int32) &&& 31).toUInt32).toInt32).toUInt32 >>> ((1 : Int32) &&& 31).toUInt32).toInt32))))) (fun h => by rw [Bd.returns] at h; cases h) Bd.notSynchronized (fun fs hr => retOut X0 hx (t := .int) Bd.returns rfl (Or.inl ⟨rfl, Or.inl rfl, _, rfl⟩) (Jvm.hb hby d8_79) hr) ?_ (by decide) (by decide)
            show own_Q8 Z i1 h0 n0 (some (.int ((7 : Int32) + ((((((((i1 ^^^ (-1 : Int32)) &&& (i1 - (1 : Int32))).toUInt32 >>> ((4 : Int32) &&& 31).toUInt32).toInt32).toUInt32 >>> ((2 : Int32) &&& 31).toUInt32).toInt32).toUInt32 >>> ((1 : Int32) &&& 31).toUInt32).toInt32)))) s₁.heap _
            rw [e0]
            exact ⟨congrArg (fun z => some (Value.int z)) (by unfold own_f8; simp only [if_pos hc9_3, if_neg hc23_4, if_neg hc38_12, if_pos hc52_16, if_pos hc64_17]), N0, rfl⟩
          · refine own_go (B := s₁.setTop (mkF m 74 #[.val (.int ((((i1 ^^^ (-1 : Int32)) &&& (i1 - (1 : Int32))).toUInt32 >>> ((4 : Int32) &&& 31).toUInt32).toInt32)), .val (.int (5 : Int32))] [])) (fun t k => XS.icmpYes X0.here hx rfl (pc0 := 64) (pc' := 74) rfl (Jvm.hb hby d8_64) rfl (flt hc64_17).2.2.2 (by decide) (by decide) k) ?_
            refine own_go (B := s₁.setTop (mkF m 75 #[.val (.int ((((i1 ^^^ (-1 : Int32)) &&& (i1 - (1 : Int32))).toUInt32 >>> ((4 : Int32) &&& 31).toUInt32).toInt32)), .val (.int (5 : Int32))] [(.int (5 : Int32))])) (fun t k => XS.iloadN X0.here hx rfl (Jvm.hb hby d8_74) rfl k) ?_
            refine own_go (B := s₁.setTop (mkF m 76 #[.val (.int ((((i1 ^^^ (-1 : Int32)) &&& (i1 - (1 : Int32))).toUInt32 >>> ((4 : Int32) &&& 31).toUInt32).toInt32)), .val (.int (5 : Int32))] [(.int ((((i1 ^^^ (-1 : Int32)) &&& (i1 - (1 : Int32))).toUInt32 >>> ((4 : Int32) &&& 31).toUInt32).toInt32)), (.int (5 : Int32))])) (fun t k => XS.iloadN X0.here hx rfl (Jvm.hb hby d8_75) rfl k) ?_
            refine own_go (B := s₁.setTop (mkF m 77 #[.val (.int ((((i1 ^^^ (-1 : Int32)) &&& (i1 - (1 : Int32))).toUInt32 >>> ((4 : Int32) &&& 31).toUInt32).toInt32)), .val (.int (5 : Int32))] [(.int (1 : Int32)), (.int ((((i1 ^^^ (-1 : Int32)) &&& (i1 - (1 : Int32))).toUInt32 >>> ((4 : Int32) &&& 31).toUInt32).toInt32)), (.int (5 : Int32))])) (fun t k => XS.iconst X0.here hx rfl (Jvm.hb hby d8_76) k) ?_
            refine own_go (B := s₁.setTop (mkF m 78 #[.val (.int ((((i1 ^^^ (-1 : Int32)) &&& (i1 - (1 : Int32))).toUInt32 >>> ((4 : Int32) &&& 31).toUInt32).toInt32)), .val (.int (5 : Int32))] [(.int ((((((i1 ^^^ (-1 : Int32)) &&& (i1 - (1 : Int32))).toUInt32 >>> ((4 : Int32) &&& 31).toUInt32).toInt32).toUInt32 >>> ((1 : Int32) &&& 31).toUInt32).toInt32)), (.int (5 : Int32))])) (fun t k => XS.iushr X0.here hx rfl (Jvm.hb hby d8_77) rfl k) ?_
            refine own_go (B := s₁.setTop (mkF m 79 #[.val (.int ((((i1 ^^^ (-1 : Int32)) &&& (i1 - (1 : Int32))).toUInt32 >>> ((4 : Int32) &&& 31).toUInt32).toInt32)), .val (.int (5 : Int32))] [(.int ((5 : Int32) + ((((((i1 ^^^ (-1 : Int32)) &&& (i1 - (1 : Int32))).toUInt32 >>> ((4 : Int32) &&& 31).toUInt32).toInt32).toUInt32 >>> ((1 : Int32) &&& 31).toUInt32).toInt32)))])) (fun t k => XS.iadd X0.here hx rfl (Jvm.hb hby d8_78) rfl k) ?_
            refine own_out X0 (v := (some (.int ((5 : Int32) + ((((((i1 ^^^ (-1 : Int32)) &&& (i1 - (1 : Int32))).toUInt32 >>> ((4 : Int32) &&& 31).toUInt32).toInt32).toUInt32 >>> ((1 : Int32) &&& 31).toUInt32).toInt32))))) (fun h => by rw [Bd.returns] at h; cases h) Bd.notSynchronized (fun fs hr => retOut X0 hx (t := .int) Bd.returns rfl (Or.inl ⟨rfl, Or.inl rfl, _, rfl⟩) (Jvm.hb hby d8_79) hr) ?_ (by decide) (by decide)
            show own_Q8 Z i1 h0 n0 (some (.int ((5 : Int32) + ((((((i1 ^^^ (-1 : Int32)) &&& (i1 - (1 : Int32))).toUInt32 >>> ((4 : Int32) &&& 31).toUInt32).toInt32).toUInt32 >>> ((1 : Int32) &&& 31).toUInt32).toInt32)))) s₁.heap _
            rw [e0]
            exact ⟨congrArg (fun z => some (Value.int z)) (by unfold own_f8; simp only [if_pos hc9_3, if_neg hc23_4, if_neg hc38_12, if_pos hc52_16, if_neg hc64_17]), N0, rfl⟩
        · refine own_go (B := s₁.setTop (mkF m 62 #[.val (.int ((i1 ^^^ (-1 : Int32)) &&& (i1 - (1 : Int32)))), .val (.int (1 : Int32))] [])) (fun t k => XS.icmpYes X0.here hx rfl (pc0 := 52) (pc' := 62) rfl (Jvm.hb hby d8_52) rfl (flt hc52_16).2.2.2 (by decide) (by decide) k) ?_
          refine own_go (B := s₁.setTop (mkF m 63 #[.val (.int ((i1 ^^^ (-1 : Int32)) &&& (i1 - (1 : Int32)))), .val (.int (1 : Int32))] [(.int ((i1 ^^^ (-1 : Int32)) &&& (i1 - (1 : Int32))))])) (fun t k => XS.iloadN X0.here hx rfl (Jvm.hb hby d8_62) rfl k) ?_
          refine own_go (B := s₁.setTop (mkF m 64 #[.val (.int ((i1 ^^^ (-1 : Int32)) &&& (i1 - (1 : Int32)))), .val (.int (1 : Int32))] [(.int (4 : Int32)), (.int ((i1 ^^^ (-1 : Int32)) &&& (i1 - (1 : Int32))))])) (fun t k => XS.iconst X0.here hx rfl (Jvm.hb hby d8_63) k) ?_
          by_cases hc64_18 : (4 : Int32) < ((i1 ^^^ (-1 : Int32)) &&& (i1 - (1 : Int32)))
          · refine own_go (B := s₁.setTop (mkF m 67 #[.val (.int ((i1 ^^^ (-1 : Int32)) &&& (i1 - (1 : Int32)))), .val (.int (1 : Int32))] [])) (fun t k => XS.icmpNo X0.here hx rfl (Jvm.hb hby d8_64) rfl (tlt hc64_18).2.2.2 k) ?_
            refine own_go (B := s₁.setTop (mkF m 70 #[.val (.int ((i1 ^^^ (-1 : Int32)) &&& (i1 - (1 : Int32)))), .val (.int ((1 : Int32) + (2 : Int32)))] [])) (fun t k => XS.iinc X0.here hx rfl (Jvm.hb hby d8_67) rfl (l' := #[.val (.int ((i1 ^^^ (-1 : Int32)) &&& (i1 - (1 : Int32)))), .val (.int ((1 : Int32) + (2 : Int32)))]) rfl k) ?_
            rw [show ((1 : Int32) + (2 : Int32)) = (3 : Int32) from by decide]
            refine own_go (B := s₁.setTop (mkF m 71 #[.val (.int ((i1 ^^^ (-1 : Int32)) &&& (i1 - (1 : Int32)))), .val (.int (3 : Int32))] [(.int ((i1 ^^^ (-1 : Int32)) &&& (i1 - (1 : Int32))))])) (fun t k => XS.iloadN X0.here hx rfl (Jvm.hb hby d8_70) rfl k) ?_
            refine own_go (B := s₁.setTop (mkF m 72 #[.val (.int ((i1 ^^^ (-1 : Int32)) &&& (i1 - (1 : Int32)))), .val (.int (3 : Int32))] [(.int (2 : Int32)), (.int ((i1 ^^^ (-1 : Int32)) &&& (i1 - (1 : Int32))))])) (fun t k => XS.iconst X0.here hx rfl (Jvm.hb hby d8_71) k) ?_
            refine own_go (B := s₁.setTop (mkF m 73 #[.val (.int ((i1 ^^^ (-1 : Int32)) &&& (i1 - (1 : Int32)))), .val (.int (3 : Int32))] [(.int ((((i1 ^^^ (-1 : Int32)) &&& (i1 - (1 : Int32))).toUInt32 >>> ((2 : Int32) &&& 31).toUInt32).toInt32))])) (fun t k => XS.iushr X0.here hx rfl (Jvm.hb hby d8_72) rfl k) ?_
            refine own_go (B := s₁.setTop (mkF m 74 #[.val (.int ((((i1 ^^^ (-1 : Int32)) &&& (i1 - (1 : Int32))).toUInt32 >>> ((2 : Int32) &&& 31).toUInt32).toInt32)), .val (.int (3 : Int32))] [])) (fun t k => XS.istoreN X0.here hx rfl (Jvm.hb hby d8_73) rfl (l' := #[.val (.int ((((i1 ^^^ (-1 : Int32)) &&& (i1 - (1 : Int32))).toUInt32 >>> ((2 : Int32) &&& 31).toUInt32).toInt32)), .val (.int (3 : Int32))]) rfl k) ?_
            refine own_go (B := s₁.setTop (mkF m 75 #[.val (.int ((((i1 ^^^ (-1 : Int32)) &&& (i1 - (1 : Int32))).toUInt32 >>> ((2 : Int32) &&& 31).toUInt32).toInt32)), .val (.int (3 : Int32))] [(.int (3 : Int32))])) (fun t k => XS.iloadN X0.here hx rfl (Jvm.hb hby d8_74) rfl k) ?_
            refine own_go (B := s₁.setTop (mkF m 76 #[.val (.int ((((i1 ^^^ (-1 : Int32)) &&& (i1 - (1 : Int32))).toUInt32 >>> ((2 : Int32) &&& 31).toUInt32).toInt32)), .val (.int (3 : Int32))] [(.int ((((i1 ^^^ (-1 : Int32)) &&& (i1 - (1 : Int32))).toUInt32 >>> ((2 : Int32) &&& 31).toUInt32).toInt32)), (.int (3 : Int32))])) (fun t k => XS.iloadN X0.here hx rfl (Jvm.hb hby d8_75) rfl k) ?_
            refine own_go (B := s₁.setTop (mkF m 77 #[.val (.int ((((i1 ^^^ (-1 : Int32)) &&& (i1 - (1 : Int32))).toUInt32 >>> ((2 : Int32) &&& 31).toUInt32).toInt32)), .val (.int (3 : Int32))] [(.int (1 : Int32)), (.int ((((i1 ^^^ (-1 : Int32)) &&& (i1 - (1 : Int32))).toUInt32 >>> ((2 : Int32) &&& 31).toUInt32).toInt32)), (.int (3 : Int32))])) (fun t k => XS.iconst X0.here hx rfl (Jvm.hb hby d8_76) k) ?_
            refine own_go (B := s₁.setTop (mkF m 78 #[.val (.int ((((i1 ^^^ (-1 : Int32)) &&& (i1 - (1 : Int32))).toUInt32 >>> ((2 : Int32) &&& 31).toUInt32).toInt32)), .val (.int (3 : Int32))] [(.int ((((((i1 ^^^ (-1 : Int32)) &&& (i1 - (1 : Int32))).toUInt32 >>> ((2 : Int32) &&& 31).toUInt32).toInt32).toUInt32 >>> ((1 : Int32) &&& 31).toUInt32).toInt32)), (.int (3 : Int32))])) (fun t k => XS.iushr X0.here hx rfl (Jvm.hb hby d8_77) rfl k) ?_
            refine own_go (B := s₁.setTop (mkF m 79 #[.val (.int ((((i1 ^^^ (-1 : Int32)) &&& (i1 - (1 : Int32))).toUInt32 >>> ((2 : Int32) &&& 31).toUInt32).toInt32)), .val (.int (3 : Int32))] [(.int ((3 : Int32) + ((((((i1 ^^^ (-1 : Int32)) &&& (i1 - (1 : Int32))).toUInt32 >>> ((2 : Int32) &&& 31).toUInt32).toInt32).toUInt32 >>> ((1 : Int32) &&& 31).toUInt32).toInt32)))])) (fun t k => XS.iadd X0.here hx rfl (Jvm.hb hby d8_78) rfl k) ?_
            refine own_out X0 (v := (some (.int ((3 : Int32) + ((((((i1 ^^^ (-1 : Int32)) &&& (i1 - (1 : Int32))).toUInt32 >>> ((2 : Int32) &&& 31).toUInt32).toInt32).toUInt32 >>> ((1 : Int32) &&& 31).toUInt32).toInt32))))) (fun h => by rw [Bd.returns] at h; cases h) Bd.notSynchronized (fun fs hr => retOut X0 hx (t := .int) Bd.returns rfl (Or.inl ⟨rfl, Or.inl rfl, _, rfl⟩) (Jvm.hb hby d8_79) hr) ?_ (by decide) (by decide)
            show own_Q8 Z i1 h0 n0 (some (.int ((3 : Int32) + ((((((i1 ^^^ (-1 : Int32)) &&& (i1 - (1 : Int32))).toUInt32 >>> ((2 : Int32) &&& 31).toUInt32).toInt32).toUInt32 >>> ((1 : Int32) &&& 31).toUInt32).toInt32)))) s₁.heap _
            rw [e0]
            exact ⟨congrArg (fun z => some (Value.int z)) (by unfold own_f8; simp only [if_pos hc9_3, if_neg hc23_4, if_neg hc38_12, if_neg hc52_16, if_pos hc64_18]), N0, rfl⟩
          · refine own_go (B := s₁.setTop (mkF m 74 #[.val (.int ((i1 ^^^ (-1 : Int32)) &&& (i1 - (1 : Int32)))), .val (.int (1 : Int32))] [])) (fun t k => XS.icmpYes X0.here hx rfl (pc0 := 64) (pc' := 74) rfl (Jvm.hb hby d8_64) rfl (flt hc64_18).2.2.2 (by decide) (by decide) k) ?_
            refine own_go (B := s₁.setTop (mkF m 75 #[.val (.int ((i1 ^^^ (-1 : Int32)) &&& (i1 - (1 : Int32)))), .val (.int (1 : Int32))] [(.int (1 : Int32))])) (fun t k => XS.iloadN X0.here hx rfl (Jvm.hb hby d8_74) rfl k) ?_
            refine own_go (B := s₁.setTop (mkF m 76 #[.val (.int ((i1 ^^^ (-1 : Int32)) &&& (i1 - (1 : Int32)))), .val (.int (1 : Int32))] [(.int ((i1 ^^^ (-1 : Int32)) &&& (i1 - (1 : Int32)))), (.int (1 : Int32))])) (fun t k => XS.iloadN X0.here hx rfl (Jvm.hb hby d8_75) rfl k) ?_
            refine own_go (B := s₁.setTop (mkF m 77 #[.val (.int ((i1 ^^^ (-1 : Int32)) &&& (i1 - (1 : Int32)))), .val (.int (1 : Int32))] [(.int (1 : Int32)), (.int ((i1 ^^^ (-1 : Int32)) &&& (i1 - (1 : Int32)))), (.int (1 : Int32))])) (fun t k => XS.iconst X0.here hx rfl (Jvm.hb hby d8_76) k) ?_
            refine own_go (B := s₁.setTop (mkF m 78 #[.val (.int ((i1 ^^^ (-1 : Int32)) &&& (i1 - (1 : Int32)))), .val (.int (1 : Int32))] [(.int ((((i1 ^^^ (-1 : Int32)) &&& (i1 - (1 : Int32))).toUInt32 >>> ((1 : Int32) &&& 31).toUInt32).toInt32)), (.int (1 : Int32))])) (fun t k => XS.iushr X0.here hx rfl (Jvm.hb hby d8_77) rfl k) ?_
            refine own_go (B := s₁.setTop (mkF m 79 #[.val (.int ((i1 ^^^ (-1 : Int32)) &&& (i1 - (1 : Int32)))), .val (.int (1 : Int32))] [(.int ((1 : Int32) + ((((i1 ^^^ (-1 : Int32)) &&& (i1 - (1 : Int32))).toUInt32 >>> ((1 : Int32) &&& 31).toUInt32).toInt32)))])) (fun t k => XS.iadd X0.here hx rfl (Jvm.hb hby d8_78) rfl k) ?_
            refine own_out X0 (v := (some (.int ((1 : Int32) + ((((i1 ^^^ (-1 : Int32)) &&& (i1 - (1 : Int32))).toUInt32 >>> ((1 : Int32) &&& 31).toUInt32).toInt32))))) (fun h => by rw [Bd.returns] at h; cases h) Bd.notSynchronized (fun fs hr => retOut X0 hx (t := .int) Bd.returns rfl (Or.inl ⟨rfl, Or.inl rfl, _, rfl⟩) (Jvm.hb hby d8_79) hr) ?_ (by decide) (by decide)
            show own_Q8 Z i1 h0 n0 (some (.int ((1 : Int32) + ((((i1 ^^^ (-1 : Int32)) &&& (i1 - (1 : Int32))).toUInt32 >>> ((1 : Int32) &&& 31).toUInt32).toInt32)))) s₁.heap _
            rw [e0]
            exact ⟨congrArg (fun z => some (Value.int z)) (by unfold own_f8; simp only [if_pos hc9_3, if_neg hc23_4, if_neg hc38_12, if_neg hc52_16, if_neg hc64_18]), N0, rfl⟩
  · refine own_go (B := s₁.setTop (mkF m 12 #[.val (.int ((i1 ^^^ (-1 : Int32)) &&& (i1 - (1 : Int32)))), .unset] [])) (fun t k => XS.ifNo X0.here hx rfl (Jvm.hb hby d8_9) rfl ((if0 _ _).trans (flt hc9_3).2.2.1) k) ?_
    refine own_go (B := s₁.setTop (mkF m 13 #[.val (.int ((i1 ^^^ (-1 : Int32)) &&& (i1 - (1 : Int32)))), .unset] [(.int ((i1 ^^^ (-1 : Int32)) &&& (i1 - (1 : Int32))))])) (fun t k => XS.iloadN X0.here hx rfl (Jvm.hb hby d8_12) rfl k) ?_
    refine own_go (B := s₁.setTop (mkF m 15 #[.val (.int ((i1 ^^^ (-1 : Int32)) &&& (i1 - (1 : Int32)))), .unset] [(.int (32 : Int32)), (.int ((i1 ^^^ (-1 : Int32)) &&& (i1 - (1 : Int32))))])) (fun t k => XS.bipush X0.here hx rfl (Jvm.hb hby d8_13) k) ?_
    refine own_go (B := s₁.setTop (mkF m 16 #[.val (.int ((i1 ^^^ (-1 : Int32)) &&& (i1 - (1 : Int32)))), .unset] [(.int (((i1 ^^^ (-1 : Int32)) &&& (i1 - (1 : Int32))) &&& (32 : Int32)))])) (fun t k => XS.iand X0.here hx rfl (Jvm.hb hby d8_15) rfl k) ?_
    refine own_out X0 (v := (some (.int (((i1 ^^^ (-1 : Int32)) &&& (i1 - (1 : Int32))) &&& (32 : Int32))))) (fun h => by rw [Bd.returns] at h; cases h) Bd.notSynchronized (fun fs hr => retOut X0 hx (t := .int) Bd.returns rfl (Or.inl ⟨rfl, Or.inl rfl, _, rfl⟩) (Jvm.hb hby d8_16) hr) ?_ (by decide) (by decide)
    show own_Q8 Z i1 h0 n0 (some (.int (((i1 ^^^ (-1 : Int32)) &&& (i1 - (1 : Int32))) &&& (32 : Int32)))) s₁.heap _
    rw [e0]
    exact ⟨congrArg (fun z => some (Value.int z)) (by unfold own_f8; simp only [if_neg hc9_3]), N0, rfl⟩
def own_f7 (q1 : Int64) : Int32 := (if (q1.toInt32) = (0 : Int32) then ((32 : Int32) + (own_f8 (((q1.toUInt64 >>> ((32 : Int32) &&& 0x3f).toInt64.toUInt64).toInt64).toInt32))) else (own_f8 (q1.toInt32)))
theorem pn_java_lang_Long : plainName "java/lang/Long" = true := by first | (simp [plainName, overriddenIn]; done) | decide +kernel
theorem d7_0 : decode jdk_35_method_49_code 0 = .ok (.lload_n 0, 1) := by decide +kernel
theorem d7_1 : decode jdk_35_method_49_code 1 = .ok (.l2i, 1) := by decide +kernel
theorem d7_2 : decode jdk_35_method_49_code 2 = .ok (.istore_n 2, 1) := by decide +kernel
theorem d7_3 : decode jdk_35_method_49_code 3 = .ok (.iload_n 2, 1) := by decide +kernel
theorem d7_4 : decode jdk_35_method_49_code 4 = .ok (.ifCond .ne 17, 3) := by decide +kernel
theorem d7_7 : decode jdk_35_method_49_code 7 = .ok (.bipush 32, 2) := by decide +kernel
theorem d7_9 : decode jdk_35_method_49_code 9 = .ok (.lload_n 0, 1) := by decide +kernel
theorem d7_10 : decode jdk_35_method_49_code 10 = .ok (.bipush 32, 2) := by decide +kernel
theorem d7_12 : decode jdk_35_method_49_code 12 = .ok (.lushr, 1) := by decide +kernel
theorem d7_13 : decode jdk_35_method_49_code 13 = .ok (.l2i, 1) := by decide +kernel
theorem d7_14 : decode jdk_35_method_49_code 14 = .ok (.invokestatic 311, 3) := by decide +kernel
theorem d7_17 : decode jdk_35_method_49_code 17 = .ok (.iadd, 1) := by decide +kernel
theorem d7_18 : decode jdk_35_method_49_code 18 = .ok (.goto 7, 3) := by decide +kernel
theorem d7_21 : decode jdk_35_method_49_code 21 = .ok (.iload_n 2, 1) := by decide +kernel
theorem d7_22 : decode jdk_35_method_49_code 22 = .ok (.invokestatic 311, 3) := by decide +kernel
theorem d7_25 : decode jdk_35_method_49_code 25 = .ok (.ireturn, 1) := by decide +kernel
theorem pd_0 : parseMethodDescriptor "(I)I" = some ⟨[.int], some .int⟩ := by decide +kernel
theorem ef_7 (m : MethodId) (x0 : Int64) : entryFrame m #[(.long x0)] 3 = mkF m 0 #[.val (.long x0), .second, .unset] [] := by first | (simp [entryFrame, mkF, argsToLocals, Value.category]; done) | rfl
def own_Q7 (Z : State) (q1 : Int64) (h0 : Heap) (n0 : Nat) (v : Option Value) (h : Heap) (L : List Loc) : Prop := v = some (.int (own_f7 q1)) ∧ Fr n0 L ∧ h = h0
set_option maxRecDepth 65536 in
set_option maxHeartbeats 40000000 in
theorem rm7 (l : Launch) (Z : State) (a0 : Array Value) (hw : ∀ d ∈ tables_1, d.before a0 Z = true) (ws : List Jvm.Cond) (q1 : Int64) (h0 : Heap) (n0 : Nat) (Z0 : n0 ≤ h0.size)  :
    MetFree l (⟨"java/lang/Long", "numberOfTrailingZeros", "(J)I"⟩ : MethodName) (head1 (Jvm.Cond.code (⟨"java/lang/Long", "numberOfTrailingZeros", "(J)I"⟩ : MethodName) jdk_35_method_49_code 3 (some .int) :: ws) ({ frames := 1, cells := 0, slots := 0, locals := 14 } : Room)) (fun a U => a = #[(.long q1)] ∧ Z.Warmed39 U.vm ∧ U.heap = h0) (fun _ _ _ _ _ => True) (fun _ U o U' => ∃ v L, o = .returned v ∧ own_Q7 Z q1 h0 n0 v U'.heap L ∧ FrameEnd U o U' L ({ frames := 1, cells := 0, slots := 0, locals := 14 } : Room).cells ({ frames := 1, cells := 0, slots := 0, locals := 14 } : Room).slots) := by
  refine MetFree.of_bodySF (plainFor_of_name pn_java_lang_Long) hisR ?_
  intro p e s m args below meth c s₁ Bd hml0 hP hK
  obtain ⟨rfl, hZ, hh⟩ := hP
  have hx := Bd.exec
  have hby := Bd.bytes
  have hml : c.maxLocals = 3 := hml0
  have hown : s.vm.findClass "java/lang/Long" = some m.cls := findClass_of_methodNamed Bd.named
  have hnm := (name_of_methodNamed Bd.named Bd.method).1
  have X0 : Stand p l e ({ frames := 1, cells := 0, slots := 0, locals := 14 } : Room) s m #[(.long q1)] below meth c s₁ [] 0 0 := Stand.of_body Bd
  have e0 : s₁.heap = h0 := by rw [← hh, Bd.state]; rfl
  have N0 := Fr.nil n0
  have Zs := Z0
  show own_Goes p e below s (own_Q7 Z q1 h0 n0) ({ frames := 1, cells := 0, slots := 0, locals := 14 } : Room).cells ({ frames := 1, cells := 0, slots := 0, locals := 14 } : Room).slots _
  refine own_go (B := s₁.setTop (mkF m 0 #[.val (.long q1), .second, .unset] [])) (fun t k => castTop (ef_7 m q1) k) ?_
  refine own_go (B := s₁.setTop (mkF m 1 #[.val (.long q1), .second, .unset] [(.long q1)])) (fun t k => XS.lloadN X0.here hx rfl (Jvm.hb hby d7_0) rfl k) ?_
  refine own_go (B := s₁.setTop (mkF m 2 #[.val (.long q1), .second, .unset] [(.int (q1.toInt32))])) (fun t k => XS.l2i X0.here hx rfl (Jvm.hb hby d7_1) rfl k) ?_
  refine own_go (B := s₁.setTop (mkF m 3 #[.val (.long q1), .second, .val (.int (q1.toInt32))] [])) (fun t k => XS.istoreN X0.here hx rfl (Jvm.hb hby d7_2) rfl (l' := #[.val (.long q1), .second, .val (.int (q1.toInt32))]) rfl k) ?_
  refine own_go (B := s₁.setTop (mkF m 4 #[.val (.long q1), .second, .val (.int (q1.toInt32))] [(.int (q1.toInt32))])) (fun t k => XS.iloadN X0.here hx rfl (Jvm.hb hby d7_3) rfl k) ?_
  by_cases hc4_19 : (q1.toInt32) = (0 : Int32)
  · refine own_go (B := s₁.setTop (mkF m 7 #[.val (.long q1), .second, .val (.int (q1.toInt32))] [])) (fun t k => XS.ifNo X0.here hx rfl (Jvm.hb hby d7_4) rfl ((if0 _ _).trans (teq hc4_19).2) k) ?_
    refine own_go (B := s₁.setTop (mkF m 9 #[.val (.long q1), .second, .val (.int (q1.toInt32))] [(.int (32 : Int32))])) (fun t k => XS.bipush X0.here hx rfl (Jvm.hb hby d7_7) k) ?_
    refine own_go (B := s₁.setTop (mkF m 10 #[.val (.long q1), .second, .val (.int (q1.toInt32))] [(.long q1), (.int (32 : Int32))])) (fun t k => XS.lloadN X0.here hx rfl (Jvm.hb hby d7_9) rfl k) ?_
    refine own_go (B := s₁.setTop (mkF m 12 #[.val (.long q1), .second, .val (.int (q1.toInt32))] [(.int (32 : Int32)), (.long q1), (.int (32 : Int32))])) (fun t k => XS.bipush X0.here hx rfl (Jvm.hb hby d7_10) k) ?_
    refine own_go (B := s₁.setTop (mkF m 13 #[.val (.long q1), .second, .val (.int (q1.toInt32))] [(.long ((q1.toUInt64 >>> ((32 : Int32) &&& 0x3f).toInt64.toUInt64).toInt64)), (.int (32 : Int32))])) (fun t k => XS.lushr X0.here hx rfl (Jvm.hb hby d7_12) rfl k) ?_
    refine own_go (B := s₁.setTop (mkF m 14 #[.val (.long q1), .second, .val (.int (q1.toInt32))] [(.int (((q1.toUInt64 >>> ((32 : Int32) &&& 0x3f).toInt64.toUInt64).toInt64).toInt32)), (.int (32 : Int32))])) (fun t k => XS.l2i X0.here hx rfl (Jvm.hb hby d7_13) rfl k) ?_
    obtain ⟨_, _, ⟨T20, La20, ka20, na20⟩, -, X20, ⟨Lc20, hQ20, l20, y20, z20⟩, st20⟩ := Jvm.LawKit.callS X0 hx (y := (⟨"java/lang/Integer", "numberOfTrailingZeros", "(I)I"⟩ : MethodName)) hown (mvT hZ (own_w hw 39 rfl)) (mvT hZ (own_w hw 40 rfl)) (mvT hZ (own_w hw 41 rfl)) (mvT hZ (own_w hw 42 rfl)) (by decide) (backOf (W := 1) (rm8 l Z a0 hw [] (((q1.toUInt64 >>> ((32 : Int32) &&& 0x3f).toInt64.toUInt64).toInt64).toInt32) h0 n0 Zs) hZ (own_w hw 42 rfl) (own_w hw 41 rfl) (by decide) (by decide)) (g := (mkF m 14 #[.val (.long q1), .second, .val (.int (q1.toInt32))] [(.int (((q1.toUInt64 >>> ((32 : Int32) &&& 0x3f).toInt64.toUInt64).toInt64).toInt32)), (.int (32 : Int32))])) rfl (by rw [hml]; rfl) (argsL := [(.int (((q1.toUInt64 >>> ((32 : Int32) &&& 0x3f).toInt64.toUInt64).toInt64).toInt32))]) (rest := [(.int (32 : Int32))]) (lenOf pd_0 rfl) rfl (by show 2 * 0 + _ ≤ _; exact Nat.le_of_eq rfl) (Jvm.hb hby d7_14) (fun _ _ => ⟨rfl, e0, (by decide : 0 + 0 ≤ _), (by decide : 0 + 0 ≤ _)⟩)
    dsimp only [Pt.U, Pt.locs, Pt.cells, Pt.slots] at X20 l20 y20 z20 st20 hQ20
    subst l20 y20 z20
    obtain ⟨rfl, N20q, e20⟩ := hQ20
    have N20 := Fr.app N0 N20q
    refine own_go (B := T20.setTop (mkF m 17 #[.val (.long q1), .second, .val (.int (q1.toInt32))] [(.int (own_f8 (((q1.toUInt64 >>> ((32 : Int32) &&& 0x3f).toInt64.toUInt64).toInt64).toInt32))), (.int (32 : Int32))])) (fun t k => st20 _ k) ?_
    refine own_go (B := T20.setTop (mkF m 18 #[.val (.long q1), .second, .val (.int (q1.toInt32))] [(.int ((32 : Int32) + (own_f8 (((q1.toUInt64 >>> ((32 : Int32) &&& 0x3f).toInt64.toUInt64).toInt64).toInt32))))])) (fun t k => XS.iadd X20.here hx rfl (Jvm.hb hby d7_17) rfl k) ?_
    refine own_go (B := T20.setTop (mkF m 25 #[.val (.long q1), .second, .val (.int (q1.toInt32))] [(.int ((32 : Int32) + (own_f8 (((q1.toUInt64 >>> ((32 : Int32) &&& 0x3f).toInt64.toUInt64).toInt64).toInt32))))])) (fun t k => XS.goto X20.here hx rfl (pc0 := 18) (pc' := 25) rfl (Jvm.hb hby d7_18) (by decide) (by decide) k) ?_
    refine own_out X20 (v := (some (.int ((32 : Int32) + (own_f8 (((q1.toUInt64 >>> ((32 : Int32) &&& 0x3f).toInt64.toUInt64).toInt64).toInt32)))))) (fun h => by rw [Bd.returns] at h; cases h) Bd.notSynchronized (fun fs hr => retOut X20 hx (t := .int) Bd.returns rfl (Or.inl ⟨rfl, Or.inl rfl, _, rfl⟩) (Jvm.hb hby d7_25) hr) ?_ (by decide) (by decide)
    show own_Q7 Z q1 h0 n0 (some (.int ((32 : Int32) + (own_f8 (((q1.toUInt64 >>> ((32 : Int32) &&& 0x3f).toInt64.toUInt64).toInt64).toInt32))))) T20.heap _
    rw [e20]
    exact ⟨congrArg (fun z => some (Value.int z)) (by unfold own_f7; simp only [if_pos hc4_19]), N20, rfl⟩
  · refine own_go (B := s₁.setTop (mkF m 21 #[.val (.long q1), .second, .val (.int (q1.toInt32))] [])) (fun t k => XS.ifYes X0.here hx rfl (pc0 := 4) (pc' := 21) rfl (Jvm.hb hby d7_4) rfl ((if0 _ _).trans (feq hc4_19).2) (by decide) (by decide) k) ?_
    refine own_go (B := s₁.setTop (mkF m 22 #[.val (.long q1), .second, .val (.int (q1.toInt32))] [(.int (q1.toInt32))])) (fun t k => XS.iloadN X0.here hx rfl (Jvm.hb hby d7_21) rfl k) ?_
    obtain ⟨_, _, ⟨T21, La21, ka21, na21⟩, -, X21, ⟨Lc21, hQ21, l21, y21, z21⟩, st21⟩ := Jvm.LawKit.callS X0 hx (y := (⟨"java/lang/Integer", "numberOfTrailingZeros", "(I)I"⟩ : MethodName)) hown (mvT hZ (own_w hw 39 rfl)) (mvT hZ (own_w hw 40 rfl)) (mvT hZ (own_w hw 41 rfl)) (mvT hZ (own_w hw 42 rfl)) (by decide) (backOf (W := 0) (rm8 l Z a0 hw [] (q1.toInt32) h0 n0 Zs) hZ (own_w hw 42 rfl) (own_w hw 41 rfl) (by decide) (by decide)) (g := (mkF m 22 #[.val (.long q1), .second, .val (.int (q1.toInt32))] [(.int (q1.toInt32))])) rfl (by rw [hml]; rfl) (argsL := [(.int (q1.toInt32))]) (rest := []) (lenOf pd_0 rfl) rfl (by show 2 * 0 + _ ≤ _; exact Nat.le_of_eq rfl) (Jvm.hb hby d7_22) (fun _ _ => ⟨rfl, e0, (by decide : 0 + 0 ≤ _), (by decide : 0 + 0 ≤ _)⟩)
    dsimp only [Pt.U, Pt.locs, Pt.cells, Pt.slots] at X21 l21 y21 z21 st21 hQ21
    subst l21 y21 z21
    obtain ⟨rfl, N21q, e21⟩ := hQ21
    have N21 := Fr.app N0 N21q
    refine own_go (B := T21.setTop (mkF m 25 #[.val (.long q1), .second, .val (.int (q1.toInt32))] [(.int (own_f8 (q1.toInt32)))])) (fun t k => st21 _ k) ?_
    refine own_out X21 (v := (some (.int (own_f8 (q1.toInt32))))) (fun h => by rw [Bd.returns] at h; cases h) Bd.notSynchronized (fun fs hr => retOut X21 hx (t := .int) Bd.returns rfl (Or.inl ⟨rfl, Or.inl rfl, _, rfl⟩) (Jvm.hb hby d7_25) hr) ?_ (by decide) (by decide)
    show own_Q7 Z q1 h0 n0 (some (.int (own_f8 (q1.toInt32)))) T21.heap _
    rw [e21]
    exact ⟨congrArg (fun z => some (Value.int z)) (by unfold own_f7; simp only [if_neg hc4_19]), N21, rfl⟩
def own_f13 (q1 : Int64) : Int64 := (q1 &&& (-q1))
theorem d13_0 : decode jdk_35_method_47_code 0 = .ok (.lload_n 0, 1) := by decide +kernel
theorem d13_1 : decode jdk_35_method_47_code 1 = .ok (.lload_n 0, 1) := by decide +kernel
theorem d13_2 : decode jdk_35_method_47_code 2 = .ok (.lneg, 1) := by decide +kernel
theorem d13_3 : decode jdk_35_method_47_code 3 = .ok (.land, 1) := by decide +kernel
theorem d13_4 : decode jdk_35_method_47_code 4 = .ok (.lreturn, 1) := by decide +kernel
theorem ef_13 (m : MethodId) (x0 : Int64) : entryFrame m #[(.long x0)] 2 = mkF m 0 #[.val (.long x0), .second] [] := by first | (simp [entryFrame, mkF, argsToLocals, Value.category]; done) | rfl
def own_Q13 (Z : State) (q1 : Int64) (h0 : Heap) (n0 : Nat) (v : Option Value) (h : Heap) (L : List Loc) : Prop := v = some (.long (own_f13 q1)) ∧ Fr n0 L ∧ h = h0
set_option maxRecDepth 65536 in
set_option maxHeartbeats 40000000 in
theorem rm13 (l : Launch) (Z : State) (a0 : Array Value) (hw : ∀ d ∈ tables_1, d.before a0 Z = true) (ws : List Jvm.Cond) (q1 : Int64) (h0 : Heap) (n0 : Nat) (Z0 : n0 ≤ h0.size)  :
    MetFree l (⟨"java/lang/Long", "lowestOneBit", "(J)J"⟩ : MethodName) (head1 (Jvm.Cond.code (⟨"java/lang/Long", "lowestOneBit", "(J)J"⟩ : MethodName) jdk_35_method_47_code 2 (some .long) :: ws) ({ frames := 0, cells := 0, slots := 0, locals := 0 } : Room)) (fun a U => a = #[(.long q1)] ∧ Z.Warmed39 U.vm ∧ U.heap = h0) (fun _ _ _ _ _ => True) (fun _ U o U' => ∃ v L, o = .returned v ∧ own_Q13 Z q1 h0 n0 v U'.heap L ∧ FrameEnd U o U' L ({ frames := 0, cells := 0, slots := 0, locals := 0 } : Room).cells ({ frames := 0, cells := 0, slots := 0, locals := 0 } : Room).slots) := by
  refine MetFree.of_bodySF (plainFor_of_name pn_java_lang_Long) hisR ?_
  intro p e s m args below meth c s₁ Bd hml0 hP hK
  obtain ⟨rfl, hZ, hh⟩ := hP
  have hx := Bd.exec
  have hby := Bd.bytes
  have hml : c.maxLocals = 2 := hml0
  have hown : s.vm.findClass "java/lang/Long" = some m.cls := findClass_of_methodNamed Bd.named
  have hnm := (name_of_methodNamed Bd.named Bd.method).1
  have X0 : Stand p l e ({ frames := 0, cells := 0, slots := 0, locals := 0 } : Room) s m #[(.long q1)] below meth c s₁ [] 0 0 := Stand.of_body Bd
  have e0 : s₁.heap = h0 := by rw [← hh, Bd.state]; rfl
  have N0 := Fr.nil n0
  have Zs := Z0
  show own_Goes p e below s (own_Q13 Z q1 h0 n0) ({ frames := 0, cells := 0, slots := 0, locals := 0 } : Room).cells ({ frames := 0, cells := 0, slots := 0, locals := 0 } : Room).slots _
  refine own_go (B := s₁.setTop (mkF m 0 #[.val (.long q1), .second] [])) (fun t k => castTop (ef_13 m q1) k) ?_
  refine own_go (B := s₁.setTop (mkF m 1 #[.val (.long q1), .second] [(.long q1)])) (fun t k => XS.lloadN X0.here hx rfl (Jvm.hb hby d13_0) rfl k) ?_
  refine own_go (B := s₁.setTop (mkF m 2 #[.val (.long q1), .second] [(.long q1), (.long q1)])) (fun t k => XS.lloadN X0.here hx rfl (Jvm.hb hby d13_1) rfl k) ?_
  refine own_go (B := s₁.setTop (mkF m 3 #[.val (.long q1), .second] [(.long (-q1)), (.long q1)])) (fun t k => XS.lneg X0.here hx rfl (Jvm.hb hby d13_2) rfl k) ?_
  refine own_go (B := s₁.setTop (mkF m 4 #[.val (.long q1), .second] [(.long (q1 &&& (-q1)))])) (fun t k => XS.land X0.here hx rfl (Jvm.hb hby d13_3) rfl k) ?_
  refine own_out X0 (v := (some (.long (q1 &&& (-q1))))) (fun h => by rw [Bd.returns] at h; cases h) Bd.notSynchronized (fun fs hr => retOut X0 hx (t := .long) Bd.returns rfl (Or.inr (Or.inl ⟨rfl, rfl, _, rfl⟩)) (Jvm.hb hby d13_4) hr) ?_ (by decide) (by decide)
  show own_Q13 Z q1 h0 n0 (some (.long (q1 &&& (-q1)))) s₁.heap _
  rw [e0]
  exact ⟨congrArg (fun z => some (Value.long z)) (rfl), N0, rfl⟩
def own_b1 (x : Int64) : Int64 := x - (((x.toUInt64 >>> ((1 : Int32) &&& 0x3f).toInt64.toUInt64).toInt64) &&& (6148914691236517205 : Int64))
def own_b2 (x : Int64) : Int64 := (x &&& (3689348814741910323 : Int64)) + (((x.toUInt64 >>> ((2 : Int32) &&& 0x3f).toInt64.toUInt64).toInt64) &&& (3689348814741910323 : Int64))
def own_b3 (x : Int64) : Int64 := (x + ((x.toUInt64 >>> ((4 : Int32) &&& 0x3f).toInt64.toUInt64).toInt64)) &&& (1085102592571150095 : Int64)
def own_b4 (x : Int64) : Int64 := x + ((x.toUInt64 >>> ((8 : Int32) &&& 0x3f).toInt64.toUInt64).toInt64)
def own_b5 (x : Int64) : Int64 := x + ((x.toUInt64 >>> ((16 : Int32) &&& 0x3f).toInt64.toUInt64).toInt64)
def own_b6 (x : Int64) : Int64 := x + ((x.toUInt64 >>> ((32 : Int32) &&& 0x3f).toInt64.toUInt64).toInt64)
def own_bc (x : Int64) : Int32 := ((own_b6 (own_b5 (own_b4 (own_b3 (own_b2 (own_b1 x)))))).toInt32) &&& (127 : Int32)
theorem d9_0 : decode jdk_35_method_50_code 0 = .ok (.lload_n 0, 1) := by decide +kernel
theorem d9_1 : decode jdk_35_method_50_code 1 = .ok (.lload_n 0, 1) := by decide +kernel
theorem d9_2 : decode jdk_35_method_50_code 2 = .ok (.iconst 1, 1) := by decide +kernel
theorem d9_3 : decode jdk_35_method_50_code 3 = .ok (.lushr, 1) := by decide +kernel
theorem d9_4 : decode jdk_35_method_50_code 4 = .ok (.ldc2_w 314, 3) := by decide +kernel
theorem d9_7 : decode jdk_35_method_50_code 7 = .ok (.land, 1) := by decide +kernel
theorem d9_8 : decode jdk_35_method_50_code 8 = .ok (.lsub, 1) := by decide +kernel
theorem d9_9 : decode jdk_35_method_50_code 9 = .ok (.lstore_n 0, 1) := by decide +kernel
theorem d9_10 : decode jdk_35_method_50_code 10 = .ok (.lload_n 0, 1) := by decide +kernel
theorem d9_11 : decode jdk_35_method_50_code 11 = .ok (.ldc2_w 316, 3) := by decide +kernel
theorem d9_14 : decode jdk_35_method_50_code 14 = .ok (.land, 1) := by decide +kernel
theorem d9_15 : decode jdk_35_method_50_code 15 = .ok (.lload_n 0, 1) := by decide +kernel
theorem d9_16 : decode jdk_35_method_50_code 16 = .ok (.iconst 2, 1) := by decide +kernel
theorem d9_17 : decode jdk_35_method_50_code 17 = .ok (.lushr, 1) := by decide +kernel
theorem d9_18 : decode jdk_35_method_50_code 18 = .ok (.ldc2_w 316, 3) := by decide +kernel
theorem d9_21 : decode jdk_35_method_50_code 21 = .ok (.land, 1) := by decide +kernel
theorem d9_22 : decode jdk_35_method_50_code 22 = .ok (.ladd, 1) := by decide +kernel
theorem d9_23 : decode jdk_35_method_50_code 23 = .ok (.lstore_n 0, 1) := by decide +kernel
theorem d9_24 : decode jdk_35_method_50_code 24 = .ok (.lload_n 0, 1) := by decide +kernel
theorem d9_25 : decode jdk_35_method_50_code 25 = .ok (.lload_n 0, 1) := by decide +kernel
theorem d9_26 : decode jdk_35_method_50_code 26 = .ok (.iconst 4, 1) := by decide +kernel
theorem d9_27 : decode jdk_35_method_50_code 27 = .ok (.lushr, 1) := by decide +kernel
theorem d9_28 : decode jdk_35_method_50_code 28 = .ok (.ladd, 1) := by decide +kernel
theorem d9_29 : decode jdk_35_method_50_code 29 = .ok (.ldc2_w 318, 3) := by decide +kernel
theorem d9_32 : decode jdk_35_method_50_code 32 = .ok (.land, 1) := by decide +kernel
theorem d9_33 : decode jdk_35_method_50_code 33 = .ok (.lstore_n 0, 1) := by decide +kernel
theorem d9_34 : decode jdk_35_method_50_code 34 = .ok (.lload_n 0, 1) := by decide +kernel
theorem d9_35 : decode jdk_35_method_50_code 35 = .ok (.lload_n 0, 1) := by decide +kernel
theorem d9_36 : decode jdk_35_method_50_code 36 = .ok (.bipush 8, 2) := by decide +kernel
theorem d9_38 : decode jdk_35_method_50_code 38 = .ok (.lushr, 1) := by decide +kernel
theorem d9_39 : decode jdk_35_method_50_code 39 = .ok (.ladd, 1) := by decide +kernel
theorem d9_40 : decode jdk_35_method_50_code 40 = .ok (.lstore_n 0, 1) := by decide +kernel
theorem d9_41 : decode jdk_35_method_50_code 41 = .ok (.lload_n 0, 1) := by decide +kernel
theorem d9_42 : decode jdk_35_method_50_code 42 = .ok (.lload_n 0, 1) := by decide +kernel
theorem d9_43 : decode jdk_35_method_50_code 43 = .ok (.bipush 16, 2) := by decide +kernel
theorem d9_45 : decode jdk_35_method_50_code 45 = .ok (.lushr, 1) := by decide +kernel
theorem d9_46 : decode jdk_35_method_50_code 46 = .ok (.ladd, 1) := by decide +kernel
theorem d9_47 : decode jdk_35_method_50_code 47 = .ok (.lstore_n 0, 1) := by decide +kernel
theorem d9_48 : decode jdk_35_method_50_code 48 = .ok (.lload_n 0, 1) := by decide +kernel
theorem d9_49 : decode jdk_35_method_50_code 49 = .ok (.lload_n 0, 1) := by decide +kernel
theorem d9_50 : decode jdk_35_method_50_code 50 = .ok (.bipush 32, 2) := by decide +kernel
theorem d9_52 : decode jdk_35_method_50_code 52 = .ok (.lushr, 1) := by decide +kernel
theorem d9_53 : decode jdk_35_method_50_code 53 = .ok (.ladd, 1) := by decide +kernel
theorem d9_54 : decode jdk_35_method_50_code 54 = .ok (.lstore_n 0, 1) := by decide +kernel
theorem d9_55 : decode jdk_35_method_50_code 55 = .ok (.lload_n 0, 1) := by decide +kernel
theorem d9_56 : decode jdk_35_method_50_code 56 = .ok (.l2i, 1) := by decide +kernel
theorem d9_57 : decode jdk_35_method_50_code 57 = .ok (.bipush 127, 2) := by decide +kernel
theorem d9_59 : decode jdk_35_method_50_code 59 = .ok (.iand, 1) := by decide +kernel
theorem d9_60 : decode jdk_35_method_50_code 60 = .ok (.ireturn, 1) := by decide +kernel
theorem ef_9 (m : MethodId) (x0 : Int64) : entryFrame m #[(.long x0)] 2 = mkF m 0 #[.val (.long x0), .second] [] := by first | (simp [entryFrame, mkF, argsToLocals, Value.category]; done) | rfl
def own_Q9 (Z : State) (q1 : Int64) (h0 : Heap) (n0 : Nat) (v : Option Value) (h : Heap) (L : List Loc) : Prop := v = some (.int (own_bc q1)) ∧ Fr n0 L ∧ h = h0
set_option maxRecDepth 65536 in
set_option maxHeartbeats 40000000 in
theorem rm9 (l : Launch) (Z : State) (a0 : Array Value) (hw : ∀ d ∈ tables_1, d.before a0 Z = true) (ws : List Jvm.Cond) (q1 : Int64) (h0 : Heap) (n0 : Nat) (Z0 : n0 ≤ h0.size)  :
    MetFree l (⟨"java/lang/Long", "bitCount", "(J)I"⟩ : MethodName) (head1 (Jvm.Cond.code (⟨"java/lang/Long", "bitCount", "(J)I"⟩ : MethodName) jdk_35_method_50_code 2 (some .int) :: ws) ({ frames := 0, cells := 0, slots := 0, locals := 0 } : Room)) (fun a U => a = #[(.long q1)] ∧ Z.Warmed39 U.vm ∧ U.heap = h0) (fun _ _ _ _ _ => True) (fun _ U o U' => ∃ v L, o = .returned v ∧ own_Q9 Z q1 h0 n0 v U'.heap L ∧ FrameEnd U o U' L ({ frames := 0, cells := 0, slots := 0, locals := 0 } : Room).cells ({ frames := 0, cells := 0, slots := 0, locals := 0 } : Room).slots) := by
  refine MetFree.of_bodySF (plainFor_of_name pn_java_lang_Long) hisR ?_
  intro p e s m args below meth c s₁ Bd hml0 hP hK
  obtain ⟨rfl, hZ, hh⟩ := hP
  have hx := Bd.exec
  have hby := Bd.bytes
  have hml : c.maxLocals = 2 := hml0
  have hown : s.vm.findClass "java/lang/Long" = some m.cls := findClass_of_methodNamed Bd.named
  have hnm := (name_of_methodNamed Bd.named Bd.method).1
  have X0 : Stand p l e ({ frames := 0, cells := 0, slots := 0, locals := 0 } : Room) s m #[(.long q1)] below meth c s₁ [] 0 0 := Stand.of_body Bd
  have e0 : s₁.heap = h0 := by rw [← hh, Bd.state]; rfl
  have N0 := Fr.nil n0
  have Zs := Z0
  show own_Goes p e below s (own_Q9 Z q1 h0 n0) ({ frames := 0, cells := 0, slots := 0, locals := 0 } : Room).cells ({ frames := 0, cells := 0, slots := 0, locals := 0 } : Room).slots _
  refine own_go (B := s₁.setTop (mkF m 0 #[.val (.long q1), .second] [])) (fun t k => castTop (ef_9 m q1) k) ?_
  refine own_go (B := s₁.setTop (mkF m 1 #[.val (.long q1), .second] [(.long q1)])) (fun t k => XS.lloadN X0.here hx rfl (Jvm.hb hby d9_0) rfl k) ?_
  refine own_go (B := s₁.setTop (mkF m 2 #[.val (.long q1), .second] [(.long q1), (.long q1)])) (fun t k => XS.lloadN X0.here hx rfl (Jvm.hb hby d9_1) rfl k) ?_
  refine own_go (B := s₁.setTop (mkF m 3 #[.val (.long q1), .second] [(.int (1 : Int32)), (.long q1), (.long q1)])) (fun t k => XS.iconst X0.here hx rfl (Jvm.hb hby d9_2) k) ?_
  refine own_go (B := s₁.setTop (mkF m 4 #[.val (.long q1), .second] [(.long ((q1.toUInt64 >>> ((1 : Int32) &&& 0x3f).toInt64.toUInt64).toInt64)), (.long q1)])) (fun t k => XS.lushr X0.here hx rfl (Jvm.hb hby d9_3) rfl k) ?_
  refine own_go (B := s₁.setTop (mkF m 7 #[.val (.long q1), .second] [(.long (6148914691236517205 : Int64)), (.long ((q1.toUInt64 >>> ((1 : Int32) &&& 0x3f).toInt64.toUInt64).toInt64)), (.long q1)])) (fun t k => X0.ldc2Long hx hown (mvT hZ (own_w hw 46 rfl)) (g := (mkF m 4 #[.val (.long q1), .second] [(.long ((q1.toUInt64 >>> ((1 : Int32) &&& 0x3f).toInt64.toUInt64).toInt64)), (.long q1)])) rfl (Jvm.hb hby d9_4) _ k) ?_
  refine own_go (B := s₁.setTop (mkF m 8 #[.val (.long q1), .second] [(.long (((q1.toUInt64 >>> ((1 : Int32) &&& 0x3f).toInt64.toUInt64).toInt64) &&& (6148914691236517205 : Int64))), (.long q1)])) (fun t k => XS.land X0.here hx rfl (Jvm.hb hby d9_7) rfl k) ?_
  refine own_go (B := s₁.setTop (mkF m 9 #[.val (.long q1), .second] [(.long (q1 - (((q1.toUInt64 >>> ((1 : Int32) &&& 0x3f).toInt64.toUInt64).toInt64) &&& (6148914691236517205 : Int64))))])) (fun t k => XS.lsub X0.here hx rfl (Jvm.hb hby d9_8) rfl k) ?_
  obtain ⟨vz0, hvz0⟩ : ∃ z : Int64, z = (q1 - (((q1.toUInt64 >>> ((1 : Int32) &&& 0x3f).toInt64.toUInt64).toInt64) &&& (6148914691236517205 : Int64))) := ⟨_, rfl⟩
  rw [← hvz0]
  refine own_go (B := s₁.setTop (mkF m 10 #[.val (.long vz0), .second] [])) (fun t k => XS.lstoreN X0.here hx rfl (Jvm.hb hby d9_9) rfl (l' := #[.val (.long vz0), .second]) rfl k) ?_
  refine own_go (B := s₁.setTop (mkF m 11 #[.val (.long vz0), .second] [(.long vz0)])) (fun t k => XS.lloadN X0.here hx rfl (Jvm.hb hby d9_10) rfl k) ?_
  refine own_go (B := s₁.setTop (mkF m 14 #[.val (.long vz0), .second] [(.long (3689348814741910323 : Int64)), (.long vz0)])) (fun t k => X0.ldc2Long hx hown (mvT hZ (own_w hw 47 rfl)) (g := (mkF m 11 #[.val (.long vz0), .second] [(.long vz0)])) rfl (Jvm.hb hby d9_11) _ k) ?_
  refine own_go (B := s₁.setTop (mkF m 15 #[.val (.long vz0), .second] [(.long (vz0 &&& (3689348814741910323 : Int64)))])) (fun t k => XS.land X0.here hx rfl (Jvm.hb hby d9_14) rfl k) ?_
  refine own_go (B := s₁.setTop (mkF m 16 #[.val (.long vz0), .second] [(.long vz0), (.long (vz0 &&& (3689348814741910323 : Int64)))])) (fun t k => XS.lloadN X0.here hx rfl (Jvm.hb hby d9_15) rfl k) ?_
  refine own_go (B := s₁.setTop (mkF m 17 #[.val (.long vz0), .second] [(.int (2 : Int32)), (.long vz0), (.long (vz0 &&& (3689348814741910323 : Int64)))])) (fun t k => XS.iconst X0.here hx rfl (Jvm.hb hby d9_16) k) ?_
  refine own_go (B := s₁.setTop (mkF m 18 #[.val (.long vz0), .second] [(.long ((vz0.toUInt64 >>> ((2 : Int32) &&& 0x3f).toInt64.toUInt64).toInt64)), (.long (vz0 &&& (3689348814741910323 : Int64)))])) (fun t k => XS.lushr X0.here hx rfl (Jvm.hb hby d9_17) rfl k) ?_
  refine own_go (B := s₁.setTop (mkF m 21 #[.val (.long vz0), .second] [(.long (3689348814741910323 : Int64)), (.long ((vz0.toUInt64 >>> ((2 : Int32) &&& 0x3f).toInt64.toUInt64).toInt64)), (.long (vz0 &&& (3689348814741910323 : Int64)))])) (fun t k => X0.ldc2Long hx hown (mvT hZ (own_w hw 47 rfl)) (g := (mkF m 18 #[.val (.long vz0), .second] [(.long ((vz0.toUInt64 >>> ((2 : Int32) &&& 0x3f).toInt64.toUInt64).toInt64)), (.long (vz0 &&& (3689348814741910323 : Int64)))])) rfl (Jvm.hb hby d9_18) _ k) ?_
  refine own_go (B := s₁.setTop (mkF m 22 #[.val (.long vz0), .second] [(.long (((vz0.toUInt64 >>> ((2 : Int32) &&& 0x3f).toInt64.toUInt64).toInt64) &&& (3689348814741910323 : Int64))), (.long (vz0 &&& (3689348814741910323 : Int64)))])) (fun t k => XS.land X0.here hx rfl (Jvm.hb hby d9_21) rfl k) ?_
  refine own_go (B := s₁.setTop (mkF m 23 #[.val (.long vz0), .second] [(.long ((vz0 &&& (3689348814741910323 : Int64)) + (((vz0.toUInt64 >>> ((2 : Int32) &&& 0x3f).toInt64.toUInt64).toInt64) &&& (3689348814741910323 : Int64))))])) (fun t k => XS.ladd X0.here hx rfl (Jvm.hb hby d9_22) rfl k) ?_
  obtain ⟨vz1, hvz1⟩ : ∃ z : Int64, z = ((vz0 &&& (3689348814741910323 : Int64)) + (((vz0.toUInt64 >>> ((2 : Int32) &&& 0x3f).toInt64.toUInt64).toInt64) &&& (3689348814741910323 : Int64))) := ⟨_, rfl⟩
  rw [← hvz1]
  refine own_go (B := s₁.setTop (mkF m 24 #[.val (.long vz1), .second] [])) (fun t k => XS.lstoreN X0.here hx rfl (Jvm.hb hby d9_23) rfl (l' := #[.val (.long vz1), .second]) rfl k) ?_
  refine own_go (B := s₁.setTop (mkF m 25 #[.val (.long vz1), .second] [(.long vz1)])) (fun t k => XS.lloadN X0.here hx rfl (Jvm.hb hby d9_24) rfl k) ?_
  refine own_go (B := s₁.setTop (mkF m 26 #[.val (.long vz1), .second] [(.long vz1), (.long vz1)])) (fun t k => XS.lloadN X0.here hx rfl (Jvm.hb hby d9_25) rfl k) ?_
  refine own_go (B := s₁.setTop (mkF m 27 #[.val (.long vz1), .second] [(.int (4 : Int32)), (.long vz1), (.long vz1)])) (fun t k => XS.iconst X0.here hx rfl (Jvm.hb hby d9_26) k) ?_
  refine own_go (B := s₁.setTop (mkF m 28 #[.val (.long vz1), .second] [(.long ((vz1.toUInt64 >>> ((4 : Int32) &&& 0x3f).toInt64.toUInt64).toInt64)), (.long vz1)])) (fun t k => XS.lushr X0.here hx rfl (Jvm.hb hby d9_27) rfl k) ?_
  refine own_go (B := s₁.setTop (mkF m 29 #[.val (.long vz1), .second] [(.long (vz1 + ((vz1.toUInt64 >>> ((4 : Int32) &&& 0x3f).toInt64.toUInt64).toInt64)))])) (fun t k => XS.ladd X0.here hx rfl (Jvm.hb hby d9_28) rfl k) ?_
  refine own_go (B := s₁.setTop (mkF m 32 #[.val (.long vz1), .second] [(.long (1085102592571150095 : Int64)), (.long (vz1 + ((vz1.toUInt64 >>> ((4 : Int32) &&& 0x3f).toInt64.toUInt64).toInt64)))])) (fun t k => X0.ldc2Long hx hown (mvT hZ (own_w hw 48 rfl)) (g := (mkF m 29 #[.val (.long vz1), .second] [(.long (vz1 + ((vz1.toUInt64 >>> ((4 : Int32) &&& 0x3f).toInt64.toUInt64).toInt64)))])) rfl (Jvm.hb hby d9_29) _ k) ?_
  refine own_go (B := s₁.setTop (mkF m 33 #[.val (.long vz1), .second] [(.long ((vz1 + ((vz1.toUInt64 >>> ((4 : Int32) &&& 0x3f).toInt64.toUInt64).toInt64)) &&& (1085102592571150095 : Int64)))])) (fun t k => XS.land X0.here hx rfl (Jvm.hb hby d9_32) rfl k) ?_
  obtain ⟨vz2, hvz2⟩ : ∃ z : Int64, z = ((vz1 + ((vz1.toUInt64 >>> ((4 : Int32) &&& 0x3f).toInt64.toUInt64).toInt64)) &&& (1085102592571150095 : Int64)) := ⟨_, rfl⟩
  rw [← hvz2]
  refine own_go (B := s₁.setTop (mkF m 34 #[.val (.long vz2), .second] [])) (fun t k => XS.lstoreN X0.here hx rfl (Jvm.hb hby d9_33) rfl (l' := #[.val (.long vz2), .second]) rfl k) ?_
  refine own_go (B := s₁.setTop (mkF m 35 #[.val (.long vz2), .second] [(.long vz2)])) (fun t k => XS.lloadN X0.here hx rfl (Jvm.hb hby d9_34) rfl k) ?_
  refine own_go (B := s₁.setTop (mkF m 36 #[.val (.long vz2), .second] [(.long vz2), (.long vz2)])) (fun t k => XS.lloadN X0.here hx rfl (Jvm.hb hby d9_35) rfl k) ?_
  refine own_go (B := s₁.setTop (mkF m 38 #[.val (.long vz2), .second] [(.int (8 : Int32)), (.long vz2), (.long vz2)])) (fun t k => XS.bipush X0.here hx rfl (Jvm.hb hby d9_36) k) ?_
  refine own_go (B := s₁.setTop (mkF m 39 #[.val (.long vz2), .second] [(.long ((vz2.toUInt64 >>> ((8 : Int32) &&& 0x3f).toInt64.toUInt64).toInt64)), (.long vz2)])) (fun t k => XS.lushr X0.here hx rfl (Jvm.hb hby d9_38) rfl k) ?_
  refine own_go (B := s₁.setTop (mkF m 40 #[.val (.long vz2), .second] [(.long (vz2 + ((vz2.toUInt64 >>> ((8 : Int32) &&& 0x3f).toInt64.toUInt64).toInt64)))])) (fun t k => XS.ladd X0.here hx rfl (Jvm.hb hby d9_39) rfl k) ?_
  obtain ⟨vz3, hvz3⟩ : ∃ z : Int64, z = (vz2 + ((vz2.toUInt64 >>> ((8 : Int32) &&& 0x3f).toInt64.toUInt64).toInt64)) := ⟨_, rfl⟩
  rw [← hvz3]
  refine own_go (B := s₁.setTop (mkF m 41 #[.val (.long vz3), .second] [])) (fun t k => XS.lstoreN X0.here hx rfl (Jvm.hb hby d9_40) rfl (l' := #[.val (.long vz3), .second]) rfl k) ?_
  refine own_go (B := s₁.setTop (mkF m 42 #[.val (.long vz3), .second] [(.long vz3)])) (fun t k => XS.lloadN X0.here hx rfl (Jvm.hb hby d9_41) rfl k) ?_
  refine own_go (B := s₁.setTop (mkF m 43 #[.val (.long vz3), .second] [(.long vz3), (.long vz3)])) (fun t k => XS.lloadN X0.here hx rfl (Jvm.hb hby d9_42) rfl k) ?_
  refine own_go (B := s₁.setTop (mkF m 45 #[.val (.long vz3), .second] [(.int (16 : Int32)), (.long vz3), (.long vz3)])) (fun t k => XS.bipush X0.here hx rfl (Jvm.hb hby d9_43) k) ?_
  refine own_go (B := s₁.setTop (mkF m 46 #[.val (.long vz3), .second] [(.long ((vz3.toUInt64 >>> ((16 : Int32) &&& 0x3f).toInt64.toUInt64).toInt64)), (.long vz3)])) (fun t k => XS.lushr X0.here hx rfl (Jvm.hb hby d9_45) rfl k) ?_
  refine own_go (B := s₁.setTop (mkF m 47 #[.val (.long vz3), .second] [(.long (vz3 + ((vz3.toUInt64 >>> ((16 : Int32) &&& 0x3f).toInt64.toUInt64).toInt64)))])) (fun t k => XS.ladd X0.here hx rfl (Jvm.hb hby d9_46) rfl k) ?_
  obtain ⟨vz4, hvz4⟩ : ∃ z : Int64, z = (vz3 + ((vz3.toUInt64 >>> ((16 : Int32) &&& 0x3f).toInt64.toUInt64).toInt64)) := ⟨_, rfl⟩
  rw [← hvz4]
  refine own_go (B := s₁.setTop (mkF m 48 #[.val (.long vz4), .second] [])) (fun t k => XS.lstoreN X0.here hx rfl (Jvm.hb hby d9_47) rfl (l' := #[.val (.long vz4), .second]) rfl k) ?_
  refine own_go (B := s₁.setTop (mkF m 49 #[.val (.long vz4), .second] [(.long vz4)])) (fun t k => XS.lloadN X0.here hx rfl (Jvm.hb hby d9_48) rfl k) ?_
  refine own_go (B := s₁.setTop (mkF m 50 #[.val (.long vz4), .second] [(.long vz4), (.long vz4)])) (fun t k => XS.lloadN X0.here hx rfl (Jvm.hb hby d9_49) rfl k) ?_
  refine own_go (B := s₁.setTop (mkF m 52 #[.val (.long vz4), .second] [(.int (32 : Int32)), (.long vz4), (.long vz4)])) (fun t k => XS.bipush X0.here hx rfl (Jvm.hb hby d9_50) k) ?_
  refine own_go (B := s₁.setTop (mkF m 53 #[.val (.long vz4), .second] [(.long ((vz4.toUInt64 >>> ((32 : Int32) &&& 0x3f).toInt64.toUInt64).toInt64)), (.long vz4)])) (fun t k => XS.lushr X0.here hx rfl (Jvm.hb hby d9_52) rfl k) ?_
  refine own_go (B := s₁.setTop (mkF m 54 #[.val (.long vz4), .second] [(.long (vz4 + ((vz4.toUInt64 >>> ((32 : Int32) &&& 0x3f).toInt64.toUInt64).toInt64)))])) (fun t k => XS.ladd X0.here hx rfl (Jvm.hb hby d9_53) rfl k) ?_
  obtain ⟨vz5, hvz5⟩ : ∃ z : Int64, z = (vz4 + ((vz4.toUInt64 >>> ((32 : Int32) &&& 0x3f).toInt64.toUInt64).toInt64)) := ⟨_, rfl⟩
  rw [← hvz5]
  refine own_go (B := s₁.setTop (mkF m 55 #[.val (.long vz5), .second] [])) (fun t k => XS.lstoreN X0.here hx rfl (Jvm.hb hby d9_54) rfl (l' := #[.val (.long vz5), .second]) rfl k) ?_
  refine own_go (B := s₁.setTop (mkF m 56 #[.val (.long vz5), .second] [(.long vz5)])) (fun t k => XS.lloadN X0.here hx rfl (Jvm.hb hby d9_55) rfl k) ?_
  refine own_go (B := s₁.setTop (mkF m 57 #[.val (.long vz5), .second] [(.int (vz5.toInt32))])) (fun t k => XS.l2i X0.here hx rfl (Jvm.hb hby d9_56) rfl k) ?_
  refine own_go (B := s₁.setTop (mkF m 59 #[.val (.long vz5), .second] [(.int (127 : Int32)), (.int (vz5.toInt32))])) (fun t k => XS.bipush X0.here hx rfl (Jvm.hb hby d9_57) k) ?_
  refine own_go (B := s₁.setTop (mkF m 60 #[.val (.long vz5), .second] [(.int ((vz5.toInt32) &&& (127 : Int32)))])) (fun t k => XS.iand X0.here hx rfl (Jvm.hb hby d9_59) rfl k) ?_
  refine own_out X0 (v := (some (.int ((vz5.toInt32) &&& (127 : Int32))))) (fun h => by rw [Bd.returns] at h; cases h) Bd.notSynchronized (fun fs hr => retOut X0 hx (t := .int) Bd.returns rfl (Or.inl ⟨rfl, Or.inl rfl, _, rfl⟩) (Jvm.hb hby d9_60) hr) ?_ (by decide) (by decide)
  show own_Q9 Z q1 h0 n0 (some (.int ((vz5.toInt32) &&& (127 : Int32)))) s₁.heap _
  rw [e0]
  exact ⟨congrArg (fun z => some (Value.int z)) (by subst hvz0; subst hvz1; subst hvz2; subst hvz3; subst hvz4; subst hvz5; rfl), N0, rfl⟩
def own_nw (zx : Int32) (zlw : Int32) (zlo : Int32) (zg : Nat → Int64) : Int32 := (if zx < zlw then (if ((zg (own_ix zx)) &&& ((-1 : Int64) <<< (zx &&& 0x3f).toInt64)) = (0 : Int64) then (if ((zx / (64 : Int32)) + (1 : Int32)) = zlo then (-1 : Int32) else (if (zg (own_ix zx + 1)) = (0 : Int64) then (-1 : Int32) else (((64 : Int32) * ((zx / (64 : Int32)) + (1 : Int32))) + (own_f7 (zg (own_ix zx + 1)))))) else (((64 : Int32) * (zx / (64 : Int32))) + (own_f7 ((zg (own_ix zx)) &&& ((-1 : Int64) <<< (zx &&& 0x3f).toInt64))))) else (-1 : Int32))
theorem pn_com_example_netloom_netloom_embed_NodeSet : plainName "com/example/netloom/netloom/embed/NodeSet" = true := by first | (simp [plainName, overriddenIn]; done) | decide +kernel
theorem d6_0 : decode prog_34_method_15_code 0 = .ok (.iload_n 1, 1) := by decide +kernel
theorem d6_1 : decode prog_34_method_15_code 1 = .ok (.aload_n 0, 1) := by decide +kernel
theorem d6_2 : decode prog_34_method_15_code 2 = .ok (.getfield 7, 3) := by decide +kernel
theorem d6_5 : decode prog_34_method_15_code 5 = .ok (.arraylength, 1) := by decide +kernel
theorem d6_6 : decode prog_34_method_15_code 6 = .ok (.if_icmp .lt 5, 3) := by decide +kernel
theorem d6_9 : decode prog_34_method_15_code 9 = .ok (.iconst (-1), 1) := by decide +kernel
theorem d6_10 : decode prog_34_method_15_code 10 = .ok (.ireturn, 1) := by decide +kernel
theorem d6_11 : decode prog_34_method_15_code 11 = .ok (.iload_n 1, 1) := by decide +kernel
theorem d6_12 : decode prog_34_method_15_code 12 = .ok (.bipush 64, 2) := by decide +kernel
theorem d6_14 : decode prog_34_method_15_code 14 = .ok (.idiv, 1) := by decide +kernel
theorem d6_15 : decode prog_34_method_15_code 15 = .ok (.istore_n 2, 1) := by decide +kernel
theorem d6_16 : decode prog_34_method_15_code 16 = .ok (.aload_n 0, 1) := by decide +kernel
theorem d6_17 : decode prog_34_method_15_code 17 = .ok (.getfield 13, 3) := by decide +kernel
theorem d6_20 : decode prog_34_method_15_code 20 = .ok (.iload_n 2, 1) := by decide +kernel
theorem d6_21 : decode prog_34_method_15_code 21 = .ok (.laload, 1) := by decide +kernel
theorem d6_22 : decode prog_34_method_15_code 22 = .ok (.ldc2_w 56, 3) := by decide +kernel
theorem d6_25 : decode prog_34_method_15_code 25 = .ok (.iload_n 1, 1) := by decide +kernel
theorem d6_26 : decode prog_34_method_15_code 26 = .ok (.lshl, 1) := by decide +kernel
theorem d6_27 : decode prog_34_method_15_code 27 = .ok (.land, 1) := by decide +kernel
theorem d6_28 : decode prog_34_method_15_code 28 = .ok (.lstore_n 3, 1) := by decide +kernel
theorem d6_29 : decode prog_34_method_15_code 29 = .ok (.lload_n 3, 1) := by decide +kernel
theorem d6_30 : decode prog_34_method_15_code 30 = .ok (.lconst 0, 1) := by decide +kernel
theorem d6_31 : decode prog_34_method_15_code 31 = .ok (.lcmp, 1) := by decide +kernel
theorem d6_32 : decode prog_34_method_15_code 32 = .ok (.ifCond .ne 27, 3) := by decide +kernel
theorem d6_35 : decode prog_34_method_15_code 35 = .ok (.iinc 2 1, 3) := by decide +kernel
theorem d6_38 : decode prog_34_method_15_code 38 = .ok (.iload_n 2, 1) := by decide +kernel
theorem d6_39 : decode prog_34_method_15_code 39 = .ok (.aload_n 0, 1) := by decide +kernel
theorem d6_40 : decode prog_34_method_15_code 40 = .ok (.getfield 13, 3) := by decide +kernel
theorem d6_43 : decode prog_34_method_15_code 43 = .ok (.arraylength, 1) := by decide +kernel
theorem d6_44 : decode prog_34_method_15_code 44 = .ok (.if_icmp .ne 5, 3) := by decide +kernel
theorem d6_47 : decode prog_34_method_15_code 47 = .ok (.iconst (-1), 1) := by decide +kernel
theorem d6_48 : decode prog_34_method_15_code 48 = .ok (.ireturn, 1) := by decide +kernel
theorem d6_49 : decode prog_34_method_15_code 49 = .ok (.aload_n 0, 1) := by decide +kernel
theorem d6_50 : decode prog_34_method_15_code 50 = .ok (.getfield 13, 3) := by decide +kernel
theorem d6_53 : decode prog_34_method_15_code 53 = .ok (.iload_n 2, 1) := by decide +kernel
theorem d6_54 : decode prog_34_method_15_code 54 = .ok (.laload, 1) := by decide +kernel
theorem d6_55 : decode prog_34_method_15_code 55 = .ok (.lstore_n 3, 1) := by decide +kernel
theorem d6_56 : decode prog_34_method_15_code 56 = .ok (.goto (-27), 3) := by decide +kernel
theorem d6_59 : decode prog_34_method_15_code 59 = .ok (.bipush 64, 2) := by decide +kernel
theorem d6_61 : decode prog_34_method_15_code 61 = .ok (.iload_n 2, 1) := by decide +kernel
theorem d6_62 : decode prog_34_method_15_code 62 = .ok (.imul, 1) := by decide +kernel
theorem d6_63 : decode prog_34_method_15_code 63 = .ok (.lload_n 3, 1) := by decide +kernel
theorem d6_64 : decode prog_34_method_15_code 64 = .ok (.invokestatic 20, 3) := by decide +kernel
theorem d6_67 : decode prog_34_method_15_code 67 = .ok (.iadd, 1) := by decide +kernel
theorem d6_68 : decode prog_34_method_15_code 68 = .ok (.ireturn, 1) := by decide +kernel
theorem pd_1 : parseMethodDescriptor "(J)I" = some ⟨[.long], some .int⟩ := by decide +kernel
theorem ef_6 (m : MethodId) (x0 : Addr) (x1 : Int32) : entryFrame m #[(.ref x0), (.int x1)] 5 = mkF m 0 #[.val (.ref x0), .val (.int x1), .unset, .unset, .unset] [] := by first | (simp [entryFrame, mkF, argsToLocals, Value.category]; done) | rfl
def own_Q6 (Z : State) (zs : Addr) (zx : Int32) (zw : Addr) (zo : Addr) (znw : Nat) (zno : Nat) (zlw : Int32) (zlo : Int32) (zf : Nat → Int64) (zg : Nat → Int64) (h0 : Heap) (n0 : Nat) (v : Option Value) (h : Heap) (L : List Loc) : Prop := v = some (.int (own_nw zx zlw zlo zg)) ∧ Fr n0 L ∧ h = h0
set_option maxRecDepth 65536 in
set_option maxHeartbeats 40000000 in
theorem rm6 (l : Launch) (Z : State) (a0 : Array Value) (hw : ∀ d ∈ tables_1, d.before a0 Z = true) (ws : List Jvm.Cond) (zs : Addr) (zx : Int32) (zw : Addr) (zo : Addr) (znw : Nat) (zno : Nat) (zlw : Int32) (zlo : Int32) (zf : Nat → Int64) (zg : Nat → Int64) (h0 : Heap) (n0 : Nat) (Z0 : n0 ≤ h0.size) (F_zs_words : Fld Z h0 zs "com/example/netloom/netloom/embed/NodeSet" "words" "[J" (.ref zw)) (F_zs_occupied : Fld Z h0 zs "com/example/netloom/netloom/embed/NodeSet" "occupied" "[J" (.ref zo)) (V_zw : own_LA Z h0 zw znw zf) (V_zo : own_LA Z h0 zo zno zg) (hx0 : ¬ (zx < (0 : Int32))) (hl1 : znw.toInt32 = zlw) (hl2 : zno.toInt32 = zlo) (hno : (zno : Int) = zlo.toInt) (hz2 : zlo.toInt ≤ 2) (hb : zx.toInt < zlw.toInt → zx.toInt / 64 < zlo.toInt) :
    MetFree l (⟨"com/example/netloom/netloom/embed/NodeSet", "nextWord", "(I)I"⟩ : MethodName) (head1 (Jvm.Cond.code (⟨"com/example/netloom/netloom/embed/NodeSet", "nextWord", "(I)I"⟩ : MethodName) prog_34_method_15_code 5 (some .int) :: ws) ({ frames := 2, cells := 0, slots := 0, locals := 29 } : Room)) (fun a U => a = #[(.ref zs), (.int zx)] ∧ Z.Warmed39 U.vm ∧ U.heap = h0) (fun _ _ _ _ _ => True) (fun _ U o U' => ∃ v L, o = .returned v ∧ own_Q6 Z zs zx zw zo znw zno zlw zlo zf zg h0 n0 v U'.heap L ∧ FrameEnd U o U' L ({ frames := 2, cells := 0, slots := 0, locals := 29 } : Room).cells ({ frames := 2, cells := 0, slots := 0, locals := 29 } : Room).slots) := by
  refine MetFree.of_bodySF (plainFor_of_name pn_com_example_netloom_netloom_embed_NodeSet) hisR ?_
  intro p e s m args below meth c s₁ Bd hml0 hP hK
  obtain ⟨rfl, hZ, hh⟩ := hP
  have hx := Bd.exec
  have hby := Bd.bytes
  have hml : c.maxLocals = 5 := hml0
  have hown : s.vm.findClass "com/example/netloom/netloom/embed/NodeSet" = some m.cls := findClass_of_methodNamed Bd.named
  have hnm := (name_of_methodNamed Bd.named Bd.method).1
  have X0 : Stand p l e ({ frames := 2, cells := 0, slots := 0, locals := 29 } : Room) s m #[(.ref zs), (.int zx)] below meth c s₁ [] 0 0 := Stand.of_body Bd
  have e0 : s₁.heap = h0 := by rw [← hh, Bd.state]; rfl
  have N0 := Fr.nil n0
  have Zs := Z0
  show own_Goes p e below s (own_Q6 Z zs zx zw zo znw zno zlw zlo zf zg h0 n0) ({ frames := 2, cells := 0, slots := 0, locals := 29 } : Room).cells ({ frames := 2, cells := 0, slots := 0, locals := 29 } : Room).slots _
  refine own_go (B := s₁.setTop (mkF m 0 #[.val (.ref zs), .val (.int zx), .unset, .unset, .unset] [])) (fun t k => castTop (ef_6 m zs zx) k) ?_
  refine own_go (B := s₁.setTop (mkF m 1 #[.val (.ref zs), .val (.int zx), .unset, .unset, .unset] [(.int zx)])) (fun t k => XS.iloadN X0.here hx rfl (Jvm.hb hby d6_0) rfl k) ?_
  refine own_go (B := s₁.setTop (mkF m 2 #[.val (.ref zs), .val (.int zx), .unset, .unset, .unset] [(.ref zs), (.int zx)])) (fun t k => XS.aloadN X0.here hx rfl (Jvm.hb hby d6_1) rfl rfl k) ?_
  obtain ⟨T22, X22, e22, st22⟩ := getF X0 hx hZ hown (host := "") (Or.inl (own_w hw 11 rfl)) Via.refl e0 F_zs_words (g := (mkF m 2 #[.val (.ref zs), .val (.int zx), .unset, .unset, .unset] [(.ref zs), (.int zx)])) rfl rfl (Jvm.hb hby d6_2)
  refine own_go (B := T22.setTop (mkF m 5 #[.val (.ref zs), .val (.int zx), .unset, .unset, .unset] [(.ref zw), (.int zx)])) (fun t k => st22 _ k) ?_
  refine own_go (B := T22.setTop (mkF m 6 #[.val (.ref zs), .val (.int zx), .unset, .unset, .unset] [(.int zlw), (.int zx)])) (fun t k => own_alenL X22 hx hZ e22 V_zw hl1 (Jvm.hb hby d6_5) t k) ?_
  by_cases hc6_23 : zx < zlw
  · refine own_go (B := T22.setTop (mkF m 11 #[.val (.ref zs), .val (.int zx), .unset, .unset, .unset] [])) (fun t k => XS.icmpYes X22.here hx rfl (pc0 := 6) (pc' := 11) rfl (Jvm.hb hby d6_6) rfl (tlt hc6_23).1 (by decide) (by decide) k) ?_
    refine own_go (B := T22.setTop (mkF m 12 #[.val (.ref zs), .val (.int zx), .unset, .unset, .unset] [(.int zx)])) (fun t k => XS.iloadN X22.here hx rfl (Jvm.hb hby d6_11) rfl k) ?_
    refine own_go (B := T22.setTop (mkF m 14 #[.val (.ref zs), .val (.int zx), .unset, .unset, .unset] [(.int (64 : Int32)), (.int zx)])) (fun t k => XS.bipush X22.here hx rfl (Jvm.hb hby d6_12) k) ?_
    refine own_go (B := T22.setTop (mkF m 15 #[.val (.ref zs), .val (.int zx), .unset, .unset, .unset] [(.int (zx / (64 : Int32)))])) (fun t k => XS.idiv X22.here hx rfl (Jvm.hb hby d6_14) rfl (by decide) k) ?_
    refine own_go (B := T22.setTop (mkF m 16 #[.val (.ref zs), .val (.int zx), .val (.int (zx / (64 : Int32))), .unset, .unset] [])) (fun t k => XS.istoreN X22.here hx rfl (Jvm.hb hby d6_15) rfl (l' := #[.val (.ref zs), .val (.int zx), .val (.int (zx / (64 : Int32))), .unset, .unset]) rfl k) ?_
    refine own_go (B := T22.setTop (mkF m 17 #[.val (.ref zs), .val (.int zx), .val (.int (zx / (64 : Int32))), .unset, .unset] [(.ref zs)])) (fun t k => XS.aloadN X22.here hx rfl (Jvm.hb hby d6_16) rfl rfl k) ?_
    obtain ⟨T24, X24, e24, st24⟩ := getF X22 hx hZ hown (host := "") (Or.inl (own_w hw 13 rfl)) Via.refl e22 F_zs_occupied (g := (mkF m 17 #[.val (.ref zs), .val (.int zx), .val (.int (zx / (64 : Int32))), .unset, .unset] [(.ref zs)])) rfl rfl (Jvm.hb hby d6_17)
    refine own_go (B := T24.setTop (mkF m 20 #[.val (.ref zs), .val (.int zx), .val (.int (zx / (64 : Int32))), .unset, .unset] [(.ref zo)])) (fun t k => st24 _ k) ?_
    refine own_go (B := T24.setTop (mkF m 21 #[.val (.ref zs), .val (.int zx), .val (.int (zx / (64 : Int32))), .unset, .unset] [(.int (zx / (64 : Int32))), (.ref zo)])) (fun t k => XS.iloadN X24.here hx rfl (Jvm.hb hby d6_20) rfl k) ?_
    refine own_go (B := T24.setTop (mkF m 22 #[.val (.ref zs), .val (.int zx), .val (.int (zx / (64 : Int32))), .unset, .unset] [(.long (zg (own_ix zx)))])) (fun t k => own_laload X24 hx hZ e24 V_zo (j := (zx / (64 : Int32))) (k := (own_ix zx)) (by rw [own_nn] at *; have d := own_d64 zx hx0; have i_ := own_ix_int zx hx0; have cw : zx.toInt < zlw.toInt := (by have c := hc6_23; rw [Int32.lt_iff_toInt_lt] at c; exact c); have hbb := hb cw; omega) rfl (by rw [own_nn] at *; have d := own_d64 zx hx0; have i_ := own_ix_int zx hx0; have cw : zx.toInt < zlw.toInt := (by have c := hc6_23; rw [Int32.lt_iff_toInt_lt] at c; exact c); have hbb := hb cw; omega) (Jvm.hb hby d6_21) t k) ?_
    refine own_go (B := T24.setTop (mkF m 25 #[.val (.ref zs), .val (.int zx), .val (.int (zx / (64 : Int32))), .unset, .unset] [(.long (-1 : Int64)), (.long (zg (own_ix zx)))])) (fun t k => X24.ldc2Long hx hown (mvT hZ (own_w hw 34 rfl)) (g := (mkF m 22 #[.val (.ref zs), .val (.int zx), .val (.int (zx / (64 : Int32))), .unset, .unset] [(.long (zg (own_ix zx)))])) rfl (Jvm.hb hby d6_22) _ k) ?_
    refine own_go (B := T24.setTop (mkF m 26 #[.val (.ref zs), .val (.int zx), .val (.int (zx / (64 : Int32))), .unset, .unset] [(.int zx), (.long (-1 : Int64)), (.long (zg (own_ix zx)))])) (fun t k => XS.iloadN X24.here hx rfl (Jvm.hb hby d6_25) rfl k) ?_
    refine own_go (B := T24.setTop (mkF m 27 #[.val (.ref zs), .val (.int zx), .val (.int (zx / (64 : Int32))), .unset, .unset] [(.long ((-1 : Int64) <<< (zx &&& 0x3f).toInt64)), (.long (zg (own_ix zx)))])) (fun t k => XS.lshl X24.here hx rfl (Jvm.hb hby d6_26) rfl k) ?_
    refine own_go (B := T24.setTop (mkF m 28 #[.val (.ref zs), .val (.int zx), .val (.int (zx / (64 : Int32))), .unset, .unset] [(.long ((zg (own_ix zx)) &&& ((-1 : Int64) <<< (zx &&& 0x3f).toInt64)))])) (fun t k => XS.land X24.here hx rfl (Jvm.hb hby d6_27) rfl k) ?_
    refine own_go (B := T24.setTop (mkF m 29 #[.val (.ref zs), .val (.int zx), .val (.int (zx / (64 : Int32))), .val (.long ((zg (own_ix zx)) &&& ((-1 : Int64) <<< (zx &&& 0x3f).toInt64))), .second] [])) (fun t k => XS.lstoreN X24.here hx rfl (Jvm.hb hby d6_28) rfl (l' := #[.val (.ref zs), .val (.int zx), .val (.int (zx / (64 : Int32))), .val (.long ((zg (own_ix zx)) &&& ((-1 : Int64) <<< (zx &&& 0x3f).toInt64))), .second]) rfl k) ?_
    refine own_go (B := T24.setTop (mkF m 30 #[.val (.ref zs), .val (.int zx), .val (.int (zx / (64 : Int32))), .val (.long ((zg (own_ix zx)) &&& ((-1 : Int64) <<< (zx &&& 0x3f).toInt64))), .second] [(.long ((zg (own_ix zx)) &&& ((-1 : Int64) <<< (zx &&& 0x3f).toInt64)))])) (fun t k => XS.lloadN X24.here hx rfl (Jvm.hb hby d6_29) rfl k) ?_
    refine own_go (B := T24.setTop (mkF m 31 #[.val (.ref zs), .val (.int zx), .val (.int (zx / (64 : Int32))), .val (.long ((zg (own_ix zx)) &&& ((-1 : Int64) <<< (zx &&& 0x3f).toInt64))), .second] [(.long (0 : Int64)), (.long ((zg (own_ix zx)) &&& ((-1 : Int64) <<< (zx &&& 0x3f).toInt64)))])) (fun t k => XS.lconst X24.here hx rfl (Jvm.hb hby d6_30) k) ?_
    refine own_go (B := T24.setTop (mkF m 32 #[.val (.ref zs), .val (.int zx), .val (.int (zx / (64 : Int32))), .val (.long ((zg (own_ix zx)) &&& ((-1 : Int64) <<< (zx &&& 0x3f).toInt64))), .second] [(.int (lcmpW ((zg (own_ix zx)) &&& ((-1 : Int64) <<< (zx &&& 0x3f).toInt64)) (0 : Int64)))])) (fun t k => XS.lcmp X24.here hx rfl (Jvm.hb hby d6_31) rfl k) ?_
    by_cases hc32_25 : ((zg (own_ix zx)) &&& ((-1 : Int64) <<< (zx &&& 0x3f).toInt64)) = (0 : Int64)
    · refine own_go (B := T24.setTop (mkF m 35 #[.val (.ref zs), .val (.int zx), .val (.int (zx / (64 : Int32))), .val (.long ((zg (own_ix zx)) &&& ((-1 : Int64) <<< (zx &&& 0x3f).toInt64))), .second] [])) (fun t k => XS.ifNo X24.here hx rfl (Jvm.hb hby d6_32) rfl ((if0 _ _).trans (teq ((lw_eq ((zg (own_ix zx)) &&& ((-1 : Int64) <<< (zx &&& 0x3f).toInt64)) (0 : Int64)).mpr hc32_25)).2) k) ?_
      refine own_go (B := T24.setTop (mkF m 38 #[.val (.ref zs), .val (.int zx), .val (.int ((zx / (64 : Int32)) + (1 : Int32))), .val (.long ((zg (own_ix zx)) &&& ((-1 : Int64) <<< (zx &&& 0x3f).toInt64))), .second] [])) (fun t k => XS.iinc X24.here hx rfl (Jvm.hb hby d6_35) rfl (l' := #[.val (.ref zs), .val (.int zx), .val (.int ((zx / (64 : Int32)) + (1 : Int32))), .val (.long ((zg (own_ix zx)) &&& ((-1 : Int64) <<< (zx &&& 0x3f).toInt64))), .second]) rfl k) ?_
      refine own_go (B := T24.setTop (mkF m 39 #[.val (.ref zs), .val (.int zx), .val (.int ((zx / (64 : Int32)) + (1 : Int32))), .val (.long ((zg (own_ix zx)) &&& ((-1 : Int64) <<< (zx &&& 0x3f).toInt64))), .second] [(.int ((zx / (64 : Int32)) + (1 : Int32)))])) (fun t k => XS.iloadN X24.here hx rfl (Jvm.hb hby d6_38) rfl k) ?_
      refine own_go (B := T24.setTop (mkF m 40 #[.val (.ref zs), .val (.int zx), .val (.int ((zx / (64 : Int32)) + (1 : Int32))), .val (.long ((zg (own_ix zx)) &&& ((-1 : Int64) <<< (zx &&& 0x3f).toInt64))), .second] [(.ref zs), (.int ((zx / (64 : Int32)) + (1 : Int32)))])) (fun t k => XS.aloadN X24.here hx rfl (Jvm.hb hby d6_39) rfl rfl k) ?_
      obtain ⟨T26, X26, e26, st26⟩ := getF X24 hx hZ hown (host := "") (Or.inl (own_w hw 13 rfl)) Via.refl e24 F_zs_occupied (g := (mkF m 40 #[.val (.ref zs), .val (.int zx), .val (.int ((zx / (64 : Int32)) + (1 : Int32))), .val (.long ((zg (own_ix zx)) &&& ((-1 : Int64) <<< (zx &&& 0x3f).toInt64))), .second] [(.ref zs), (.int ((zx / (64 : Int32)) + (1 : Int32)))])) rfl rfl (Jvm.hb hby d6_40)
      refine own_go (B := T26.setTop (mkF m 43 #[.val (.ref zs), .val (.int zx), .val (.int ((zx / (64 : Int32)) + (1 : Int32))), .val (.long ((zg (own_ix zx)) &&& ((-1 : Int64) <<< (zx &&& 0x3f).toInt64))), .second] [(.ref zo), (.int ((zx / (64 : Int32)) + (1 : Int32)))])) (fun t k => st26 _ k) ?_
      refine own_go (B := T26.setTop (mkF m 44 #[.val (.ref zs), .val (.int zx), .val (.int ((zx / (64 : Int32)) + (1 : Int32))), .val (.long ((zg (own_ix zx)) &&& ((-1 : Int64) <<< (zx &&& 0x3f).toInt64))), .second] [(.int zlo), (.int ((zx / (64 : Int32)) + (1 : Int32)))])) (fun t k => own_alenL X26 hx hZ e26 V_zo hl2 (Jvm.hb hby d6_43) t k) ?_
      by_cases hc44_27 : ((zx / (64 : Int32)) + (1 : Int32)) = zlo
      · refine own_go (B := T26.setTop (mkF m 47 #[.val (.ref zs), .val (.int zx), .val (.int ((zx / (64 : Int32)) + (1 : Int32))), .val (.long ((zg (own_ix zx)) &&& ((-1 : Int64) <<< (zx &&& 0x3f).toInt64))), .second] [])) (fun t k => XS.icmpNo X26.here hx rfl (Jvm.hb hby d6_44) rfl (teq hc44_27).2 k) ?_
        refine own_go (B := T26.setTop (mkF m 48 #[.val (.ref zs), .val (.int zx), .val (.int ((zx / (64 : Int32)) + (1 : Int32))), .val (.long ((zg (own_ix zx)) &&& ((-1 : Int64) <<< (zx &&& 0x3f).toInt64))), .second] [(.int (-1 : Int32))])) (fun t k => XS.iconst X26.here hx rfl (Jvm.hb hby d6_47) k) ?_
        refine own_out X26 (v := (some (.int (-1 : Int32)))) (fun h => by rw [Bd.returns] at h; cases h) Bd.notSynchronized (fun fs hr => retOut X26 hx (t := .int) Bd.returns rfl (Or.inl ⟨rfl, Or.inl rfl, _, rfl⟩) (Jvm.hb hby d6_48) hr) ?_ (by decide) (by decide)
        show own_Q6 Z zs zx zw zo znw zno zlw zlo zf zg h0 n0 (some (.int (-1 : Int32))) T26.heap _
        rw [e26]
        exact ⟨(congrArg (fun z => some (Value.int z)) (by unfold own_nw; simp only [if_pos hc6_23, if_pos hc32_25, if_pos hc44_27])), N0, rfl⟩
      · refine own_go (B := T26.setTop (mkF m 49 #[.val (.ref zs), .val (.int zx), .val (.int ((zx / (64 : Int32)) + (1 : Int32))), .val (.long ((zg (own_ix zx)) &&& ((-1 : Int64) <<< (zx &&& 0x3f).toInt64))), .second] [])) (fun t k => XS.icmpYes X26.here hx rfl (pc0 := 44) (pc' := 49) rfl (Jvm.hb hby d6_44) rfl (feq hc44_27).2 (by decide) (by decide) k) ?_
        refine own_go (B := T26.setTop (mkF m 50 #[.val (.ref zs), .val (.int zx), .val (.int ((zx / (64 : Int32)) + (1 : Int32))), .val (.long ((zg (own_ix zx)) &&& ((-1 : Int64) <<< (zx &&& 0x3f).toInt64))), .second] [(.ref zs)])) (fun t k => XS.aloadN X26.here hx rfl (Jvm.hb hby d6_49) rfl rfl k) ?_
        obtain ⟨T28, X28, e28, st28⟩ := getF X26 hx hZ hown (host := "") (Or.inl (own_w hw 13 rfl)) Via.refl e26 F_zs_occupied (g := (mkF m 50 #[.val (.ref zs), .val (.int zx), .val (.int ((zx / (64 : Int32)) + (1 : Int32))), .val (.long ((zg (own_ix zx)) &&& ((-1 : Int64) <<< (zx &&& 0x3f).toInt64))), .second] [(.ref zs)])) rfl rfl (Jvm.hb hby d6_50)
        refine own_go (B := T28.setTop (mkF m 53 #[.val (.ref zs), .val (.int zx), .val (.int ((zx / (64 : Int32)) + (1 : Int32))), .val (.long ((zg (own_ix zx)) &&& ((-1 : Int64) <<< (zx &&& 0x3f).toInt64))), .second] [(.ref zo)])) (fun t k => st28 _ k) ?_
        refine own_go (B := T28.setTop (mkF m 54 #[.val (.ref zs), .val (.int zx), .val (.int ((zx / (64 : Int32)) + (1 : Int32))), .val (.long ((zg (own_ix zx)) &&& ((-1 : Int64) <<< (zx &&& 0x3f).toInt64))), .second] [(.int ((zx / (64 : Int32)) + (1 : Int32))), (.ref zo)])) (fun t k => XS.iloadN X28.here hx rfl (Jvm.hb hby d6_53) rfl k) ?_
        refine own_go (B := T28.setTop (mkF m 55 #[.val (.ref zs), .val (.int zx), .val (.int ((zx / (64 : Int32)) + (1 : Int32))), .val (.long ((zg (own_ix zx)) &&& ((-1 : Int64) <<< (zx &&& 0x3f).toInt64))), .second] [(.long (zg (own_ix zx + 1)))])) (fun t k => own_laload X28 hx hZ e28 V_zo (j := ((zx / (64 : Int32)) + (1 : Int32))) (k := (own_ix zx + 1)) (by rw [own_nn] at *; have d := own_d64 zx hx0; have i_ := own_ix_int zx hx0; have cw : zx.toInt < zlw.toInt := (by have c := hc6_23; rw [Int32.lt_iff_toInt_lt] at c; exact c); have hbb := hb cw; have o1 : (1 : Int32).toInt = 1 := rfl; have s1 := c_iadd (zx / (64 : Int32)) 1; rw [o1] at s1; have rs := rng32 ((zx / (64 : Int32)) + (1 : Int32)); have c1 : ¬ (((zx / (64 : Int32)) + (1 : Int32)).toInt = zlo.toInt) := fun z => hc44_27 (Int32.toInt_inj.mp z); omega) (by rw [own_nn] at *; have d := own_d64 zx hx0; have i_ := own_ix_int zx hx0; have cw : zx.toInt < zlw.toInt := (by have c := hc6_23; rw [Int32.lt_iff_toInt_lt] at c; exact c); have hbb := hb cw; have o1 : (1 : Int32).toInt = 1 := rfl; have s1 := c_iadd (zx / (64 : Int32)) 1; rw [o1] at s1; have rs := rng32 ((zx / (64 : Int32)) + (1 : Int32)); have c1 : ¬ (((zx / (64 : Int32)) + (1 : Int32)).toInt = zlo.toInt) := fun z => hc44_27 (Int32.toInt_inj.mp z); unfold Int32.toNatClampNeg; omega) (by rw [own_nn] at *; have d := own_d64 zx hx0; have i_ := own_ix_int zx hx0; have cw : zx.toInt < zlw.toInt := (by have c := hc6_23; rw [Int32.lt_iff_toInt_lt] at c; exact c); have hbb := hb cw; have o1 : (1 : Int32).toInt = 1 := rfl; have s1 := c_iadd (zx / (64 : Int32)) 1; rw [o1] at s1; have rs := rng32 ((zx / (64 : Int32)) + (1 : Int32)); have c1 : ¬ (((zx / (64 : Int32)) + (1 : Int32)).toInt = zlo.toInt) := fun z => hc44_27 (Int32.toInt_inj.mp z); omega) (Jvm.hb hby d6_54) t k) ?_
        refine own_go (B := T28.setTop (mkF m 56 #[.val (.ref zs), .val (.int zx), .val (.int ((zx / (64 : Int32)) + (1 : Int32))), .val (.long (zg (own_ix zx + 1))), .second] [])) (fun t k => XS.lstoreN X28.here hx rfl (Jvm.hb hby d6_55) rfl (l' := #[.val (.ref zs), .val (.int zx), .val (.int ((zx / (64 : Int32)) + (1 : Int32))), .val (.long (zg (own_ix zx + 1))), .second]) rfl k) ?_
        refine own_go (B := T28.setTop (mkF m 29 #[.val (.ref zs), .val (.int zx), .val (.int ((zx / (64 : Int32)) + (1 : Int32))), .val (.long (zg (own_ix zx + 1))), .second] [])) (fun t k => XS.goto X28.here hx rfl (pc0 := 56) (pc' := 29) rfl (Jvm.hb hby d6_56) (by decide) (by decide) k) ?_
        refine own_go (B := T28.setTop (mkF m 30 #[.val (.ref zs), .val (.int zx), .val (.int ((zx / (64 : Int32)) + (1 : Int32))), .val (.long (zg (own_ix zx + 1))), .second] [(.long (zg (own_ix zx + 1)))])) (fun t k => XS.lloadN X28.here hx rfl (Jvm.hb hby d6_29) rfl k) ?_
        refine own_go (B := T28.setTop (mkF m 31 #[.val (.ref zs), .val (.int zx), .val (.int ((zx / (64 : Int32)) + (1 : Int32))), .val (.long (zg (own_ix zx + 1))), .second] [(.long (0 : Int64)), (.long (zg (own_ix zx + 1)))])) (fun t k => XS.lconst X28.here hx rfl (Jvm.hb hby d6_30) k) ?_
        refine own_go (B := T28.setTop (mkF m 32 #[.val (.ref zs), .val (.int zx), .val (.int ((zx / (64 : Int32)) + (1 : Int32))), .val (.long (zg (own_ix zx + 1))), .second] [(.int (lcmpW (zg (own_ix zx + 1)) (0 : Int64)))])) (fun t k => XS.lcmp X28.here hx rfl (Jvm.hb hby d6_31) rfl k) ?_
        by_cases hc32_29 : (zg (own_ix zx + 1)) = (0 : Int64)
        · refine own_go (B := T28.setTop (mkF m 35 #[.val (.ref zs), .val (.int zx), .val (.int ((zx / (64 : Int32)) + (1 : Int32))), .val (.long (zg (own_ix zx + 1))), .second] [])) (fun t k => XS.ifNo X28.here hx rfl (Jvm.hb hby d6_32) rfl ((if0 _ _).trans (teq ((lw_eq (zg (own_ix zx + 1)) (0 : Int64)).mpr hc32_29)).2) k) ?_
          refine own_go (B := T28.setTop (mkF m 38 #[.val (.ref zs), .val (.int zx), .val (.int (((zx / (64 : Int32)) + (1 : Int32)) + (1 : Int32))), .val (.long (zg (own_ix zx + 1))), .second] [])) (fun t k => XS.iinc X28.here hx rfl (Jvm.hb hby d6_35) rfl (l' := #[.val (.ref zs), .val (.int zx), .val (.int (((zx / (64 : Int32)) + (1 : Int32)) + (1 : Int32))), .val (.long (zg (own_ix zx + 1))), .second]) rfl k) ?_
          refine own_go (B := T28.setTop (mkF m 39 #[.val (.ref zs), .val (.int zx), .val (.int (((zx / (64 : Int32)) + (1 : Int32)) + (1 : Int32))), .val (.long (zg (own_ix zx + 1))), .second] [(.int (((zx / (64 : Int32)) + (1 : Int32)) + (1 : Int32)))])) (fun t k => XS.iloadN X28.here hx rfl (Jvm.hb hby d6_38) rfl k) ?_
          refine own_go (B := T28.setTop (mkF m 40 #[.val (.ref zs), .val (.int zx), .val (.int (((zx / (64 : Int32)) + (1 : Int32)) + (1 : Int32))), .val (.long (zg (own_ix zx + 1))), .second] [(.ref zs), (.int (((zx / (64 : Int32)) + (1 : Int32)) + (1 : Int32)))])) (fun t k => XS.aloadN X28.here hx rfl (Jvm.hb hby d6_39) rfl rfl k) ?_
          obtain ⟨T30, X30, e30, st30⟩ := getF X28 hx hZ hown (host := "") (Or.inl (own_w hw 13 rfl)) Via.refl e28 F_zs_occupied (g := (mkF m 40 #[.val (.ref zs), .val (.int zx), .val (.int (((zx / (64 : Int32)) + (1 : Int32)) + (1 : Int32))), .val (.long (zg (own_ix zx + 1))), .second] [(.ref zs), (.int (((zx / (64 : Int32)) + (1 : Int32)) + (1 : Int32)))])) rfl rfl (Jvm.hb hby d6_40)
          refine own_go (B := T30.setTop (mkF m 43 #[.val (.ref zs), .val (.int zx), .val (.int (((zx / (64 : Int32)) + (1 : Int32)) + (1 : Int32))), .val (.long (zg (own_ix zx + 1))), .second] [(.ref zo), (.int (((zx / (64 : Int32)) + (1 : Int32)) + (1 : Int32)))])) (fun t k => st30 _ k) ?_
          refine own_go (B := T30.setTop (mkF m 44 #[.val (.ref zs), .val (.int zx), .val (.int (((zx / (64 : Int32)) + (1 : Int32)) + (1 : Int32))), .val (.long (zg (own_ix zx + 1))), .second] [(.int zlo), (.int (((zx / (64 : Int32)) + (1 : Int32)) + (1 : Int32)))])) (fun t k => own_alenL X30 hx hZ e30 V_zo hl2 (Jvm.hb hby d6_43) t k) ?_
          refine own_go (B := T30.setTop (mkF m 47 #[.val (.ref zs), .val (.int zx), .val (.int (((zx / (64 : Int32)) + (1 : Int32)) + (1 : Int32))), .val (.long (zg (own_ix zx + 1))), .second] [])) (fun t k => XS.icmpNo X30.here hx rfl (Jvm.hb hby d6_44) rfl (teq (by rw [own_nn] at *; have d := own_d64 zx hx0; have cw : zx.toInt < zlw.toInt := (by have c := hc6_23; rw [Int32.lt_iff_toInt_lt] at c; exact c); have hbb := hb cw; have o1 : (1 : Int32).toInt = 1 := rfl; have s1 := c_iadd (zx / (64 : Int32)) 1; rw [o1] at s1; have rs := rng32 ((zx / (64 : Int32)) + (1 : Int32)); have s2 := c_iadd ((zx / (64 : Int32)) + (1 : Int32)) 1; rw [o1] at s2; have rs2 := rng32 (((zx / (64 : Int32)) + (1 : Int32)) + (1 : Int32)); have c1 : ¬ (((zx / (64 : Int32)) + (1 : Int32)).toInt = zlo.toInt) := fun z => hc44_27 (Int32.toInt_inj.mp z); apply Int32.toInt_inj.mp; omega)).2 k) ?_
          refine own_go (B := T30.setTop (mkF m 48 #[.val (.ref zs), .val (.int zx), .val (.int (((zx / (64 : Int32)) + (1 : Int32)) + (1 : Int32))), .val (.long (zg (own_ix zx + 1))), .second] [(.int (-1 : Int32))])) (fun t k => XS.iconst X30.here hx rfl (Jvm.hb hby d6_47) k) ?_
          refine own_out X30 (v := (some (.int (-1 : Int32)))) (fun h => by rw [Bd.returns] at h; cases h) Bd.notSynchronized (fun fs hr => retOut X30 hx (t := .int) Bd.returns rfl (Or.inl ⟨rfl, Or.inl rfl, _, rfl⟩) (Jvm.hb hby d6_48) hr) ?_ (by decide) (by decide)
          show own_Q6 Z zs zx zw zo znw zno zlw zlo zf zg h0 n0 (some (.int (-1 : Int32))) T30.heap _
          rw [e30]
          exact ⟨(congrArg (fun z => some (Value.int z)) (by unfold own_nw; simp only [if_pos hc6_23, if_pos hc32_25, if_neg hc44_27, if_pos hc32_29])), N0, rfl⟩
        · refine own_go (B := T28.setTop (mkF m 59 #[.val (.ref zs), .val (.int zx), .val (.int ((zx / (64 : Int32)) + (1 : Int32))), .val (.long (zg (own_ix zx + 1))), .second] [])) (fun t k => XS.ifYes X28.here hx rfl (pc0 := 32) (pc' := 59) rfl (Jvm.hb hby d6_32) rfl ((if0 _ _).trans (feq (mt (lw_eq (zg (own_ix zx + 1)) (0 : Int64)).mp hc32_29)).2) (by decide) (by decide) k) ?_
          refine own_go (B := T28.setTop (mkF m 61 #[.val (.ref zs), .val (.int zx), .val (.int ((zx / (64 : Int32)) + (1 : Int32))), .val (.long (zg (own_ix zx + 1))), .second] [(.int (64 : Int32))])) (fun t k => XS.bipush X28.here hx rfl (Jvm.hb hby d6_59) k) ?_
          refine own_go (B := T28.setTop (mkF m 62 #[.val (.ref zs), .val (.int zx), .val (.int ((zx / (64 : Int32)) + (1 : Int32))), .val (.long (zg (own_ix zx + 1))), .second] [(.int ((zx / (64 : Int32)) + (1 : Int32))), (.int (64 : Int32))])) (fun t k => XS.iloadN X28.here hx rfl (Jvm.hb hby d6_61) rfl k) ?_
          refine own_go (B := T28.setTop (mkF m 63 #[.val (.ref zs), .val (.int zx), .val (.int ((zx / (64 : Int32)) + (1 : Int32))), .val (.long (zg (own_ix zx + 1))), .second] [(.int ((64 : Int32) * ((zx / (64 : Int32)) + (1 : Int32))))])) (fun t k => XS.imul X28.here hx rfl (Jvm.hb hby d6_62) rfl k) ?_
          refine own_go (B := T28.setTop (mkF m 64 #[.val (.ref zs), .val (.int zx), .val (.int ((zx / (64 : Int32)) + (1 : Int32))), .val (.long (zg (own_ix zx + 1))), .second] [(.long (zg (own_ix zx + 1))), (.int ((64 : Int32) * ((zx / (64 : Int32)) + (1 : Int32))))])) (fun t k => XS.lloadN X28.here hx rfl (Jvm.hb hby d6_63) rfl k) ?_
          obtain ⟨_, _, ⟨T31, La31, ka31, na31⟩, -, X31, ⟨Lc31, hQ31, l31, y31, z31⟩, st31⟩ := Jvm.LawKit.callS X28 hx (y := (⟨"java/lang/Long", "numberOfTrailingZeros", "(J)I"⟩ : MethodName)) hown (mvT hZ (own_w hw 35 rfl)) (mvT hZ (own_w hw 36 rfl)) (mvT hZ (own_w hw 37 rfl)) (mvT hZ (own_w hw 38 rfl)) (by decide) (backOf (W := 1) (rm7 l Z a0 hw [] (zg (own_ix zx + 1)) h0 n0 Zs) hZ (own_w hw 38 rfl) (own_w hw 37 rfl) (by decide) (by decide)) (g := (mkF m 64 #[.val (.ref zs), .val (.int zx), .val (.int ((zx / (64 : Int32)) + (1 : Int32))), .val (.long (zg (own_ix zx + 1))), .second] [(.long (zg (own_ix zx + 1))), (.int ((64 : Int32) * ((zx / (64 : Int32)) + (1 : Int32))))])) rfl (by rw [hml]; rfl) (argsL := [(.long (zg (own_ix zx + 1)))]) (rest := [(.int ((64 : Int32) * ((zx / (64 : Int32)) + (1 : Int32))))]) (lenOf pd_1 rfl) rfl (by show 2 * 0 + _ ≤ _; exact Nat.le_of_eq rfl) (Jvm.hb hby d6_64) (fun _ _ => ⟨rfl, e28, (by decide : 0 + 0 ≤ _), (by decide : 0 + 0 ≤ _)⟩)
          dsimp only [Pt.U, Pt.locs, Pt.cells, Pt.slots] at X31 l31 y31 z31 st31 hQ31
          subst l31 y31 z31
          obtain ⟨rfl, N31q, e31⟩ := hQ31
          have N31 := Fr.app N0 N31q
          refine own_go (B := T31.setTop (mkF m 67 #[.val (.ref zs), .val (.int zx), .val (.int ((zx / (64 : Int32)) + (1 : Int32))), .val (.long (zg (own_ix zx + 1))), .second] [(.int (own_f7 (zg (own_ix zx + 1)))), (.int ((64 : Int32) * ((zx / (64 : Int32)) + (1 : Int32))))])) (fun t k => st31 _ k) ?_
          refine own_go (B := T31.setTop (mkF m 68 #[.val (.ref zs), .val (.int zx), .val (.int ((zx / (64 : Int32)) + (1 : Int32))), .val (.long (zg (own_ix zx + 1))), .second] [(.int (((64 : Int32) * ((zx / (64 : Int32)) + (1 : Int32))) + (own_f7 (zg (own_ix zx + 1)))))])) (fun t k => XS.iadd X31.here hx rfl (Jvm.hb hby d6_67) rfl k) ?_
          refine own_out X31 (v := (some (.int (((64 : Int32) * ((zx / (64 : Int32)) + (1 : Int32))) + (own_f7 (zg (own_ix zx + 1))))))) (fun h => by rw [Bd.returns] at h; cases h) Bd.notSynchronized (fun fs hr => retOut X31 hx (t := .int) Bd.returns rfl (Or.inl ⟨rfl, Or.inl rfl, _, rfl⟩) (Jvm.hb hby d6_68) hr) ?_ (by decide) (by decide)
          show own_Q6 Z zs zx zw zo znw zno zlw zlo zf zg h0 n0 (some (.int (((64 : Int32) * ((zx / (64 : Int32)) + (1 : Int32))) + (own_f7 (zg (own_ix zx + 1)))))) T31.heap _
          rw [e31]
          exact ⟨(congrArg (fun z => some (Value.int z)) (by unfold own_nw; simp only [if_pos hc6_23, if_pos hc32_25, if_neg hc44_27, if_neg hc32_29])), N31, rfl⟩
    · refine own_go (B := T24.setTop (mkF m 59 #[.val (.ref zs), .val (.int zx), .val (.int (zx / (64 : Int32))), .val (.long ((zg (own_ix zx)) &&& ((-1 : Int64) <<< (zx &&& 0x3f).toInt64))), .second] [])) (fun t k => XS.ifYes X24.here hx rfl (pc0 := 32) (pc' := 59) rfl (Jvm.hb hby d6_32) rfl ((if0 _ _).trans (feq (mt (lw_eq ((zg (own_ix zx)) &&& ((-1 : Int64) <<< (zx &&& 0x3f).toInt64)) (0 : Int64)).mp hc32_25)).2) (by decide) (by decide) k) ?_
      refine own_go (B := T24.setTop (mkF m 61 #[.val (.ref zs), .val (.int zx), .val (.int (zx / (64 : Int32))), .val (.long ((zg (own_ix zx)) &&& ((-1 : Int64) <<< (zx &&& 0x3f).toInt64))), .second] [(.int (64 : Int32))])) (fun t k => XS.bipush X24.here hx rfl (Jvm.hb hby d6_59) k) ?_
      refine own_go (B := T24.setTop (mkF m 62 #[.val (.ref zs), .val (.int zx), .val (.int (zx / (64 : Int32))), .val (.long ((zg (own_ix zx)) &&& ((-1 : Int64) <<< (zx &&& 0x3f).toInt64))), .second] [(.int (zx / (64 : Int32))), (.int (64 : Int32))])) (fun t k => XS.iloadN X24.here hx rfl (Jvm.hb hby d6_61) rfl k) ?_
      refine own_go (B := T24.setTop (mkF m 63 #[.val (.ref zs), .val (.int zx), .val (.int (zx / (64 : Int32))), .val (.long ((zg (own_ix zx)) &&& ((-1 : Int64) <<< (zx &&& 0x3f).toInt64))), .second] [(.int ((64 : Int32) * (zx / (64 : Int32))))])) (fun t k => XS.imul X24.here hx rfl (Jvm.hb hby d6_62) rfl k) ?_
      refine own_go (B := T24.setTop (mkF m 64 #[.val (.ref zs), .val (.int zx), .val (.int (zx / (64 : Int32))), .val (.long ((zg (own_ix zx)) &&& ((-1 : Int64) <<< (zx &&& 0x3f).toInt64))), .second] [(.long ((zg (own_ix zx)) &&& ((-1 : Int64) <<< (zx &&& 0x3f).toInt64))), (.int ((64 : Int32) * (zx / (64 : Int32))))])) (fun t k => XS.lloadN X24.here hx rfl (Jvm.hb hby d6_63) rfl k) ?_
      obtain ⟨_, _, ⟨T32, La32, ka32, na32⟩, -, X32, ⟨Lc32, hQ32, l32, y32, z32⟩, st32⟩ := Jvm.LawKit.callS X24 hx (y := (⟨"java/lang/Long", "numberOfTrailingZeros", "(J)I"⟩ : MethodName)) hown (mvT hZ (own_w hw 35 rfl)) (mvT hZ (own_w hw 36 rfl)) (mvT hZ (own_w hw 37 rfl)) (mvT hZ (own_w hw 38 rfl)) (by decide) (backOf (W := 1) (rm7 l Z a0 hw [] ((zg (own_ix zx)) &&& ((-1 : Int64) <<< (zx &&& 0x3f).toInt64)) h0 n0 Zs) hZ (own_w hw 38 rfl) (own_w hw 37 rfl) (by decide) (by decide)) (g := (mkF m 64 #[.val (.ref zs), .val (.int zx), .val (.int (zx / (64 : Int32))), .val (.long ((zg (own_ix zx)) &&& ((-1 : Int64) <<< (zx &&& 0x3f).toInt64))), .second] [(.long ((zg (own_ix zx)) &&& ((-1 : Int64) <<< (zx &&& 0x3f).toInt64))), (.int ((64 : Int32) * (zx / (64 : Int32))))])) rfl (by rw [hml]; rfl) (argsL := [(.long ((zg (own_ix zx)) &&& ((-1 : Int64) <<< (zx &&& 0x3f).toInt64)))]) (rest := [(.int ((64 : Int32) * (zx / (64 : Int32))))]) (lenOf pd_1 rfl) rfl (by show 2 * 0 + _ ≤ _; exact Nat.le_of_eq rfl) (Jvm.hb hby d6_64) (fun _ _ => ⟨rfl, e24, (by decide : 0 + 0 ≤ _), (by decide : 0 + 0 ≤ _)⟩)
      dsimp only [Pt.U, Pt.locs, Pt.cells, Pt.slots] at X32 l32 y32 z32 st32 hQ32
      subst l32 y32 z32
      obtain ⟨rfl, N32q, e32⟩ := hQ32
      have N32 := Fr.app N0 N32q
      refine own_go (B := T32.setTop (mkF m 67 #[.val (.ref zs), .val (.int zx), .val (.int (zx / (64 : Int32))), .val (.long ((zg (own_ix zx)) &&& ((-1 : Int64) <<< (zx &&& 0x3f).toInt64))), .second] [(.int (own_f7 ((zg (own_ix zx)) &&& ((-1 : Int64) <<< (zx &&& 0x3f).toInt64)))), (.int ((64 : Int32) * (zx / (64 : Int32))))])) (fun t k => st32 _ k) ?_
      refine own_go (B := T32.setTop (mkF m 68 #[.val (.ref zs), .val (.int zx), .val (.int (zx / (64 : Int32))), .val (.long ((zg (own_ix zx)) &&& ((-1 : Int64) <<< (zx &&& 0x3f).toInt64))), .second] [(.int (((64 : Int32) * (zx / (64 : Int32))) + (own_f7 ((zg (own_ix zx)) &&& ((-1 : Int64) <<< (zx &&& 0x3f).toInt64)))))])) (fun t k => XS.iadd X32.here hx rfl (Jvm.hb hby d6_67) rfl k) ?_
      refine own_out X32 (v := (some (.int (((64 : Int32) * (zx / (64 : Int32))) + (own_f7 ((zg (own_ix zx)) &&& ((-1 : Int64) <<< (zx &&& 0x3f).toInt64))))))) (fun h => by rw [Bd.returns] at h; cases h) Bd.notSynchronized (fun fs hr => retOut X32 hx (t := .int) Bd.returns rfl (Or.inl ⟨rfl, Or.inl rfl, _, rfl⟩) (Jvm.hb hby d6_68) hr) ?_ (by decide) (by decide)
      show own_Q6 Z zs zx zw zo znw zno zlw zlo zf zg h0 n0 (some (.int (((64 : Int32) * (zx / (64 : Int32))) + (own_f7 ((zg (own_ix zx)) &&& ((-1 : Int64) <<< (zx &&& 0x3f).toInt64)))))) T32.heap _
      rw [e32]
      exact ⟨(congrArg (fun z => some (Value.int z)) (by unfold own_nw; simp only [if_pos hc6_23, if_neg hc32_25])), N32, rfl⟩
  · refine own_go (B := T22.setTop (mkF m 9 #[.val (.ref zs), .val (.int zx), .unset, .unset, .unset] [])) (fun t k => XS.icmpNo X22.here hx rfl (Jvm.hb hby d6_6) rfl (flt hc6_23).1 k) ?_
    refine own_go (B := T22.setTop (mkF m 10 #[.val (.ref zs), .val (.int zx), .unset, .unset, .unset] [(.int (-1 : Int32))])) (fun t k => XS.iconst X22.here hx rfl (Jvm.hb hby d6_9) k) ?_
    refine own_out X22 (v := (some (.int (-1 : Int32)))) (fun h => by rw [Bd.returns] at h; cases h) Bd.notSynchronized (fun fs hr => retOut X22 hx (t := .int) Bd.returns rfl (Or.inl ⟨rfl, Or.inl rfl, _, rfl⟩) (Jvm.hb hby d6_10) hr) ?_ (by decide) (by decide)
    show own_Q6 Z zs zx zw zo znw zno zlw zlo zf zg h0 n0 (some (.int (-1 : Int32))) T22.heap _
    rw [e22]
    exact ⟨(congrArg (fun z => some (Value.int z)) (by unfold own_nw; simp only [if_neg hc6_23])), N0, rfl⟩
def own_two (k j : Nat) : Int64 := own_bt (Int32.ofNat k) ||| own_bt (Int32.ofNat j)
theorem own_ntz2 : ∀ k j : Fin 64, own_f7 (own_two k.1 j.1) = Int32.ofNat (min k.1 j.1) := by decide +kernel
theorem own_bc2 : ∀ k j : Fin 64, own_bc (own_two k.1 j.1) = if k.1 = j.1 then (1 : Int32) else (2 : Int32) := by decide +kernel
theorem own_lob2 : ∀ k j : Fin 64, own_f13 (own_two k.1 j.1) = own_bt (Int32.ofNat (min k.1 j.1)) := by decide +kernel
theorem own_kx_lt (x : Int32) : own_kx x < 64 := Nat.mod_lt _ (by decide)
theorem own_kx_of (k : Nat) (h : k < 64) : own_kx (Int32.ofNat k) = k := by
  unfold own_kx
  have e : (Int32.ofNat k).toBitVec = BitVec.ofNat 32 k := rfl
  rw [e, BitVec.toNat_ofNat]
  omega
theorem own_bt_k (x : Int32) : own_bt x = own_bt (Int32.ofNat (own_kx x)) := by
  apply Int64.toBitVec_inj.mp
  rw [own_bt_bv, own_bt_bv, own_kx_of _ (own_kx_lt x)]
theorem own_two_bit (k j i : Nat) (hk : k < 64) (hj : j < 64) (hi : i < 64) : (own_two k j).toBitVec.getLsbD i = (decide (i = k) || decide (i = j)) := by
  unfold own_two
  rw [Int64.toBitVec_or, BitVec.getLsbD_or, own_bt_bit _ _ hi, own_bt_bit _ _ hi, own_kx_of _ hk, own_kx_of _ hj]
theorem own_two_ne (k j : Nat) (hk : k < 64) (hj : j < 64) : ¬ (own_two k j = (0 : Int64)) := by
  intro h
  have b := own_two_bit k j k hk hj hk
  rw [h] at b
  simp at b
theorem own_m1 (w : Int32) (i : Nat) (hi : i < 64) : ((-1 : Int64) <<< (w &&& 0x3f).toInt64).toBitVec.getLsbD i = decide (own_kx w ≤ i) := by
  obtain ⟨h1, h2⟩ := sm64 w (own_kx w) rfl
  rw [Int64.toBitVec_shiftLeft, h1, BitVec.shiftLeft_eq', smod64 _ h2]
  have hm : (-1 : Int64).toBitVec = BitVec.allOnes 64 := by decide
  rw [hm, BitVec.getLsbD_shiftLeft, BitVec.getLsbD_allOnes]
  by_cases g : i < own_kx w
  · have : ¬ (own_kx w ≤ i) := by omega
    simp [g, this]
  · have g2 : own_kx w ≤ i := by omega
    have : i - own_kx w < 64 := by omega
    simp [g, g2, hi, this]
theorem own_mask2 (k j : Nat) (w : Int32) (hk : k < 64) (hj : j < 64) : (own_two k j &&& ((-1 : Int64) <<< (w &&& 0x3f).toInt64)) = if own_kx w ≤ k then (if own_kx w ≤ j then own_two k j else own_two k k) else (if own_kx w ≤ j then own_two j j else (0 : Int64)) := by
  apply Int64.toBitVec_inj.mp
  apply BitVec.eq_of_getLsbD_eq
  intro i hi
  rw [Int64.toBitVec_and, BitVec.getLsbD_and, own_two_bit _ _ _ hk hj hi, own_m1 w i hi]
  by_cases c1 : own_kx w ≤ k
  · by_cases c2 : own_kx w ≤ j
    · rw [if_pos c1, if_pos c2, own_two_bit _ _ _ hk hj hi]
      by_cases e1 : i = k <;> by_cases e2 : i = j <;> simp_all
    · rw [if_pos c1, if_neg c2, own_two_bit _ _ _ hk hk hi]
      by_cases e1 : i = k <;> by_cases e2 : i = j <;> simp_all
  · by_cases c2 : own_kx w ≤ j
    · rw [if_neg c1, if_pos c2, own_two_bit _ _ _ hj hj hi]
      by_cases e1 : i = k <;> by_cases e2 : i = j <;> simp_all
    · rw [if_neg c1, if_neg c2]
      by_cases e1 : i = k <;> by_cases e2 : i = j <;> simp_all
def own_w2 (x y : Int32) (i : Nat) : Int64 := if own_ix x = i then (if own_ix y = i then own_two (own_kx x) (own_kx y) else own_two (own_kx x) (own_kx x)) else (if own_ix y = i then own_two (own_kx y) (own_kx y) else (0 : Int64))
theorem own_or_self (x : Int64) : x ||| x = x := by
  apply Int64.toBitVec_inj.mp; rw [Int64.toBitVec_or, BitVec.or_self]
theorem own_adds (a b : Int32) (i : Nat) : own_upd (own_upd (fun _ => 0) (own_ix a) ((fun _ => (0 : Int64)) (own_ix a) ||| own_bt a)) (own_ix b) ((own_upd (fun _ => 0) (own_ix a) ((fun _ => (0 : Int64)) (own_ix a) ||| own_bt a)) (own_ix b) ||| own_bt b) i = own_w2 a b i := by
  have ea := own_bt_k a
  have eb := own_bt_k b
  have z : ∀ x : Int64, (0 : Int64) ||| x = x := fun x => by apply Int64.toBitVec_inj.mp; rw [Int64.toBitVec_or]; simp
  simp only [own_upd, own_w2, own_two, ← ea, ← eb, z, own_or_self]
  by_cases c1 : i = own_ix b
  · subst c1
    by_cases c2 : own_ix b = own_ix a
    · simp [c2]
    · have c3 : ¬ (own_ix a = own_ix b) := fun z => c2 z.symm
      simp [c2, c3, z]
  · have c1' : ¬ (own_ix b = i) := fun z => c1 z.symm
    by_cases c2 : i = own_ix a
    · subst c2; simp [c1, c1']
    · have c2' : ¬ (own_ix a = i) := fun z => c2 z.symm
      simp [c1, c1', c2, c2']
theorem own_two_comm (k j : Nat) : own_two k j = own_two j k := by
  unfold own_two; apply Int64.toBitVec_inj.mp; rw [Int64.toBitVec_or, Int64.toBitVec_or, BitVec.or_comm]
theorem own_w2_comm (x y : Int32) (i : Nat) : own_w2 x y i = own_w2 y x i := by
  unfold own_w2
  by_cases c1 : own_ix x = i <;> by_cases c2 : own_ix y = i <;> simp [c1, c2, own_two_comm]
theorem own_ntz_two (k j : Nat) (hk : k < 64) (hj : j < 64) : own_f7 (own_two k j) = Int32.ofNat (min k j) := own_ntz2 ⟨k, hk⟩ ⟨j, hj⟩
theorem own_bc_two (k j : Nat) (hk : k < 64) (hj : j < 64) : own_bc (own_two k j) = if k = j then (1 : Int32) else (2 : Int32) := own_bc2 ⟨k, hk⟩ ⟨j, hj⟩
theorem own_lob_two (k j : Nat) (hk : k < 64) (hj : j < 64) : own_f13 (own_two k j) = own_bt (Int32.ofNat (min k j)) := own_lob2 ⟨k, hk⟩ ⟨j, hj⟩
theorem own_of (k : Nat) (h : k < 1000) : (Int32.ofNat k).toInt = k := Int32.toInt_ofNat_of_lt (by omega)
/-- 64 times a block and a place in it -/
theorem own_back (b : Int32) (B : Nat) (k : Nat) (x : Int32) (hb : b.toInt = B) (hB : B ≤ 1) (hk : k < 64) (hx : x.toInt = 64 * B + k) : (64 : Int32) * b + Int32.ofNat k = x := by
  have e := own_of k (by omega)
  have m := c_imul 64 b
  have o : (64 : Int32).toInt = 64 := rfl
  rw [o, hb] at m
  have r := rng32 (64 * b)
  have a := c_iadd (64 * b) (Int32.ofNat k)
  have r2 := rng32 (64 * b + Int32.ofNat k)
  apply Int32.toInt_inj.mp
  rw [hx]; omega
set_option maxHeartbeats 4000000 in
/-- the next occupied word -/
theorem own_nws (x y w lw lo : Int32) (g : Nat → Int64) (hx : 0 ≤ x.toInt) (hxy : x.toInt ≤ y.toInt) (hy : y.toInt < lw.toInt) (hlw : lw.toInt ≤ 128) (hlo : lo.toInt = (lw.toInt + 63) / 64) (hw : 0 ≤ w.toInt ∧ w.toInt ≤ lw.toInt) (hg : ∀ i, i < lo.toNatClampNeg → g i = own_w2 x y i) :
    own_nw w lw lo g = if w.toInt ≤ x.toInt then x else if w.toInt ≤ y.toInt then y else (-1 : Int32) := by
  have a1 := own_ix_int x hx; have a2 := own_ix_int y (by omega); have a3 := own_kx_int x hx; have a4 := own_kx_int y (by omega); have a5 := own_ix_int w hw.1; have a6 := own_kx_int w hw.1
  have a7 := own_d64 w hw.1
  have kx := own_kx_lt x; have ky := own_kx_lt y
  have o1 : (1 : Int32).toInt = 1 := rfl
  have s1 := c_iadd (w / (64 : Int32)) 1
  have rs := rng32 (w / (64 : Int32) + 1)
  rw [o1] at s1
  have s2 : (w / (64 : Int32) + 1).toInt = w.toInt / 64 + 1 := by omega
  have hln : (lo.toNatClampNeg : Int) = lo.toInt := by unfold Int32.toNatClampNeg; omega
  unfold own_nw
  by_cases c0 : w < lw
  · rw [if_pos c0]
    rw [Int32.lt_iff_toInt_lt] at c0
    rw [hg (own_ix w) (by omega)]
    have e0 : own_w2 x y (own_ix w) &&& ((-1 : Int64) <<< (w &&& 0x3f).toInt64) = if own_ix x = own_ix w ∧ own_kx w ≤ own_kx x then (if own_ix y = own_ix w ∧ own_kx w ≤ own_kx y then own_two (own_kx x) (own_kx y) else own_two (own_kx x) (own_kx x)) else (if own_ix y = own_ix w ∧ own_kx w ≤ own_kx y then own_two (own_kx y) (own_kx y) else (0 : Int64)) := by
      unfold own_w2
      by_cases d1 : own_ix x = own_ix w <;> by_cases d2 : own_ix y = own_ix w
      · rw [if_pos d1, if_pos d2, own_mask2 _ _ _ kx ky]; simp only [d1, d2, true_and]
      · rw [if_pos d1, if_neg d2, own_mask2 _ _ _ kx kx]
        by_cases d3 : own_kx w ≤ own_kx x <;> simp [d1, d2, d3]
      · rw [if_neg d1, if_pos d2, own_mask2 _ _ _ ky ky]
        by_cases d3 : own_kx w ≤ own_kx y <;> simp [d1, d2, d3]
      · rw [if_neg d1, if_neg d2]
        simp [d1, d2]
    rw [e0]
    by_cases A : own_ix x = own_ix w ∧ own_kx w ≤ own_kx x
    · by_cases B : own_ix y = own_ix w ∧ own_kx w ≤ own_kx y
      · rw [if_pos A, if_pos B, if_neg (own_two_ne _ _ kx ky), own_ntz_two _ _ kx ky, if_pos (by omega)]
        exact own_back _ (own_ix w) _ x (by omega) (by omega) (by omega) (by omega)
      · rw [if_pos A, if_neg B, if_neg (own_two_ne _ _ kx kx), own_ntz_two _ _ kx kx, if_pos (by omega)]
        exact own_back _ (own_ix w) _ x (by omega) (by omega) (by omega) (by omega)
    · by_cases B : own_ix y = own_ix w ∧ own_kx w ≤ own_kx y
      · rw [if_neg A, if_pos B, if_neg (own_two_ne _ _ ky ky), own_ntz_two _ _ ky ky, if_neg (by omega), if_pos (by omega)]
        exact own_back _ (own_ix w) _ y (by omega) (by omega) (by omega) (by omega)
      · rw [if_neg A, if_neg B, if_pos rfl]
        by_cases c1 : (w / (64 : Int32)) + (1 : Int32) = lo
        · rw [if_pos c1]
          have c1' := congrArg Int32.toInt c1
          rw [s2] at c1'
          rw [if_neg (by omega), if_neg (by omega)]
        · rw [if_neg c1]
          have c1' : ¬ (w.toInt / 64 + 1 = lo.toInt) := fun z => c1 (Int32.toInt_inj.mp (by rw [s2, z]))
          rw [hg (own_ix w + 1) (by omega)]
          unfold own_w2
          by_cases d1 : own_ix x = own_ix w + 1
          · by_cases d2 : own_ix y = own_ix w + 1
            · rw [if_pos d1, if_pos d2, if_neg (own_two_ne _ _ kx ky), own_ntz_two _ _ kx ky, if_pos (by omega)]
              exact own_back _ (own_ix w + 1) _ x (by omega) (by omega) (by omega) (by omega)
            · omega
          · by_cases d2 : own_ix y = own_ix w + 1
            · rw [if_neg d1, if_pos d2, if_neg (own_two_ne _ _ ky ky), own_ntz_two _ _ ky ky, if_neg (by omega), if_pos (by omega)]
              exact own_back _ (own_ix w + 1) _ y (by omega) (by omega) (by omega) (by omega)
            · rw [if_neg d1, if_neg d2, if_pos rfl, if_neg (by omega), if_neg (by omega)]
  · rw [if_neg c0]
    rw [Int32.lt_iff_toInt_lt] at c0
    rw [if_neg (by omega), if_neg (by omega)]
theorem own_nwe (w lw lo : Int32) (g : Nat → Int64) (hlo : lo.toInt = (lw.toInt + 63) / 64) (hlw : lw.toInt ≤ 128) (hw : 0 ≤ w.toInt) (hg : ∀ i, i < lo.toNatClampNeg → g i = 0) : own_nw w lw lo g = (-1 : Int32) := by
  have a5 := own_ix_int w hw
  have a7 := own_d64 w hw
  have o1 : (1 : Int32).toInt = 1 := rfl
  have z : ∀ v : Int64, (0 : Int64) &&& v = 0 := fun v => by apply Int64.toBitVec_inj.mp; rw [Int64.toBitVec_and]; simp
  have s1 := c_iadd (w / (64 : Int32)) 1
  have rs := rng32 (w / (64 : Int32) + 1)
  have rw_ := rng32 w
  rw [o1] at s1
  have s2 : (w / (64 : Int32) + 1).toInt = w.toInt / 64 + 1 := by omega
  unfold own_nw
  by_cases c0 : w < lw
  · rw [if_pos c0]
    rw [Int32.lt_iff_toInt_lt] at c0
    have hln : (lo.toNatClampNeg : Int) = lo.toInt := by unfold Int32.toNatClampNeg; omega
    rw [hg (own_ix w) (by omega), z, if_pos rfl]
    by_cases c1 : (w / (64 : Int32)) + (1 : Int32) = lo
    · rw [if_pos c1]
    · have c1' : ¬ (w.toInt / 64 + 1 = lo.toInt) := fun z => c1 (Int32.toInt_inj.mp (by rw [s2, z]))
      rw [if_neg c1, hg (own_ix w + 1) (by omega), if_pos rfl]
  · rw [if_neg c0]
/-- taking the lowest out -/
theorem own_rm (r : Int64) (k : Int32) (h : r.toBitVec.getLsbD (own_kx k) = false) : ((own_bt k ||| r) &&& (own_bt k ^^^ (-1 : Int64))) = r := by
  have hm : (-1 : Int64).toBitVec = BitVec.allOnes 64 := by decide
  apply Int64.toBitVec_inj.mp
  apply BitVec.eq_of_getLsbD_eq
  intro i hi
  rw [Int64.toBitVec_and, Int64.toBitVec_or, Int64.toBitVec_xor, hm, BitVec.getLsbD_and, BitVec.getLsbD_or, BitVec.getLsbD_xor, own_bt_bit _ _ hi, BitVec.getLsbD_allOnes]
  by_cases e : i = own_kx k
  · rw [e, h]; simp [own_kx_lt]
  · simp [e, hi]
theorem own_rm0 (k : Int32) : (own_bt k &&& (own_bt k ^^^ (-1 : Int64))) = 0 := by
  have := own_rm 0 k (by simp)
  have z : own_bt k ||| (0 : Int64) = own_bt k := by apply Int64.toBitVec_inj.mp; rw [Int64.toBitVec_or]; simp
  rw [z] at this; exact this
theorem own_two_self (k : Int32) : own_two (own_kx k) (own_kx k) = own_bt k := by unfold own_two; rw [← own_bt_k, own_or_self]
theorem own_two_bts (k j : Int32) : own_two (own_kx k) (own_kx j) = own_bt k ||| own_bt j := by unfold own_two; rw [← own_bt_k, ← own_bt_k]
theorem own_bt_ne (k : Int32) : ¬ (own_bt k = (0 : Int64)) := by rw [← own_two_self]; exact own_two_ne _ _ (own_kx_lt k) (own_kx_lt k)
/-- the bit that 'take' takes is that of the lowest -/
theorem own_low (x y : Int32) (hx : 0 ≤ x.toInt) (hxy : x.toInt ≤ y.toInt) : own_f13 (own_w2 x y (own_ix x)) = own_bt x := by
  have a1 := own_ix_int x hx; have a2 := own_ix_int y (by omega); have a3 := own_kx_int x hx; have a4 := own_kx_int y (by omega)
  unfold own_w2
  rw [if_pos rfl]
  by_cases c : own_ix y = own_ix x
  · rw [if_pos c, own_lob_two _ _ (own_kx_lt x) (own_kx_lt y), Nat.min_eq_left (by omega), ← own_bt_k]
  · rw [if_neg c, own_lob_two _ _ (own_kx_lt x) (own_kx_lt x), Nat.min_self, ← own_bt_k]
/-- the words behind a 'take' of two -/
theorem own_t2 (x y : Int32) (hx : 0 ≤ x.toInt) (hxy : x.toInt < y.toInt) (i : Nat) : own_upd (own_w2 x y) (own_ix x) (own_w2 x y (own_ix x) &&& (own_bt x ^^^ (-1 : Int64))) i = own_w2 y y i := by
  have hk : own_ix y = own_ix x → own_kx y ≠ own_kx x := fun e1 e2 => by have := own_same y x (by omega) hx e1 e2; rw [this] at hxy; omega
  unfold own_upd own_w2
  by_cases c : i = own_ix x
  · subst c
    rw [if_pos rfl, if_pos rfl]
    by_cases d : own_ix y = own_ix x
    · have hh := hk d
      have hh' : ¬ (own_kx x = own_kx y) := fun z => hh z.symm
      rw [if_pos d, if_pos d, if_pos d, own_two_bts, own_rm _ _ (by rw [own_bt_bit _ _ (own_kx_lt x)]; simp [hh']), own_two_self]
    · rw [if_neg d, if_neg d, own_two_self, own_rm0]
      simp [d]
  · have c' : ¬ (own_ix x = i) := fun z => c z.symm
    rw [if_neg c, if_neg c']
    by_cases d : own_ix y = i <;> simp [d]
theorem own_t1 (x : Int32) (i : Nat) : own_upd (own_w2 x x) (own_ix x) (own_w2 x x (own_ix x) &&& (own_bt x ^^^ (-1 : Int64))) i = 0 := by
  unfold own_upd own_w2
  by_cases c : i = own_ix x
  · subst c; rw [if_pos rfl, if_pos rfl, if_pos rfl, own_two_self, own_rm0]
  · have c' : ¬ (own_ix x = i) := fun z => c z.symm
    rw [if_neg c, if_neg c', if_neg c']
theorem own_hasw (x y z : Int32) (hx : 0 ≤ x.toInt) (hy : 0 ≤ y.toInt) (hz : 0 ≤ z.toInt) : own_has (own_w2 x y) z ↔ (z = x ∨ z = y) := by
  rw [own_has_iff]
  have kx := own_kx_lt x; have ky := own_kx_lt y; have kz := own_kx_lt z
  unfold own_w2
  by_cases c1 : own_ix x = own_ix z <;> by_cases c2 : own_ix y = own_ix z
  · rw [if_pos c1, if_pos c2, own_two_bit _ _ _ kx ky kz]
    by_cases d1 : own_kx z = own_kx x
    · have := own_same z x hz hx c1.symm d1; simp [this]
    · have n1 : ¬ z = x := fun e => d1 (by rw [e])
      by_cases d2 : own_kx z = own_kx y
      · have := own_same z y hz hy c2.symm d2; simp [this, d2]
      · have n2 : ¬ z = y := fun e => d2 (by rw [e])
        simp [d1, d2, n1, n2]
  · rw [if_pos c1, if_neg c2, own_two_bit _ _ _ kx kx kz]
    have n2 : ¬ z = y := fun e => c2 (by rw [e])
    by_cases d1 : own_kx z = own_kx x
    · have := own_same z x hz hx c1.symm d1; simp [this]
    · have n1 : ¬ z = x := fun e => d1 (by rw [e])
      simp [d1, n1, n2]
  · rw [if_neg c1, if_pos c2, own_two_bit _ _ _ ky ky kz]
    have n1 : ¬ z = x := fun e => c1 (by rw [e])
    by_cases d2 : own_kx z = own_kx y
    · have := own_same z y hz hy c2.symm d2; simp [this]
    · have n2 : ¬ z = y := fun e => d2 (by rw [e])
      simp [d2, n1, n2]
  · rw [if_neg c1, if_neg c2]
    have n1 : ¬ z = x := fun e => c1 (by rw [e])
    have n2 : ¬ z = y := fun e => c2 (by rw [e])
    simp [n1, n2]

theorem own_inc0 (z : Int32) (h : ¬ (z < (0 : Int32))) (h2 : z.toInt < 128) : ¬ ((z + (1 : Int32)) < (0 : Int32)) := by
  rw [own_nn] at *
  have o1 : (1 : Int32).toInt = 1 := rfl
  have s := c_iadd z 1; rw [o1] at s; have r := rng32 (z + 1); omega
theorem own_incb (z lw lo : Int32) (h : ¬ (z < (0 : Int32))) (h2 : z.toInt < 128) (hlo : lo.toInt = (lw.toInt + 63) / 64) : (z + (1 : Int32)).toInt < lw.toInt → (z + (1 : Int32)).toInt / 64 < lo.toInt := by
  omega
theorem d5_0 : decode prog_34_method_10_code 0 = .ok (.iconst 0, 1) := by decide +kernel
theorem d5_1 : decode prog_34_method_10_code 1 = .ok (.istore_n 1, 1) := by decide +kernel
theorem d5_2 : decode prog_34_method_10_code 2 = .ok (.aload_n 0, 1) := by decide +kernel
theorem d5_3 : decode prog_34_method_10_code 3 = .ok (.iconst 0, 1) := by decide +kernel
theorem d5_4 : decode prog_34_method_10_code 4 = .ok (.invokevirtual 26, 3) := by decide +kernel
theorem d5_7 : decode prog_34_method_10_code 7 = .ok (.istore_n 2, 1) := by decide +kernel
theorem d5_8 : decode prog_34_method_10_code 8 = .ok (.iload_n 2, 1) := by decide +kernel
theorem d5_9 : decode prog_34_method_10_code 9 = .ok (.ifCond .lt 26, 3) := by decide +kernel
theorem d5_12 : decode prog_34_method_10_code 12 = .ok (.iload_n 1, 1) := by decide +kernel
theorem d5_13 : decode prog_34_method_10_code 13 = .ok (.aload_n 0, 1) := by decide +kernel
theorem d5_14 : decode prog_34_method_10_code 14 = .ok (.getfield 7, 3) := by decide +kernel
theorem d5_17 : decode prog_34_method_10_code 17 = .ok (.iload_n 2, 1) := by decide +kernel
theorem d5_18 : decode prog_34_method_10_code 18 = .ok (.laload, 1) := by decide +kernel
theorem d5_19 : decode prog_34_method_10_code 19 = .ok (.invokestatic 40, 3) := by decide +kernel
theorem d5_22 : decode prog_34_method_10_code 22 = .ok (.iadd, 1) := by decide +kernel
theorem d5_23 : decode prog_34_method_10_code 23 = .ok (.istore_n 1, 1) := by decide +kernel
theorem d5_24 : decode prog_34_method_10_code 24 = .ok (.aload_n 0, 1) := by decide +kernel
theorem d5_25 : decode prog_34_method_10_code 25 = .ok (.iload_n 2, 1) := by decide +kernel
theorem d5_26 : decode prog_34_method_10_code 26 = .ok (.iconst 1, 1) := by decide +kernel
theorem d5_27 : decode prog_34_method_10_code 27 = .ok (.iadd, 1) := by decide +kernel
theorem d5_28 : decode prog_34_method_10_code 28 = .ok (.invokevirtual 26, 3) := by decide +kernel
theorem d5_31 : decode prog_34_method_10_code 31 = .ok (.istore_n 2, 1) := by decide +kernel
theorem d5_32 : decode prog_34_method_10_code 32 = .ok (.goto (-24), 3) := by decide +kernel
theorem d5_35 : decode prog_34_method_10_code 35 = .ok (.iload_n 1, 1) := by decide +kernel
theorem d5_36 : decode prog_34_method_10_code 36 = .ok (.ireturn, 1) := by decide +kernel
theorem ef_5_size1 (m : MethodId) (x0 : Addr) : entryFrame m #[(.ref x0)] 3 = mkF m 0 #[.val (.ref x0), .unset, .unset] [] := by first | (simp [entryFrame, mkF, argsToLocals, Value.category]; done) | rfl
def own_Q5_size1 (Z : State) (zs : Addr) (zw : Addr) (zo : Addr) (znw : Nat) (zno : Nat) (zlw : Int32) (zlo : Int32) (zf : Nat → Int64) (zg : Nat → Int64) (z1 : Int32) (z2 : Int32) (h0 : Heap) (n0 : Nat) (v : Option Value) (h : Heap) (L : List Loc) : Prop := v = some (.int ((0 : Int32) + (own_bc (zf z1.toNatClampNeg)))) ∧ Fr n0 L ∧ h = h0
set_option maxRecDepth 65536 in
set_option maxHeartbeats 40000000 in
theorem rm_size1 (l : Launch) (Z : State) (a0 : Array Value) (hw : ∀ d ∈ tables_1, d.before a0 Z = true) (ws : List Jvm.Cond) (zs : Addr) (zw : Addr) (zo : Addr) (znw : Nat) (zno : Nat) (zlw : Int32) (zlo : Int32) (zf : Nat → Int64) (zg : Nat → Int64) (z1 : Int32) (z2 : Int32) (h0 : Heap) (n0 : Nat) (Z0 : n0 ≤ h0.size) (E_zs : Exa Z h0 zs "com/example/netloom/netloom/embed/NodeSet") (F_zs_words : Fld Z h0 zs "com/example/netloom/netloom/embed/NodeSet" "words" "[J" (.ref zw)) (F_zs_occupied : Fld Z h0 zs "com/example/netloom/netloom/embed/NodeSet" "occupied" "[J" (.ref zo)) (V_zw : own_LA Z h0 zw znw zf) (V_zo : own_LA Z h0 zo zno zg) (hn1 : (own_nw (0 : Int32) zlw zlo zg) = z1) (hz1n : ¬ (z1 < (0 : Int32))) (hz1b : z1.toInt < 128) (hz1i : z1.toNatClampNeg < znw) (hl1 : znw.toInt32 = zlw) (hl2 : zno.toInt32 = zlo) (hno : (zno : Int) = zlo.toInt) (hz2 : zlo.toInt ≤ 2) (hlo : zlo.toInt = (zlw.toInt + 63) / 64) (hb0 : (0 : Int32).toInt / 64 < zlo.toInt) (hn2 : (own_nw (z1 + (1 : Int32)) zlw zlo zg) = z2) (hz2n : z2 < (0 : Int32)) :
    MetFree l (⟨"com/example/netloom/netloom/embed/NodeSet", "size", "()I"⟩ : MethodName) (head1 (Jvm.Cond.code (⟨"com/example/netloom/netloom/embed/NodeSet", "size", "()I"⟩ : MethodName) prog_34_method_10_code 3 (some .int) :: ws) ({ frames := 3, cells := 0, slots := 0, locals := 45 } : Room)) (fun a U => a = #[(.ref zs)] ∧ Z.Warmed39 U.vm ∧ U.heap = h0) (fun _ _ _ _ _ => True) (fun _ U o U' => ∃ v L, o = .returned v ∧ own_Q5_size1 Z zs zw zo znw zno zlw zlo zf zg z1 z2 h0 n0 v U'.heap L ∧ FrameEnd U o U' L ({ frames := 3, cells := 0, slots := 0, locals := 45 } : Room).cells ({ frames := 3, cells := 0, slots := 0, locals := 45 } : Room).slots) := by
  refine MetFree.of_bodySF (plainFor_of_name pn_com_example_netloom_netloom_embed_NodeSet) hisR ?_
  intro p e s m args below meth c s₁ Bd hml0 hP hK
  obtain ⟨rfl, hZ, hh⟩ := hP
  have hx := Bd.exec
  have hby := Bd.bytes
  have hml : c.maxLocals = 3 := hml0
  have hown : s.vm.findClass "com/example/netloom/netloom/embed/NodeSet" = some m.cls := findClass_of_methodNamed Bd.named
  have hnm := (name_of_methodNamed Bd.named Bd.method).1
  have X0 : Stand p l e ({ frames := 3, cells := 0, slots := 0, locals := 45 } : Room) s m #[(.ref zs)] below meth c s₁ [] 0 0 := Stand.of_body Bd
  have e0 : s₁.heap = h0 := by rw [← hh, Bd.state]; rfl
  have N0 := Fr.nil n0
  have Zs := Z0
  show own_Goes p e below s (own_Q5_size1 Z zs zw zo znw zno zlw zlo zf zg z1 z2 h0 n0) ({ frames := 3, cells := 0, slots := 0, locals := 45 } : Room).cells ({ frames := 3, cells := 0, slots := 0, locals := 45 } : Room).slots _
  refine own_go (B := s₁.setTop (mkF m 0 #[.val (.ref zs), .unset, .unset] [])) (fun t k => castTop (ef_5_size1 m zs) k) ?_
  refine own_go (B := s₁.setTop (mkF m 1 #[.val (.ref zs), .unset, .unset] [(.int (0 : Int32))])) (fun t k => XS.iconst X0.here hx rfl (Jvm.hb hby d5_0) k) ?_
  refine own_go (B := s₁.setTop (mkF m 2 #[.val (.ref zs), .val (.int (0 : Int32)), .unset] [])) (fun t k => XS.istoreN X0.here hx rfl (Jvm.hb hby d5_1) rfl (l' := #[.val (.ref zs), .val (.int (0 : Int32)), .unset]) rfl k) ?_
  refine own_go (B := s₁.setTop (mkF m 3 #[.val (.ref zs), .val (.int (0 : Int32)), .unset] [(.ref zs)])) (fun t k => XS.aloadN X0.here hx rfl (Jvm.hb hby d5_2) rfl rfl k) ?_
  refine own_go (B := s₁.setTop (mkF m 4 #[.val (.ref zs), .val (.int (0 : Int32)), .unset] [(.int (0 : Int32)), (.ref zs)])) (fun t k => XS.iconst X0.here hx rfl (Jvm.hb hby d5_3) k) ?_
  obtain ⟨cq33, q33, q33'⟩ := E_zs.cell
  obtain ⟨_, _, ⟨T33, La33, ka33, na33⟩, -, X33, ⟨Lc33, hQ33, l33, y33, z33⟩, st33⟩ := X0.privateBack hx (y := (⟨"com/example/netloom/netloom/embed/NodeSet", "nextWord", "(I)I"⟩ : MethodName)) hown (mvT hZ (own_w hw 30 rfl)) (mvT hZ (own_w hw 31 rfl)) (own_selP (y' := (⟨"com/example/netloom/netloom/embed/NodeSet", "add", "(I)V"⟩ : MethodName)) (mvT hZ (own_w hw 18 rfl)) rfl (Cond.privateMethod_at (mvP hZ (own_w hw 32 rfl) (args := #[]))) (mvT hZ (own_w hw 31 rfl)) (by decide)) (Cond.privateMethod_at (mvP hZ (own_w hw 32 rfl) (args := #[]))) (mvT hZ (own_w hw 33 rfl)) (by decide) (backOf (W := 0) (rm6 l Z a0 hw [] zs (0 : Int32) zw zo znw zno zlw zlo zf zg h0 n0 Zs F_zs_words F_zs_occupied V_zw V_zo (by decide) hl1 hl2 hno hz2 (fun _ => hb0)) hZ (own_w hw 33 rfl) (own_w hw 3 rfl) (by decide) (by decide)) (g := (mkF m 4 #[.val (.ref zs), .val (.int (0 : Int32)), .unset] [(.int (0 : Int32)), (.ref zs)])) rfl (by rw [hml]; rfl) (Steps.refl _) (a := zs) (by rw [e0]; exact q33) q33' (argsL := [(.int (0 : Int32))]) (rest := []) (lenOf pd_0 rfl) rfl (by show 2 * 0 + _ ≤ _; exact Nat.le_of_eq rfl) (Jvm.hb hby d5_4) (fun _ _ => ⟨rfl, e0, (by decide : 0 + 0 ≤ _), (by decide : 0 + 0 ≤ _)⟩)
  dsimp only [Pt.U, Pt.locs, Pt.cells, Pt.slots] at X33 l33 y33 z33 st33 hQ33
  subst l33 y33 z33
  obtain ⟨rfl, N33q, e33⟩ := hQ33
  have N33 := Fr.app N0 N33q
  refine own_go (B := T33.setTop (mkF m 7 #[.val (.ref zs), .val (.int (0 : Int32)), .unset] [(.int (own_nw (0 : Int32) zlw zlo zg))])) (fun t k => own_st st33 k) ?_
  rw [hn1]
  refine own_go (B := T33.setTop (mkF m 8 #[.val (.ref zs), .val (.int (0 : Int32)), .val (.int z1)] [])) (fun t k => XS.istoreN X33.here hx rfl (Jvm.hb hby d5_7) rfl (l' := #[.val (.ref zs), .val (.int (0 : Int32)), .val (.int z1)]) rfl k) ?_
  refine own_go (B := T33.setTop (mkF m 9 #[.val (.ref zs), .val (.int (0 : Int32)), .val (.int z1)] [(.int z1)])) (fun t k => XS.iloadN X33.here hx rfl (Jvm.hb hby d5_8) rfl k) ?_
  refine own_go (B := T33.setTop (mkF m 12 #[.val (.ref zs), .val (.int (0 : Int32)), .val (.int z1)] [])) (fun t k => XS.ifNo X33.here hx rfl (Jvm.hb hby d5_9) rfl ((if0 _ _).trans (flt hz1n).1) k) ?_
  refine own_go (B := T33.setTop (mkF m 13 #[.val (.ref zs), .val (.int (0 : Int32)), .val (.int z1)] [(.int (0 : Int32))])) (fun t k => XS.iloadN X33.here hx rfl (Jvm.hb hby d5_12) rfl k) ?_
  refine own_go (B := T33.setTop (mkF m 14 #[.val (.ref zs), .val (.int (0 : Int32)), .val (.int z1)] [(.ref zs), (.int (0 : Int32))])) (fun t k => XS.aloadN X33.here hx rfl (Jvm.hb hby d5_13) rfl rfl k) ?_
  obtain ⟨T34, X34, e34, st34⟩ := getF X33 hx hZ hown (host := "") (Or.inl (own_w hw 11 rfl)) Via.refl e33 F_zs_words (g := (mkF m 14 #[.val (.ref zs), .val (.int (0 : Int32)), .val (.int z1)] [(.ref zs), (.int (0 : Int32))])) rfl rfl (Jvm.hb hby d5_14)
  refine own_go (B := T34.setTop (mkF m 17 #[.val (.ref zs), .val (.int (0 : Int32)), .val (.int z1)] [(.ref zw), (.int (0 : Int32))])) (fun t k => st34 _ k) ?_
  refine own_go (B := T34.setTop (mkF m 18 #[.val (.ref zs), .val (.int (0 : Int32)), .val (.int z1)] [(.int z1), (.ref zw), (.int (0 : Int32))])) (fun t k => XS.iloadN X34.here hx rfl (Jvm.hb hby d5_17) rfl k) ?_
  refine own_go (B := T34.setTop (mkF m 19 #[.val (.ref zs), .val (.int (0 : Int32)), .val (.int z1)] [(.long (zf z1.toNatClampNeg)), (.int (0 : Int32))])) (fun t k => own_laload X34 hx hZ e34 V_zw (j := z1) (k := z1.toNatClampNeg) hz1n rfl hz1i (Jvm.hb hby d5_18) t k) ?_
  obtain ⟨_, _, ⟨T35, La35, ka35, na35⟩, -, X35, ⟨Lc35, hQ35, l35, y35, z35⟩, st35⟩ := Jvm.LawKit.callS X34 hx (y := (⟨"java/lang/Long", "bitCount", "(J)I"⟩ : MethodName)) hown (mvT hZ (own_w hw 43 rfl)) (mvT hZ (own_w hw 44 rfl)) (mvT hZ (own_w hw 37 rfl)) (mvT hZ (own_w hw 45 rfl)) (by decide) (backOf (W := 1) (rm9 l Z a0 hw [] (zf z1.toNatClampNeg) h0 n0 Zs) hZ (own_w hw 45 rfl) (own_w hw 37 rfl) (by decide) (by decide)) (g := (mkF m 19 #[.val (.ref zs), .val (.int (0 : Int32)), .val (.int z1)] [(.long (zf z1.toNatClampNeg)), (.int (0 : Int32))])) rfl (by rw [hml]; rfl) (argsL := [(.long (zf z1.toNatClampNeg))]) (rest := [(.int (0 : Int32))]) (lenOf pd_1 rfl) rfl (by show 2 * 0 + _ ≤ _; exact Nat.le_of_eq rfl) (Jvm.hb hby d5_19) (fun _ _ => ⟨rfl, e34, (by decide : 0 + 0 ≤ _), (by decide : 0 + 0 ≤ _)⟩)
  dsimp only [Pt.U, Pt.locs, Pt.cells, Pt.slots] at X35 l35 y35 z35 st35 hQ35
  subst l35 y35 z35
  obtain ⟨rfl, N35q, e35⟩ := hQ35
  have N35 := Fr.app N33 N35q
  refine own_go (B := T35.setTop (mkF m 22 #[.val (.ref zs), .val (.int (0 : Int32)), .val (.int z1)] [(.int (own_bc (zf z1.toNatClampNeg))), (.int (0 : Int32))])) (fun t k => st35 _ k) ?_
  refine own_go (B := T35.setTop (mkF m 23 #[.val (.ref zs), .val (.int (0 : Int32)), .val (.int z1)] [(.int ((0 : Int32) + (own_bc (zf z1.toNatClampNeg))))])) (fun t k => XS.iadd X35.here hx rfl (Jvm.hb hby d5_22) rfl k) ?_
  refine own_go (B := T35.setTop (mkF m 24 #[.val (.ref zs), .val (.int ((0 : Int32) + (own_bc (zf z1.toNatClampNeg)))), .val (.int z1)] [])) (fun t k => XS.istoreN X35.here hx rfl (Jvm.hb hby d5_23) rfl (l' := #[.val (.ref zs), .val (.int ((0 : Int32) + (own_bc (zf z1.toNatClampNeg)))), .val (.int z1)]) rfl k) ?_
  refine own_go (B := T35.setTop (mkF m 25 #[.val (.ref zs), .val (.int ((0 : Int32) + (own_bc (zf z1.toNatClampNeg)))), .val (.int z1)] [(.ref zs)])) (fun t k => XS.aloadN X35.here hx rfl (Jvm.hb hby d5_24) rfl rfl k) ?_
  refine own_go (B := T35.setTop (mkF m 26 #[.val (.ref zs), .val (.int ((0 : Int32) + (own_bc (zf z1.toNatClampNeg)))), .val (.int z1)] [(.int z1), (.ref zs)])) (fun t k => XS.iloadN X35.here hx rfl (Jvm.hb hby d5_25) rfl k) ?_
  refine own_go (B := T35.setTop (mkF m 27 #[.val (.ref zs), .val (.int ((0 : Int32) + (own_bc (zf z1.toNatClampNeg)))), .val (.int z1)] [(.int (1 : Int32)), (.int z1), (.ref zs)])) (fun t k => XS.iconst X35.here hx rfl (Jvm.hb hby d5_26) k) ?_
  refine own_go (B := T35.setTop (mkF m 28 #[.val (.ref zs), .val (.int ((0 : Int32) + (own_bc (zf z1.toNatClampNeg)))), .val (.int z1)] [(.int (z1 + (1 : Int32))), (.ref zs)])) (fun t k => XS.iadd X35.here hx rfl (Jvm.hb hby d5_27) rfl k) ?_
  obtain ⟨cq36, q36, q36'⟩ := E_zs.cell
  obtain ⟨_, _, ⟨T36, La36, ka36, na36⟩, -, X36, ⟨Lc36, hQ36, l36, y36, z36⟩, st36⟩ := X35.privateBack hx (y := (⟨"com/example/netloom/netloom/embed/NodeSet", "nextWord", "(I)I"⟩ : MethodName)) hown (mvT hZ (own_w hw 30 rfl)) (mvT hZ (own_w hw 31 rfl)) (own_selP (y' := (⟨"com/example/netloom/netloom/embed/NodeSet", "add", "(I)V"⟩ : MethodName)) (mvT hZ (own_w hw 18 rfl)) rfl (Cond.privateMethod_at (mvP hZ (own_w hw 32 rfl) (args := #[]))) (mvT hZ (own_w hw 31 rfl)) (by decide)) (Cond.privateMethod_at (mvP hZ (own_w hw 32 rfl) (args := #[]))) (mvT hZ (own_w hw 33 rfl)) (by decide) (backOf (W := 0) (rm6 l Z a0 hw [] zs (z1 + (1 : Int32)) zw zo znw zno zlw zlo zf zg h0 n0 Zs F_zs_words F_zs_occupied V_zw V_zo (own_inc0 z1 hz1n hz1b) hl1 hl2 hno hz2 (own_incb z1 zlw zlo hz1n hz1b hlo)) hZ (own_w hw 33 rfl) (own_w hw 3 rfl) (by decide) (by decide)) (g := (mkF m 28 #[.val (.ref zs), .val (.int ((0 : Int32) + (own_bc (zf z1.toNatClampNeg)))), .val (.int z1)] [(.int (z1 + (1 : Int32))), (.ref zs)])) rfl (by rw [hml]; rfl) (Steps.refl _) (a := zs) (by rw [e35]; exact q36) q36' (argsL := [(.int (z1 + (1 : Int32)))]) (rest := []) (lenOf pd_0 rfl) rfl (by show 2 * 0 + _ ≤ _; exact Nat.le_of_eq rfl) (Jvm.hb hby d5_28) (fun _ _ => ⟨rfl, e35, (by decide : 0 + 0 ≤ _), (by decide : 0 + 0 ≤ _)⟩)
  dsimp only [Pt.U, Pt.locs, Pt.cells, Pt.slots] at X36 l36 y36 z36 st36 hQ36
  subst l36 y36 z36
  obtain ⟨rfl, N36q, e36⟩ := hQ36
  have N36 := Fr.app N35 N36q
  refine own_go (B := T36.setTop (mkF m 31 #[.val (.ref zs), .val (.int ((0 : Int32) + (own_bc (zf z1.toNatClampNeg)))), .val (.int z1)] [(.int (own_nw (z1 + (1 : Int32)) zlw zlo zg))])) (fun t k => own_st st36 k) ?_
  rw [hn2]
  refine own_go (B := T36.setTop (mkF m 32 #[.val (.ref zs), .val (.int ((0 : Int32) + (own_bc (zf z1.toNatClampNeg)))), .val (.int z2)] [])) (fun t k => XS.istoreN X36.here hx rfl (Jvm.hb hby d5_31) rfl (l' := #[.val (.ref zs), .val (.int ((0 : Int32) + (own_bc (zf z1.toNatClampNeg)))), .val (.int z2)]) rfl k) ?_
  refine own_go (B := T36.setTop (mkF m 8 #[.val (.ref zs), .val (.int ((0 : Int32) + (own_bc (zf z1.toNatClampNeg)))), .val (.int z2)] [])) (fun t k => XS.goto X36.here hx rfl (pc0 := 32) (pc' := 8) rfl (Jvm.hb hby d5_32) (by decide) (by decide) k) ?_
  refine own_go (B := T36.setTop (mkF m 9 #[.val (.ref zs), .val (.int ((0 : Int32) + (own_bc (zf z1.toNatClampNeg)))), .val (.int z2)] [(.int z2)])) (fun t k => XS.iloadN X36.here hx rfl (Jvm.hb hby d5_8) rfl k) ?_
  refine own_go (B := T36.setTop (mkF m 35 #[.val (.ref zs), .val (.int ((0 : Int32) + (own_bc (zf z1.toNatClampNeg)))), .val (.int z2)] [])) (fun t k => XS.ifYes X36.here hx rfl (pc0 := 9) (pc' := 35) rfl (Jvm.hb hby d5_9) rfl ((if0 _ _).trans (tlt hz2n).1) (by decide) (by decide) k) ?_
  refine own_go (B := T36.setTop (mkF m 36 #[.val (.ref zs), .val (.int ((0 : Int32) + (own_bc (zf z1.toNatClampNeg)))), .val (.int z2)] [(.int ((0 : Int32) + (own_bc (zf z1.toNatClampNeg))))])) (fun t k => XS.iloadN X36.here hx rfl (Jvm.hb hby d5_35) rfl k) ?_
  refine own_out X36 (v := (some (.int ((0 : Int32) + (own_bc (zf z1.toNatClampNeg)))))) (fun h => by rw [Bd.returns] at h; cases h) Bd.notSynchronized (fun fs hr => retOut X36 hx (t := .int) Bd.returns rfl (Or.inl ⟨rfl, Or.inl rfl, _, rfl⟩) (Jvm.hb hby d5_36) hr) ?_ (by decide) (by decide)
  show own_Q5_size1 Z zs zw zo znw zno zlw zlo zf zg z1 z2 h0 n0 (some (.int ((0 : Int32) + (own_bc (zf z1.toNatClampNeg))))) T36.heap _
  rw [e36]
  exact ⟨rfl, N36, rfl⟩
theorem ef_5_size2 (m : MethodId) (x0 : Addr) : entryFrame m #[(.ref x0)] 3 = mkF m 0 #[.val (.ref x0), .unset, .unset] [] := by first | (simp [entryFrame, mkF, argsToLocals, Value.category]; done) | rfl
def own_Q5_size2 (Z : State) (zs : Addr) (zw : Addr) (zo : Addr) (znw : Nat) (zno : Nat) (zlw : Int32) (zlo : Int32) (zf : Nat → Int64) (zg : Nat → Int64) (z1 : Int32) (z2 : Int32) (h0 : Heap) (n0 : Nat) (v : Option Value) (h : Heap) (L : List Loc) : Prop := v = some (.int (((0 : Int32) + (own_bc (zf z1.toNatClampNeg))) + (own_bc (zf z2.toNatClampNeg)))) ∧ Fr n0 L ∧ h = h0
set_option maxRecDepth 65536 in
set_option maxHeartbeats 40000000 in
theorem rm_size2 (l : Launch) (Z : State) (a0 : Array Value) (hw : ∀ d ∈ tables_1, d.before a0 Z = true) (ws : List Jvm.Cond) (zs : Addr) (zw : Addr) (zo : Addr) (znw : Nat) (zno : Nat) (zlw : Int32) (zlo : Int32) (zf : Nat → Int64) (zg : Nat → Int64) (z1 : Int32) (z2 : Int32) (h0 : Heap) (n0 : Nat) (Z0 : n0 ≤ h0.size) (E_zs : Exa Z h0 zs "com/example/netloom/netloom/embed/NodeSet") (F_zs_words : Fld Z h0 zs "com/example/netloom/netloom/embed/NodeSet" "words" "[J" (.ref zw)) (F_zs_occupied : Fld Z h0 zs "com/example/netloom/netloom/embed/NodeSet" "occupied" "[J" (.ref zo)) (V_zw : own_LA Z h0 zw znw zf) (V_zo : own_LA Z h0 zo zno zg) (hn1 : (own_nw (0 : Int32) zlw zlo zg) = z1) (hz1n : ¬ (z1 < (0 : Int32))) (hz1b : z1.toInt < 128) (hz1i : z1.toNatClampNeg < znw) (hl1 : znw.toInt32 = zlw) (hl2 : zno.toInt32 = zlo) (hno : (zno : Int) = zlo.toInt) (hz2 : zlo.toInt ≤ 2) (hlo : zlo.toInt = (zlw.toInt + 63) / 64) (hb0 : (0 : Int32).toInt / 64 < zlo.toInt) (hn2 : (own_nw (z1 + (1 : Int32)) zlw zlo zg) = z2) (hz2n : ¬ (z2 < (0 : Int32))) (hz2b : z2.toInt < 128) (hz2i : z2.toNatClampNeg < znw) (hn3 : (own_nw (z2 + (1 : Int32)) zlw zlo zg) = (-1 : Int32)) :
    MetFree l (⟨"com/example/netloom/netloom/embed/NodeSet", "size", "()I"⟩ : MethodName) (head1 (Jvm.Cond.code (⟨"com/example/netloom/netloom/embed/NodeSet", "size", "()I"⟩ : MethodName) prog_34_method_10_code 3 (some .int) :: ws) ({ frames := 3, cells := 0, slots := 0, locals := 45 } : Room)) (fun a U => a = #[(.ref zs)] ∧ Z.Warmed39 U.vm ∧ U.heap = h0) (fun _ _ _ _ _ => True) (fun _ U o U' => ∃ v L, o = .returned v ∧ own_Q5_size2 Z zs zw zo znw zno zlw zlo zf zg z1 z2 h0 n0 v U'.heap L ∧ FrameEnd U o U' L ({ frames := 3, cells := 0, slots := 0, locals := 45 } : Room).cells ({ frames := 3, cells := 0, slots := 0, locals := 45 } : Room).slots) := by
  refine MetFree.of_bodySF (plainFor_of_name pn_com_example_netloom_netloom_embed_NodeSet) hisR ?_
  intro p e s m args below meth c s₁ Bd hml0 hP hK
  obtain ⟨rfl, hZ, hh⟩ := hP
  have hx := Bd.exec
  have hby := Bd.bytes
  have hml : c.maxLocals = 3 := hml0
  have hown : s.vm.findClass "com/example/netloom/netloom/embed/NodeSet" = some m.cls := findClass_of_methodNamed Bd.named
  have hnm := (name_of_methodNamed Bd.named Bd.method).1
  have X0 : Stand p l e ({ frames := 3, cells := 0, slots := 0, locals := 45 } : Room) s m #[(.ref zs)] below meth c s₁ [] 0 0 := Stand.of_body Bd
  have e0 : s₁.heap = h0 := by rw [← hh, Bd.state]; rfl
  have N0 := Fr.nil n0
  have Zs := Z0
  show own_Goes p e below s (own_Q5_size2 Z zs zw zo znw zno zlw zlo zf zg z1 z2 h0 n0) ({ frames := 3, cells := 0, slots := 0, locals := 45 } : Room).cells ({ frames := 3, cells := 0, slots := 0, locals := 45 } : Room).slots _
  refine own_go (B := s₁.setTop (mkF m 0 #[.val (.ref zs), .unset, .unset] [])) (fun t k => castTop (ef_5_size2 m zs) k) ?_
  refine own_go (B := s₁.setTop (mkF m 1 #[.val (.ref zs), .unset, .unset] [(.int (0 : Int32))])) (fun t k => XS.iconst X0.here hx rfl (Jvm.hb hby d5_0) k) ?_
  refine own_go (B := s₁.setTop (mkF m 2 #[.val (.ref zs), .val (.int (0 : Int32)), .unset] [])) (fun t k => XS.istoreN X0.here hx rfl (Jvm.hb hby d5_1) rfl (l' := #[.val (.ref zs), .val (.int (0 : Int32)), .unset]) rfl k) ?_
  refine own_go (B := s₁.setTop (mkF m 3 #[.val (.ref zs), .val (.int (0 : Int32)), .unset] [(.ref zs)])) (fun t k => XS.aloadN X0.here hx rfl (Jvm.hb hby d5_2) rfl rfl k) ?_
  refine own_go (B := s₁.setTop (mkF m 4 #[.val (.ref zs), .val (.int (0 : Int32)), .unset] [(.int (0 : Int32)), (.ref zs)])) (fun t k => XS.iconst X0.here hx rfl (Jvm.hb hby d5_3) k) ?_
  obtain ⟨cq37, q37, q37'⟩ := E_zs.cell
  obtain ⟨_, _, ⟨T37, La37, ka37, na37⟩, -, X37, ⟨Lc37, hQ37, l37, y37, z37⟩, st37⟩ := X0.privateBack hx (y := (⟨"com/example/netloom/netloom/embed/NodeSet", "nextWord", "(I)I"⟩ : MethodName)) hown (mvT hZ (own_w hw 30 rfl)) (mvT hZ (own_w hw 31 rfl)) (own_selP (y' := (⟨"com/example/netloom/netloom/embed/NodeSet", "add", "(I)V"⟩ : MethodName)) (mvT hZ (own_w hw 18 rfl)) rfl (Cond.privateMethod_at (mvP hZ (own_w hw 32 rfl) (args := #[]))) (mvT hZ (own_w hw 31 rfl)) (by decide)) (Cond.privateMethod_at (mvP hZ (own_w hw 32 rfl) (args := #[]))) (mvT hZ (own_w hw 33 rfl)) (by decide) (backOf (W := 0) (rm6 l Z a0 hw [] zs (0 : Int32) zw zo znw zno zlw zlo zf zg h0 n0 Zs F_zs_words F_zs_occupied V_zw V_zo (by decide) hl1 hl2 hno hz2 (fun _ => hb0)) hZ (own_w hw 33 rfl) (own_w hw 3 rfl) (by decide) (by decide)) (g := (mkF m 4 #[.val (.ref zs), .val (.int (0 : Int32)), .unset] [(.int (0 : Int32)), (.ref zs)])) rfl (by rw [hml]; rfl) (Steps.refl _) (a := zs) (by rw [e0]; exact q37) q37' (argsL := [(.int (0 : Int32))]) (rest := []) (lenOf pd_0 rfl) rfl (by show 2 * 0 + _ ≤ _; exact Nat.le_of_eq rfl) (Jvm.hb hby d5_4) (fun _ _ => ⟨rfl, e0, (by decide : 0 + 0 ≤ _), (by decide : 0 + 0 ≤ _)⟩)
  dsimp only [Pt.U, Pt.locs, Pt.cells, Pt.slots] at X37 l37 y37 z37 st37 hQ37
  subst l37 y37 z37
  obtain ⟨rfl, N37q, e37⟩ := hQ37
  have N37 := Fr.app N0 N37q
  refine own_go (B := T37.setTop (mkF m 7 #[.val (.ref zs), .val (.int (0 : Int32)), .unset] [(.int (own_nw (0 : Int32) zlw zlo zg))])) (fun t k => own_st st37 k) ?_
  rw [hn1]
  refine own_go (B := T37.setTop (mkF m 8 #[.val (.ref zs), .val (.int (0 : Int32)), .val (.int z1)] [])) (fun t k => XS.istoreN X37.here hx rfl (Jvm.hb hby d5_7) rfl (l' := #[.val (.ref zs), .val (.int (0 : Int32)), .val (.int z1)]) rfl k) ?_
  refine own_go (B := T37.setTop (mkF m 9 #[.val (.ref zs), .val (.int (0 : Int32)), .val (.int z1)] [(.int z1)])) (fun t k => XS.iloadN X37.here hx rfl (Jvm.hb hby d5_8) rfl k) ?_
  refine own_go (B := T37.setTop (mkF m 12 #[.val (.ref zs), .val (.int (0 : Int32)), .val (.int z1)] [])) (fun t k => XS.ifNo X37.here hx rfl (Jvm.hb hby d5_9) rfl ((if0 _ _).trans (flt hz1n).1) k) ?_
  refine own_go (B := T37.setTop (mkF m 13 #[.val (.ref zs), .val (.int (0 : Int32)), .val (.int z1)] [(.int (0 : Int32))])) (fun t k => XS.iloadN X37.here hx rfl (Jvm.hb hby d5_12) rfl k) ?_
  refine own_go (B := T37.setTop (mkF m 14 #[.val (.ref zs), .val (.int (0 : Int32)), .val (.int z1)] [(.ref zs), (.int (0 : Int32))])) (fun t k => XS.aloadN X37.here hx rfl (Jvm.hb hby d5_13) rfl rfl k) ?_
  obtain ⟨T38, X38, e38, st38⟩ := getF X37 hx hZ hown (host := "") (Or.inl (own_w hw 11 rfl)) Via.refl e37 F_zs_words (g := (mkF m 14 #[.val (.ref zs), .val (.int (0 : Int32)), .val (.int z1)] [(.ref zs), (.int (0 : Int32))])) rfl rfl (Jvm.hb hby d5_14)
  refine own_go (B := T38.setTop (mkF m 17 #[.val (.ref zs), .val (.int (0 : Int32)), .val (.int z1)] [(.ref zw), (.int (0 : Int32))])) (fun t k => st38 _ k) ?_
  refine own_go (B := T38.setTop (mkF m 18 #[.val (.ref zs), .val (.int (0 : Int32)), .val (.int z1)] [(.int z1), (.ref zw), (.int (0 : Int32))])) (fun t k => XS.iloadN X38.here hx rfl (Jvm.hb hby d5_17) rfl k) ?_
  refine own_go (B := T38.setTop (mkF m 19 #[.val (.ref zs), .val (.int (0 : Int32)), .val (.int z1)] [(.long (zf z1.toNatClampNeg)), (.int (0 : Int32))])) (fun t k => own_laload X38 hx hZ e38 V_zw (j := z1) (k := z1.toNatClampNeg) hz1n rfl hz1i (Jvm.hb hby d5_18) t k) ?_
  obtain ⟨_, _, ⟨T39, La39, ka39, na39⟩, -, X39, ⟨Lc39, hQ39, l39, y39, z39⟩, st39⟩ := Jvm.LawKit.callS X38 hx (y := (⟨"java/lang/Long", "bitCount", "(J)I"⟩ : MethodName)) hown (mvT hZ (own_w hw 43 rfl)) (mvT hZ (own_w hw 44 rfl)) (mvT hZ (own_w hw 37 rfl)) (mvT hZ (own_w hw 45 rfl)) (by decide) (backOf (W := 1) (rm9 l Z a0 hw [] (zf z1.toNatClampNeg) h0 n0 Zs) hZ (own_w hw 45 rfl) (own_w hw 37 rfl) (by decide) (by decide)) (g := (mkF m 19 #[.val (.ref zs), .val (.int (0 : Int32)), .val (.int z1)] [(.long (zf z1.toNatClampNeg)), (.int (0 : Int32))])) rfl (by rw [hml]; rfl) (argsL := [(.long (zf z1.toNatClampNeg))]) (rest := [(.int (0 : Int32))]) (lenOf pd_1 rfl) rfl (by show 2 * 0 + _ ≤ _; exact Nat.le_of_eq rfl) (Jvm.hb hby d5_19) (fun _ _ => ⟨rfl, e38, (by decide : 0 + 0 ≤ _), (by decide : 0 + 0 ≤ _)⟩)
  dsimp only [Pt.U, Pt.locs, Pt.cells, Pt.slots] at X39 l39 y39 z39 st39 hQ39
  subst l39 y39 z39
  obtain ⟨rfl, N39q, e39⟩ := hQ39
  have N39 := Fr.app N37 N39q
  refine own_go (B := T39.setTop (mkF m 22 #[.val (.ref zs), .val (.int (0 : Int32)), .val (.int z1)] [(.int (own_bc (zf z1.toNatClampNeg))), (.int (0 : Int32))])) (fun t k => st39 _ k) ?_
  refine own_go (B := T39.setTop (mkF m 23 #[.val (.ref zs), .val (.int (0 : Int32)), .val (.int z1)] [(.int ((0 : Int32) + (own_bc (zf z1.toNatClampNeg))))])) (fun t k => XS.iadd X39.here hx rfl (Jvm.hb hby d5_22) rfl k) ?_
  refine own_go (B := T39.setTop (mkF m 24 #[.val (.ref zs), .val (.int ((0 : Int32) + (own_bc (zf z1.toNatClampNeg)))), .val (.int z1)] [])) (fun t k => XS.istoreN X39.here hx rfl (Jvm.hb hby d5_23) rfl (l' := #[.val (.ref zs), .val (.int ((0 : Int32) + (own_bc (zf z1.toNatClampNeg)))), .val (.int z1)]) rfl k) ?_
  refine own_go (B := T39.setTop (mkF m 25 #[.val (.ref zs), .val (.int ((0 : Int32) + (own_bc (zf z1.toNatClampNeg)))), .val (.int z1)] [(.ref zs)])) (fun t k => XS.aloadN X39.here hx rfl (Jvm.hb hby d5_24) rfl rfl k) ?_
  refine own_go (B := T39.setTop (mkF m 26 #[.val (.ref zs), .val (.int ((0 : Int32) + (own_bc (zf z1.toNatClampNeg)))), .val (.int z1)] [(.int z1), (.ref zs)])) (fun t k => XS.iloadN X39.here hx rfl (Jvm.hb hby d5_25) rfl k) ?_
  refine own_go (B := T39.setTop (mkF m 27 #[.val (.ref zs), .val (.int ((0 : Int32) + (own_bc (zf z1.toNatClampNeg)))), .val (.int z1)] [(.int (1 : Int32)), (.int z1), (.ref zs)])) (fun t k => XS.iconst X39.here hx rfl (Jvm.hb hby d5_26) k) ?_
  refine own_go (B := T39.setTop (mkF m 28 #[.val (.ref zs), .val (.int ((0 : Int32) + (own_bc (zf z1.toNatClampNeg)))), .val (.int z1)] [(.int (z1 + (1 : Int32))), (.ref zs)])) (fun t k => XS.iadd X39.here hx rfl (Jvm.hb hby d5_27) rfl k) ?_
  obtain ⟨cq40, q40, q40'⟩ := E_zs.cell
  obtain ⟨_, _, ⟨T40, La40, ka40, na40⟩, -, X40, ⟨Lc40, hQ40, l40, y40, z40⟩, st40⟩ := X39.privateBack hx (y := (⟨"com/example/netloom/netloom/embed/NodeSet", "nextWord", "(I)I"⟩ : MethodName)) hown (mvT hZ (own_w hw 30 rfl)) (mvT hZ (own_w hw 31 rfl)) (own_selP (y' := (⟨"com/example/netloom/netloom/embed/NodeSet", "add", "(I)V"⟩ : MethodName)) (mvT hZ (own_w hw 18 rfl)) rfl (Cond.privateMethod_at (mvP hZ (own_w hw 32 rfl) (args := #[]))) (mvT hZ (own_w hw 31 rfl)) (by decide)) (Cond.privateMethod_at (mvP hZ (own_w hw 32 rfl) (args := #[]))) (mvT hZ (own_w hw 33 rfl)) (by decide) (backOf (W := 0) (rm6 l Z a0 hw [] zs (z1 + (1 : Int32)) zw zo znw zno zlw zlo zf zg h0 n0 Zs F_zs_words F_zs_occupied V_zw V_zo (own_inc0 z1 hz1n hz1b) hl1 hl2 hno hz2 (own_incb z1 zlw zlo hz1n hz1b hlo)) hZ (own_w hw 33 rfl) (own_w hw 3 rfl) (by decide) (by decide)) (g := (mkF m 28 #[.val (.ref zs), .val (.int ((0 : Int32) + (own_bc (zf z1.toNatClampNeg)))), .val (.int z1)] [(.int (z1 + (1 : Int32))), (.ref zs)])) rfl (by rw [hml]; rfl) (Steps.refl _) (a := zs) (by rw [e39]; exact q40) q40' (argsL := [(.int (z1 + (1 : Int32)))]) (rest := []) (lenOf pd_0 rfl) rfl (by show 2 * 0 + _ ≤ _; exact Nat.le_of_eq rfl) (Jvm.hb hby d5_28) (fun _ _ => ⟨rfl, e39, (by decide : 0 + 0 ≤ _), (by decide : 0 + 0 ≤ _)⟩)
  dsimp only [Pt.U, Pt.locs, Pt.cells, Pt.slots] at X40 l40 y40 z40 st40 hQ40
  subst l40 y40 z40
  obtain ⟨rfl, N40q, e40⟩ := hQ40
  have N40 := Fr.app N39 N40q
  refine own_go (B := T40.setTop (mkF m 31 #[.val (.ref zs), .val (.int ((0 : Int32) + (own_bc (zf z1.toNatClampNeg)))), .val (.int z1)] [(.int (own_nw (z1 + (1 : Int32)) zlw zlo zg))])) (fun t k => own_st st40 k) ?_
  rw [hn2]
  refine own_go (B := T40.setTop (mkF m 32 #[.val (.ref zs), .val (.int ((0 : Int32) + (own_bc (zf z1.toNatClampNeg)))), .val (.int z2)] [])) (fun t k => XS.istoreN X40.here hx rfl (Jvm.hb hby d5_31) rfl (l' := #[.val (.ref zs), .val (.int ((0 : Int32) + (own_bc (zf z1.toNatClampNeg)))), .val (.int z2)]) rfl k) ?_
  refine own_go (B := T40.setTop (mkF m 8 #[.val (.ref zs), .val (.int ((0 : Int32) + (own_bc (zf z1.toNatClampNeg)))), .val (.int z2)] [])) (fun t k => XS.goto X40.here hx rfl (pc0 := 32) (pc' := 8) rfl (Jvm.hb hby d5_32) (by decide) (by decide) k) ?_
  refine own_go (B := T40.setTop (mkF m 9 #[.val (.ref zs), .val (.int ((0 : Int32) + (own_bc (zf z1.toNatClampNeg)))), .val (.int z2)] [(.int z2)])) (fun t k => XS.iloadN X40.here hx rfl (Jvm.hb hby d5_8) rfl k) ?_
  refine own_go (B := T40.setTop (mkF m 12 #[.val (.ref zs), .val (.int ((0 : Int32) + (own_bc (zf z1.toNatClampNeg)))), .val (.int z2)] [])) (fun t k => XS.ifNo X40.here hx rfl (Jvm.hb hby d5_9) rfl ((if0 _ _).trans (flt hz2n).1) k) ?_
  refine own_go (B := T40.setTop (mkF m 13 #[.val (.ref zs), .val (.int ((0 : Int32) + (own_bc (zf z1.toNatClampNeg)))), .val (.int z2)] [(.int ((0 : Int32) + (own_bc (zf z1.toNatClampNeg))))])) (fun t k => XS.iloadN X40.here hx rfl (Jvm.hb hby d5_12) rfl k) ?_
  refine own_go (B := T40.setTop (mkF m 14 #[.val (.ref zs), .val (.int ((0 : Int32) + (own_bc (zf z1.toNatClampNeg)))), .val (.int z2)] [(.ref zs), (.int ((0 : Int32) + (own_bc (zf z1.toNatClampNeg))))])) (fun t k => XS.aloadN X40.here hx rfl (Jvm.hb hby d5_13) rfl rfl k) ?_
  obtain ⟨T41, X41, e41, st41⟩ := getF X40 hx hZ hown (host := "") (Or.inl (own_w hw 11 rfl)) Via.refl e40 F_zs_words (g := (mkF m 14 #[.val (.ref zs), .val (.int ((0 : Int32) + (own_bc (zf z1.toNatClampNeg)))), .val (.int z2)] [(.ref zs), (.int ((0 : Int32) + (own_bc (zf z1.toNatClampNeg))))])) rfl rfl (Jvm.hb hby d5_14)
  refine own_go (B := T41.setTop (mkF m 17 #[.val (.ref zs), .val (.int ((0 : Int32) + (own_bc (zf z1.toNatClampNeg)))), .val (.int z2)] [(.ref zw), (.int ((0 : Int32) + (own_bc (zf z1.toNatClampNeg))))])) (fun t k => st41 _ k) ?_
  refine own_go (B := T41.setTop (mkF m 18 #[.val (.ref zs), .val (.int ((0 : Int32) + (own_bc (zf z1.toNatClampNeg)))), .val (.int z2)] [(.int z2), (.ref zw), (.int ((0 : Int32) + (own_bc (zf z1.toNatClampNeg))))])) (fun t k => XS.iloadN X41.here hx rfl (Jvm.hb hby d5_17) rfl k) ?_
  refine own_go (B := T41.setTop (mkF m 19 #[.val (.ref zs), .val (.int ((0 : Int32) + (own_bc (zf z1.toNatClampNeg)))), .val (.int z2)] [(.long (zf z2.toNatClampNeg)), (.int ((0 : Int32) + (own_bc (zf z1.toNatClampNeg))))])) (fun t k => own_laload X41 hx hZ e41 V_zw (j := z2) (k := z2.toNatClampNeg) hz2n rfl hz2i (Jvm.hb hby d5_18) t k) ?_
  obtain ⟨_, _, ⟨T42, La42, ka42, na42⟩, -, X42, ⟨Lc42, hQ42, l42, y42, z42⟩, st42⟩ := Jvm.LawKit.callS X41 hx (y := (⟨"java/lang/Long", "bitCount", "(J)I"⟩ : MethodName)) hown (mvT hZ (own_w hw 43 rfl)) (mvT hZ (own_w hw 44 rfl)) (mvT hZ (own_w hw 37 rfl)) (mvT hZ (own_w hw 45 rfl)) (by decide) (backOf (W := 1) (rm9 l Z a0 hw [] (zf z2.toNatClampNeg) h0 n0 Zs) hZ (own_w hw 45 rfl) (own_w hw 37 rfl) (by decide) (by decide)) (g := (mkF m 19 #[.val (.ref zs), .val (.int ((0 : Int32) + (own_bc (zf z1.toNatClampNeg)))), .val (.int z2)] [(.long (zf z2.toNatClampNeg)), (.int ((0 : Int32) + (own_bc (zf z1.toNatClampNeg))))])) rfl (by rw [hml]; rfl) (argsL := [(.long (zf z2.toNatClampNeg))]) (rest := [(.int ((0 : Int32) + (own_bc (zf z1.toNatClampNeg))))]) (lenOf pd_1 rfl) rfl (by show 2 * 0 + _ ≤ _; exact Nat.le_of_eq rfl) (Jvm.hb hby d5_19) (fun _ _ => ⟨rfl, e41, (by decide : 0 + 0 ≤ _), (by decide : 0 + 0 ≤ _)⟩)
  dsimp only [Pt.U, Pt.locs, Pt.cells, Pt.slots] at X42 l42 y42 z42 st42 hQ42
  subst l42 y42 z42
  obtain ⟨rfl, N42q, e42⟩ := hQ42
  have N42 := Fr.app N40 N42q
  refine own_go (B := T42.setTop (mkF m 22 #[.val (.ref zs), .val (.int ((0 : Int32) + (own_bc (zf z1.toNatClampNeg)))), .val (.int z2)] [(.int (own_bc (zf z2.toNatClampNeg))), (.int ((0 : Int32) + (own_bc (zf z1.toNatClampNeg))))])) (fun t k => st42 _ k) ?_
  refine own_go (B := T42.setTop (mkF m 23 #[.val (.ref zs), .val (.int ((0 : Int32) + (own_bc (zf z1.toNatClampNeg)))), .val (.int z2)] [(.int (((0 : Int32) + (own_bc (zf z1.toNatClampNeg))) + (own_bc (zf z2.toNatClampNeg))))])) (fun t k => XS.iadd X42.here hx rfl (Jvm.hb hby d5_22) rfl k) ?_
  refine own_go (B := T42.setTop (mkF m 24 #[.val (.ref zs), .val (.int (((0 : Int32) + (own_bc (zf z1.toNatClampNeg))) + (own_bc (zf z2.toNatClampNeg)))), .val (.int z2)] [])) (fun t k => XS.istoreN X42.here hx rfl (Jvm.hb hby d5_23) rfl (l' := #[.val (.ref zs), .val (.int (((0 : Int32) + (own_bc (zf z1.toNatClampNeg))) + (own_bc (zf z2.toNatClampNeg)))), .val (.int z2)]) rfl k) ?_
  refine own_go (B := T42.setTop (mkF m 25 #[.val (.ref zs), .val (.int (((0 : Int32) + (own_bc (zf z1.toNatClampNeg))) + (own_bc (zf z2.toNatClampNeg)))), .val (.int z2)] [(.ref zs)])) (fun t k => XS.aloadN X42.here hx rfl (Jvm.hb hby d5_24) rfl rfl k) ?_
  refine own_go (B := T42.setTop (mkF m 26 #[.val (.ref zs), .val (.int (((0 : Int32) + (own_bc (zf z1.toNatClampNeg))) + (own_bc (zf z2.toNatClampNeg)))), .val (.int z2)] [(.int z2), (.ref zs)])) (fun t k => XS.iloadN X42.here hx rfl (Jvm.hb hby d5_25) rfl k) ?_
  refine own_go (B := T42.setTop (mkF m 27 #[.val (.ref zs), .val (.int (((0 : Int32) + (own_bc (zf z1.toNatClampNeg))) + (own_bc (zf z2.toNatClampNeg)))), .val (.int z2)] [(.int (1 : Int32)), (.int z2), (.ref zs)])) (fun t k => XS.iconst X42.here hx rfl (Jvm.hb hby d5_26) k) ?_
  refine own_go (B := T42.setTop (mkF m 28 #[.val (.ref zs), .val (.int (((0 : Int32) + (own_bc (zf z1.toNatClampNeg))) + (own_bc (zf z2.toNatClampNeg)))), .val (.int z2)] [(.int (z2 + (1 : Int32))), (.ref zs)])) (fun t k => XS.iadd X42.here hx rfl (Jvm.hb hby d5_27) rfl k) ?_
  obtain ⟨cq43, q43, q43'⟩ := E_zs.cell
  obtain ⟨_, _, ⟨T43, La43, ka43, na43⟩, -, X43, ⟨Lc43, hQ43, l43, y43, z43⟩, st43⟩ := X42.privateBack hx (y := (⟨"com/example/netloom/netloom/embed/NodeSet", "nextWord", "(I)I"⟩ : MethodName)) hown (mvT hZ (own_w hw 30 rfl)) (mvT hZ (own_w hw 31 rfl)) (own_selP (y' := (⟨"com/example/netloom/netloom/embed/NodeSet", "add", "(I)V"⟩ : MethodName)) (mvT hZ (own_w hw 18 rfl)) rfl (Cond.privateMethod_at (mvP hZ (own_w hw 32 rfl) (args := #[]))) (mvT hZ (own_w hw 31 rfl)) (by decide)) (Cond.privateMethod_at (mvP hZ (own_w hw 32 rfl) (args := #[]))) (mvT hZ (own_w hw 33 rfl)) (by decide) (backOf (W := 0) (rm6 l Z a0 hw [] zs (z2 + (1 : Int32)) zw zo znw zno zlw zlo zf zg h0 n0 Zs F_zs_words F_zs_occupied V_zw V_zo (own_inc0 z2 hz2n hz2b) hl1 hl2 hno hz2 (own_incb z2 zlw zlo hz2n hz2b hlo)) hZ (own_w hw 33 rfl) (own_w hw 3 rfl) (by decide) (by decide)) (g := (mkF m 28 #[.val (.ref zs), .val (.int (((0 : Int32) + (own_bc (zf z1.toNatClampNeg))) + (own_bc (zf z2.toNatClampNeg)))), .val (.int z2)] [(.int (z2 + (1 : Int32))), (.ref zs)])) rfl (by rw [hml]; rfl) (Steps.refl _) (a := zs) (by rw [e42]; exact q43) q43' (argsL := [(.int (z2 + (1 : Int32)))]) (rest := []) (lenOf pd_0 rfl) rfl (by show 2 * 0 + _ ≤ _; exact Nat.le_of_eq rfl) (Jvm.hb hby d5_28) (fun _ _ => ⟨rfl, e42, (by decide : 0 + 0 ≤ _), (by decide : 0 + 0 ≤ _)⟩)
  dsimp only [Pt.U, Pt.locs, Pt.cells, Pt.slots] at X43 l43 y43 z43 st43 hQ43
  subst l43 y43 z43
  obtain ⟨rfl, N43q, e43⟩ := hQ43
  have N43 := Fr.app N42 N43q
  refine own_go (B := T43.setTop (mkF m 31 #[.val (.ref zs), .val (.int (((0 : Int32) + (own_bc (zf z1.toNatClampNeg))) + (own_bc (zf z2.toNatClampNeg)))), .val (.int z2)] [(.int (own_nw (z2 + (1 : Int32)) zlw zlo zg))])) (fun t k => own_st st43 k) ?_
  rw [hn3]
  refine own_go (B := T43.setTop (mkF m 32 #[.val (.ref zs), .val (.int (((0 : Int32) + (own_bc (zf z1.toNatClampNeg))) + (own_bc (zf z2.toNatClampNeg)))), .val (.int (-1 : Int32))] [])) (fun t k => XS.istoreN X43.here hx rfl (Jvm.hb hby d5_31) rfl (l' := #[.val (.ref zs), .val (.int (((0 : Int32) + (own_bc (zf z1.toNatClampNeg))) + (own_bc (zf z2.toNatClampNeg)))), .val (.int (-1 : Int32))]) rfl k) ?_
  refine own_go (B := T43.setTop (mkF m 8 #[.val (.ref zs), .val (.int (((0 : Int32) + (own_bc (zf z1.toNatClampNeg))) + (own_bc (zf z2.toNatClampNeg)))), .val (.int (-1 : Int32))] [])) (fun t k => XS.goto X43.here hx rfl (pc0 := 32) (pc' := 8) rfl (Jvm.hb hby d5_32) (by decide) (by decide) k) ?_
  refine own_go (B := T43.setTop (mkF m 9 #[.val (.ref zs), .val (.int (((0 : Int32) + (own_bc (zf z1.toNatClampNeg))) + (own_bc (zf z2.toNatClampNeg)))), .val (.int (-1 : Int32))] [(.int (-1 : Int32))])) (fun t k => XS.iloadN X43.here hx rfl (Jvm.hb hby d5_8) rfl k) ?_
  refine own_go (B := T43.setTop (mkF m 35 #[.val (.ref zs), .val (.int (((0 : Int32) + (own_bc (zf z1.toNatClampNeg))) + (own_bc (zf z2.toNatClampNeg)))), .val (.int (-1 : Int32))] [])) (fun t k => XS.ifYes X43.here hx rfl (pc0 := 9) (pc' := 35) rfl (Jvm.hb hby d5_9) rfl ((if0 _ _).trans (tlt (by decide : (-1 : Int32) < (0 : Int32))).1) (by decide) (by decide) k) ?_
  refine own_go (B := T43.setTop (mkF m 36 #[.val (.ref zs), .val (.int (((0 : Int32) + (own_bc (zf z1.toNatClampNeg))) + (own_bc (zf z2.toNatClampNeg)))), .val (.int (-1 : Int32))] [(.int (((0 : Int32) + (own_bc (zf z1.toNatClampNeg))) + (own_bc (zf z2.toNatClampNeg))))])) (fun t k => XS.iloadN X43.here hx rfl (Jvm.hb hby d5_35) rfl k) ?_
  refine own_out X43 (v := (some (.int (((0 : Int32) + (own_bc (zf z1.toNatClampNeg))) + (own_bc (zf z2.toNatClampNeg)))))) (fun h => by rw [Bd.returns] at h; cases h) Bd.notSynchronized (fun fs hr => retOut X43 hx (t := .int) Bd.returns rfl (Or.inl ⟨rfl, Or.inl rfl, _, rfl⟩) (Jvm.hb hby d5_36) hr) ?_ (by decide) (by decide)
  show own_Q5_size2 Z zs zw zo znw zno zlw zlo zf zg z1 z2 h0 n0 (some (.int (((0 : Int32) + (own_bc (zf z1.toNatClampNeg))) + (own_bc (zf z2.toNatClampNeg))))) T43.heap _
  rw [e43]
  exact ⟨rfl, N43, rfl⟩
theorem d14_0 : decode prog_34_method_13_code 0 = .ok (.aload_n 0, 1) := by decide +kernel
theorem d14_1 : decode prog_34_method_13_code 1 = .ok (.getfield 7, 3) := by decide +kernel
theorem d14_4 : decode prog_34_method_13_code 4 = .ok (.iload_n 1, 1) := by decide +kernel
theorem d14_5 : decode prog_34_method_13_code 5 = .ok (.dup2, 1) := by decide +kernel
theorem d14_6 : decode prog_34_method_13_code 6 = .ok (.laload, 1) := by decide +kernel
theorem d14_7 : decode prog_34_method_13_code 7 = .ok (.lload_n 2, 1) := by decide +kernel
theorem d14_8 : decode prog_34_method_13_code 8 = .ok (.ldc2_w 56, 3) := by decide +kernel
theorem d14_11 : decode prog_34_method_13_code 11 = .ok (.lxor, 1) := by decide +kernel
theorem d14_12 : decode prog_34_method_13_code 12 = .ok (.land, 1) := by decide +kernel
theorem d14_13 : decode prog_34_method_13_code 13 = .ok (.lastore, 1) := by decide +kernel
theorem d14_14 : decode prog_34_method_13_code 14 = .ok (.aload_n 0, 1) := by decide +kernel
theorem d14_15 : decode prog_34_method_13_code 15 = .ok (.getfield 7, 3) := by decide +kernel
theorem d14_18 : decode prog_34_method_13_code 18 = .ok (.iload_n 1, 1) := by decide +kernel
theorem d14_19 : decode prog_34_method_13_code 19 = .ok (.laload, 1) := by decide +kernel
theorem d14_20 : decode prog_34_method_13_code 20 = .ok (.lconst 0, 1) := by decide +kernel
theorem d14_21 : decode prog_34_method_13_code 21 = .ok (.lcmp, 1) := by decide +kernel
theorem d14_22 : decode prog_34_method_13_code 22 = .ok (.ifCond .ne 22, 3) := by decide +kernel
theorem d14_25 : decode prog_34_method_13_code 25 = .ok (.aload_n 0, 1) := by decide +kernel
theorem d14_26 : decode prog_34_method_13_code 26 = .ok (.getfield 13, 3) := by decide +kernel
theorem d14_29 : decode prog_34_method_13_code 29 = .ok (.iload_n 1, 1) := by decide +kernel
theorem d14_30 : decode prog_34_method_13_code 30 = .ok (.bipush 64, 2) := by decide +kernel
theorem d14_32 : decode prog_34_method_13_code 32 = .ok (.idiv, 1) := by decide +kernel
theorem d14_33 : decode prog_34_method_13_code 33 = .ok (.dup2, 1) := by decide +kernel
theorem d14_34 : decode prog_34_method_13_code 34 = .ok (.laload, 1) := by decide +kernel
theorem d14_35 : decode prog_34_method_13_code 35 = .ok (.lconst 1, 1) := by decide +kernel
theorem d14_36 : decode prog_34_method_13_code 36 = .ok (.iload_n 1, 1) := by decide +kernel
theorem d14_37 : decode prog_34_method_13_code 37 = .ok (.lshl, 1) := by decide +kernel
theorem d14_38 : decode prog_34_method_13_code 38 = .ok (.ldc2_w 56, 3) := by decide +kernel
theorem d14_41 : decode prog_34_method_13_code 41 = .ok (.lxor, 1) := by decide +kernel
theorem d14_42 : decode prog_34_method_13_code 42 = .ok (.land, 1) := by decide +kernel
theorem d14_43 : decode prog_34_method_13_code 43 = .ok (.lastore, 1) := by decide +kernel
theorem d14_44 : decode prog_34_method_13_code 44 = .ok (.return_, 1) := by decide +kernel
theorem ef_14 (m : MethodId) (x0 : Addr) (x1 : Int32) (x2 : Int64) : entryFrame m #[(.ref x0), (.int x1), (.long x2)] 4 = mkF m 0 #[.val (.ref x0), .val (.int x1), .val (.long x2), .second] [] := by first | (simp [entryFrame, mkF, argsToLocals, Value.category]; done) | rfl
def own_Q14 (Z : State) (zs : Addr) (zi : Int32) (zb : Int64) (zw : Addr) (zo : Addr) (znw : Nat) (zno : Nat) (zf : Nat → Int64) (zg : Nat → Int64) (h0 : Heap) (n0 : Nat) (v : Option Value) (h : Heap) (L : List Loc) : Prop := v = none ∧ Fr n0 L ∧ Keep h0 h [zw, zo] ∧ own_LA Z h zw znw (own_upd zf zi.toNatClampNeg (zf zi.toNatClampNeg &&& (zb ^^^ (-1 : Int64)))) ∧ own_LA Z h zo zno (if (own_upd zf zi.toNatClampNeg (zf zi.toNatClampNeg &&& (zb ^^^ (-1 : Int64)))) zi.toNatClampNeg = (0 : Int64) then own_upd zg (own_ix zi) (zg (own_ix zi) &&& (own_bt zi ^^^ (-1 : Int64))) else zg)
set_option maxRecDepth 65536 in
set_option maxHeartbeats 40000000 in
theorem rm14 (l : Launch) (Z : State) (a0 : Array Value) (hw : ∀ d ∈ tables_1, d.before a0 Z = true) (ws : List Jvm.Cond) (zs : Addr) (zi : Int32) (zb : Int64) (zw : Addr) (zo : Addr) (znw : Nat) (zno : Nat) (zf : Nat → Int64) (zg : Nat → Int64) (h0 : Heap) (n0 : Nat) (Z0 : n0 ≤ h0.size) (E_zs : Exa Z h0 zs "com/example/netloom/netloom/embed/NodeSet") (F_zs_words : Fld Z h0 zs "com/example/netloom/netloom/embed/NodeSet" "words" "[J" (.ref zw)) (F_zs_occupied : Fld Z h0 zs "com/example/netloom/netloom/embed/NodeSet" "occupied" "[J" (.ref zo)) (V_zw : own_LA Z h0 zw znw zf) (V_zo : own_LA Z h0 zo zno zg) (g_zw : n0 ≤ zw) (g_zo : n0 ≤ zo) (ne_zs_zw : zs ≠ zw) (ne_zs_zo : zs ≠ zo) (ne_zw_zo : zw ≠ zo) (hi0 : ¬ (zi < (0 : Int32))) (hi1 : zi.toNatClampNeg < znw) (hi2 : own_ix zi < zno) :
    MetFree l (⟨"com/example/netloom/netloom/embed/NodeSet", "drop", "(IJ)V"⟩ : MethodName) (head1 (Jvm.Cond.code (⟨"com/example/netloom/netloom/embed/NodeSet", "drop", "(IJ)V"⟩ : MethodName) prog_34_method_13_code 4 none :: ws) ({ frames := 0, cells := 0, slots := 0, locals := 0 } : Room)) (fun a U => a = #[(.ref zs), (.int zi), (.long zb)] ∧ Z.Warmed39 U.vm ∧ U.heap = h0) (fun _ _ _ _ _ => True) (fun _ U o U' => ∃ v L, o = .returned v ∧ own_Q14 Z zs zi zb zw zo znw zno zf zg h0 n0 v U'.heap L ∧ FrameEnd U o U' L ({ frames := 0, cells := 0, slots := 0, locals := 0 } : Room).cells ({ frames := 0, cells := 0, slots := 0, locals := 0 } : Room).slots) := by
  refine MetFree.of_bodySF (plainFor_of_name pn_com_example_netloom_netloom_embed_NodeSet) hisR ?_
  intro p e s m args below meth c s₁ Bd hml0 hP hK
  obtain ⟨rfl, hZ, hh⟩ := hP
  have hx := Bd.exec
  have hby := Bd.bytes
  have hml : c.maxLocals = 4 := hml0
  have hown : s.vm.findClass "com/example/netloom/netloom/embed/NodeSet" = some m.cls := findClass_of_methodNamed Bd.named
  have hnm := (name_of_methodNamed Bd.named Bd.method).1
  have X0 : Stand p l e ({ frames := 0, cells := 0, slots := 0, locals := 0 } : Room) s m #[(.ref zs), (.int zi), (.long zb)] below meth c s₁ [] 0 0 := Stand.of_body Bd
  have e0 : s₁.heap = h0 := by rw [← hh, Bd.state]; rfl
  have N0 := Fr.nil n0
  have Zs := Z0
  have K : Keep h0 h0 [zw, zo] := Keep.refl _ _
  show own_Goes p e below s (own_Q14 Z zs zi zb zw zo znw zno zf zg h0 n0) ({ frames := 0, cells := 0, slots := 0, locals := 0 } : Room).cells ({ frames := 0, cells := 0, slots := 0, locals := 0 } : Room).slots _
  refine own_go (B := s₁.setTop (mkF m 0 #[.val (.ref zs), .val (.int zi), .val (.long zb), .second] [])) (fun t k => castTop (ef_14 m zs zi zb) k) ?_
  refine own_go (B := s₁.setTop (mkF m 1 #[.val (.ref zs), .val (.int zi), .val (.long zb), .second] [(.ref zs)])) (fun t k => XS.aloadN X0.here hx rfl (Jvm.hb hby d14_0) rfl rfl k) ?_
  obtain ⟨T44, X44, e44, st44⟩ := getF X0 hx hZ hown (host := "") (Or.inl (own_w hw 11 rfl)) Via.refl e0 F_zs_words (g := (mkF m 1 #[.val (.ref zs), .val (.int zi), .val (.long zb), .second] [(.ref zs)])) rfl rfl (Jvm.hb hby d14_1)
  refine own_go (B := T44.setTop (mkF m 4 #[.val (.ref zs), .val (.int zi), .val (.long zb), .second] [(.ref zw)])) (fun t k => st44 _ k) ?_
  refine own_go (B := T44.setTop (mkF m 5 #[.val (.ref zs), .val (.int zi), .val (.long zb), .second] [(.int zi), (.ref zw)])) (fun t k => XS.iloadN X44.here hx rfl (Jvm.hb hby d14_4) rfl k) ?_
  refine own_go (B := T44.setTop (mkF m 6 #[.val (.ref zs), .val (.int zi), .val (.long zb), .second] [(.int zi), (.ref zw), (.int zi), (.ref zw)])) (fun t k => XT.dup2 X44.here hx rfl (Jvm.hb hby d14_5) rfl rfl rfl k) ?_
  refine own_go (B := T44.setTop (mkF m 7 #[.val (.ref zs), .val (.int zi), .val (.long zb), .second] [(.long (zf zi.toNatClampNeg)), (.int zi), (.ref zw)])) (fun t k => own_laload X44 hx hZ e44 V_zw (j := zi) (k := zi.toNatClampNeg) hi0 rfl hi1 (Jvm.hb hby d14_6) t k) ?_
  refine own_go (B := T44.setTop (mkF m 8 #[.val (.ref zs), .val (.int zi), .val (.long zb), .second] [(.long zb), (.long (zf zi.toNatClampNeg)), (.int zi), (.ref zw)])) (fun t k => XS.lloadN X44.here hx rfl (Jvm.hb hby d14_7) rfl k) ?_
  refine own_go (B := T44.setTop (mkF m 11 #[.val (.ref zs), .val (.int zi), .val (.long zb), .second] [(.long (-1 : Int64)), (.long zb), (.long (zf zi.toNatClampNeg)), (.int zi), (.ref zw)])) (fun t k => X44.ldc2Long hx hown (mvT hZ (own_w hw 34 rfl)) (g := (mkF m 8 #[.val (.ref zs), .val (.int zi), .val (.long zb), .second] [(.long zb), (.long (zf zi.toNatClampNeg)), (.int zi), (.ref zw)])) rfl (Jvm.hb hby d14_8) _ k) ?_
  refine own_go (B := T44.setTop (mkF m 12 #[.val (.ref zs), .val (.int zi), .val (.long zb), .second] [(.long (zb ^^^ (-1 : Int64))), (.long (zf zi.toNatClampNeg)), (.int zi), (.ref zw)])) (fun t k => XS.lxor X44.here hx rfl (Jvm.hb hby d14_11) rfl k) ?_
  refine own_go (B := T44.setTop (mkF m 13 #[.val (.ref zs), .val (.int zi), .val (.long zb), .second] [(.long ((zf zi.toNatClampNeg) &&& (zb ^^^ (-1 : Int64)))), (.int zi), (.ref zw)])) (fun t k => XS.land X44.here hx rfl (Jvm.hb hby d14_12) rfl k) ?_
  obtain ⟨T45, h45, X45, e45, W45, V45, st45⟩ := own_lastore X44 hx hZ e44 V_zw (j := zi) (k := zi.toNatClampNeg) hi0 rfl hi1 (g := (mkF m 13 #[.val (.ref zs), .val (.int zi), .val (.long zb), .second] [(.long ((zf zi.toNatClampNeg) &&& (zb ^^^ (-1 : Int64)))), (.int zi), (.ref zw)])) rfl rfl (Jvm.hb hby d14_13)
  have N45 := Fr.snoc X45 N0 g_zw
  have E_zs := E_zs.wr W45
  have F_zs_words := F_zs_words.other W45 (Or.inl ne_zs_zw)
  have F_zs_occupied := F_zs_occupied.other W45 (Or.inl ne_zs_zw)
  have V_zo := V_zo.other W45 (Ne.symm ne_zw_zo)
  have K := K.wr W45 (Or.inl (List.mem_of_getElem? (i := 0) rfl))
  have Zs := Nat.le_trans Zs (Keep.of_wr W45).1
  have V_zw := V45
  refine own_go (B := T45.setTop (mkF m 14 #[.val (.ref zs), .val (.int zi), .val (.long zb), .second] [])) (fun t k => st45 _ k) ?_
  refine own_go (B := T45.setTop (mkF m 15 #[.val (.ref zs), .val (.int zi), .val (.long zb), .second] [(.ref zs)])) (fun t k => XS.aloadN X45.here hx rfl (Jvm.hb hby d14_14) rfl rfl k) ?_
  obtain ⟨T46, X46, e46, st46⟩ := getF X45 hx hZ hown (host := "") (Or.inl (own_w hw 11 rfl)) Via.refl e45 F_zs_words (g := (mkF m 15 #[.val (.ref zs), .val (.int zi), .val (.long zb), .second] [(.ref zs)])) rfl rfl (Jvm.hb hby d14_15)
  refine own_go (B := T46.setTop (mkF m 18 #[.val (.ref zs), .val (.int zi), .val (.long zb), .second] [(.ref zw)])) (fun t k => st46 _ k) ?_
  refine own_go (B := T46.setTop (mkF m 19 #[.val (.ref zs), .val (.int zi), .val (.long zb), .second] [(.int zi), (.ref zw)])) (fun t k => XS.iloadN X46.here hx rfl (Jvm.hb hby d14_18) rfl k) ?_
  refine own_go (B := T46.setTop (mkF m 20 #[.val (.ref zs), .val (.int zi), .val (.long zb), .second] [(.long ((own_upd zf zi.toNatClampNeg ((zf zi.toNatClampNeg) &&& (zb ^^^ (-1 : Int64)))) zi.toNatClampNeg))])) (fun t k => own_laload X46 hx hZ e46 V_zw (j := zi) (k := zi.toNatClampNeg) hi0 rfl hi1 (Jvm.hb hby d14_19) t k) ?_
  refine own_go (B := T46.setTop (mkF m 21 #[.val (.ref zs), .val (.int zi), .val (.long zb), .second] [(.long (0 : Int64)), (.long ((own_upd zf zi.toNatClampNeg ((zf zi.toNatClampNeg) &&& (zb ^^^ (-1 : Int64)))) zi.toNatClampNeg))])) (fun t k => XS.lconst X46.here hx rfl (Jvm.hb hby d14_20) k) ?_
  refine own_go (B := T46.setTop (mkF m 22 #[.val (.ref zs), .val (.int zi), .val (.long zb), .second] [(.int (lcmpW ((own_upd zf zi.toNatClampNeg ((zf zi.toNatClampNeg) &&& (zb ^^^ (-1 : Int64)))) zi.toNatClampNeg) (0 : Int64)))])) (fun t k => XS.lcmp X46.here hx rfl (Jvm.hb hby d14_21) rfl k) ?_
  by_cases hc22_47 : ((own_upd zf zi.toNatClampNeg ((zf zi.toNatClampNeg) &&& (zb ^^^ (-1 : Int64)))) zi.toNatClampNeg) = (0 : Int64)
  · refine own_go (B := T46.setTop (mkF m 25 #[.val (.ref zs), .val (.int zi), .val (.long zb), .second] [])) (fun t k => XS.ifNo X46.here hx rfl (Jvm.hb hby d14_22) rfl ((if0 _ _).trans (teq ((lw_eq ((own_upd zf zi.toNatClampNeg ((zf zi.toNatClampNeg) &&& (zb ^^^ (-1 : Int64)))) zi.toNatClampNeg) (0 : Int64)).mpr hc22_47)).2) k) ?_
    refine own_go (B := T46.setTop (mkF m 26 #[.val (.ref zs), .val (.int zi), .val (.long zb), .second] [(.ref zs)])) (fun t k => XS.aloadN X46.here hx rfl (Jvm.hb hby d14_25) rfl rfl k) ?_
    obtain ⟨T48, X48, e48, st48⟩ := getF X46 hx hZ hown (host := "") (Or.inl (own_w hw 13 rfl)) Via.refl e46 F_zs_occupied (g := (mkF m 26 #[.val (.ref zs), .val (.int zi), .val (.long zb), .second] [(.ref zs)])) rfl rfl (Jvm.hb hby d14_26)
    refine own_go (B := T48.setTop (mkF m 29 #[.val (.ref zs), .val (.int zi), .val (.long zb), .second] [(.ref zo)])) (fun t k => st48 _ k) ?_
    refine own_go (B := T48.setTop (mkF m 30 #[.val (.ref zs), .val (.int zi), .val (.long zb), .second] [(.int zi), (.ref zo)])) (fun t k => XS.iloadN X48.here hx rfl (Jvm.hb hby d14_29) rfl k) ?_
    refine own_go (B := T48.setTop (mkF m 32 #[.val (.ref zs), .val (.int zi), .val (.long zb), .second] [(.int (64 : Int32)), (.int zi), (.ref zo)])) (fun t k => XS.bipush X48.here hx rfl (Jvm.hb hby d14_30) k) ?_
    refine own_go (B := T48.setTop (mkF m 33 #[.val (.ref zs), .val (.int zi), .val (.long zb), .second] [(.int (zi / (64 : Int32))), (.ref zo)])) (fun t k => XS.idiv X48.here hx rfl (Jvm.hb hby d14_32) rfl (by decide) k) ?_
    refine own_go (B := T48.setTop (mkF m 34 #[.val (.ref zs), .val (.int zi), .val (.long zb), .second] [(.int (zi / (64 : Int32))), (.ref zo), (.int (zi / (64 : Int32))), (.ref zo)])) (fun t k => XT.dup2 X48.here hx rfl (Jvm.hb hby d14_33) rfl rfl rfl k) ?_
    refine own_go (B := T48.setTop (mkF m 35 #[.val (.ref zs), .val (.int zi), .val (.long zb), .second] [(.long (zg (own_ix zi))), (.int (zi / (64 : Int32))), (.ref zo)])) (fun t k => own_laload X48 hx hZ e48 V_zo (j := (zi / (64 : Int32))) (k := (own_ix zi)) (by rw [own_nn] at *; have := own_d64 zi hi0; omega) rfl hi2 (Jvm.hb hby d14_34) t k) ?_
    refine own_go (B := T48.setTop (mkF m 36 #[.val (.ref zs), .val (.int zi), .val (.long zb), .second] [(.long (1 : Int64)), (.long (zg (own_ix zi))), (.int (zi / (64 : Int32))), (.ref zo)])) (fun t k => XS.lconst X48.here hx rfl (Jvm.hb hby d14_35) k) ?_
    refine own_go (B := T48.setTop (mkF m 37 #[.val (.ref zs), .val (.int zi), .val (.long zb), .second] [(.int zi), (.long (1 : Int64)), (.long (zg (own_ix zi))), (.int (zi / (64 : Int32))), (.ref zo)])) (fun t k => XS.iloadN X48.here hx rfl (Jvm.hb hby d14_36) rfl k) ?_
    refine own_go (B := T48.setTop (mkF m 38 #[.val (.ref zs), .val (.int zi), .val (.long zb), .second] [(.long ((1 : Int64) <<< (zi &&& 0x3f).toInt64)), (.long (zg (own_ix zi))), (.int (zi / (64 : Int32))), (.ref zo)])) (fun t k => XS.lshl X48.here hx rfl (Jvm.hb hby d14_37) rfl k) ?_
    refine own_go (B := T48.setTop (mkF m 41 #[.val (.ref zs), .val (.int zi), .val (.long zb), .second] [(.long (-1 : Int64)), (.long ((1 : Int64) <<< (zi &&& 0x3f).toInt64)), (.long (zg (own_ix zi))), (.int (zi / (64 : Int32))), (.ref zo)])) (fun t k => X48.ldc2Long hx hown (mvT hZ (own_w hw 34 rfl)) (g := (mkF m 38 #[.val (.ref zs), .val (.int zi), .val (.long zb), .second] [(.long ((1 : Int64) <<< (zi &&& 0x3f).toInt64)), (.long (zg (own_ix zi))), (.int (zi / (64 : Int32))), (.ref zo)])) rfl (Jvm.hb hby d14_38) _ k) ?_
    refine own_go (B := T48.setTop (mkF m 42 #[.val (.ref zs), .val (.int zi), .val (.long zb), .second] [(.long (((1 : Int64) <<< (zi &&& 0x3f).toInt64) ^^^ (-1 : Int64))), (.long (zg (own_ix zi))), (.int (zi / (64 : Int32))), (.ref zo)])) (fun t k => XS.lxor X48.here hx rfl (Jvm.hb hby d14_41) rfl k) ?_
    refine own_go (B := T48.setTop (mkF m 43 #[.val (.ref zs), .val (.int zi), .val (.long zb), .second] [(.long ((zg (own_ix zi)) &&& (((1 : Int64) <<< (zi &&& 0x3f).toInt64) ^^^ (-1 : Int64)))), (.int (zi / (64 : Int32))), (.ref zo)])) (fun t k => XS.land X48.here hx rfl (Jvm.hb hby d14_42) rfl k) ?_
    obtain ⟨T49, h49, X49, e49, W49, V49, st49⟩ := own_lastore X48 hx hZ e48 V_zo (j := (zi / (64 : Int32))) (k := (own_ix zi)) (by rw [own_nn] at *; have := own_d64 zi hi0; omega) rfl hi2 (g := (mkF m 43 #[.val (.ref zs), .val (.int zi), .val (.long zb), .second] [(.long ((zg (own_ix zi)) &&& (((1 : Int64) <<< (zi &&& 0x3f).toInt64) ^^^ (-1 : Int64)))), (.int (zi / (64 : Int32))), (.ref zo)])) rfl rfl (Jvm.hb hby d14_43)
    have N49 := Fr.snoc X49 N45 g_zo
    have E_zs := E_zs.wr W49
    have F_zs_words := F_zs_words.other W49 (Or.inl ne_zs_zo)
    have F_zs_occupied := F_zs_occupied.other W49 (Or.inl ne_zs_zo)
    have V_zw := V_zw.other W49 ne_zw_zo
    have K := K.wr W49 (Or.inl (List.mem_of_getElem? (i := 1) rfl))
    have Zs := Nat.le_trans Zs (Keep.of_wr W49).1
    have V_zo := V49
    refine own_go (B := T49.setTop (mkF m 44 #[.val (.ref zs), .val (.int zi), .val (.long zb), .second] [])) (fun t k => st49 _ k) ?_
    refine own_out X49 (v := none) (fun _ => rfl) Bd.notSynchronized (fun fs hr => X49.returnOut hx Bd.returns (Jvm.hb hby d14_44) hr) ?_ (by decide) (by decide)
    show own_Q14 Z zs zi zb zw zo znw zno zf zg h0 n0 none T49.heap _
    rw [e49]
    exact ⟨rfl, N49, K, V_zw, (by rw [if_pos hc22_47]; exact V_zo)⟩
  · refine own_go (B := T46.setTop (mkF m 44 #[.val (.ref zs), .val (.int zi), .val (.long zb), .second] [])) (fun t k => XS.ifYes X46.here hx rfl (pc0 := 22) (pc' := 44) rfl (Jvm.hb hby d14_22) rfl ((if0 _ _).trans (feq (mt (lw_eq ((own_upd zf zi.toNatClampNeg ((zf zi.toNatClampNeg) &&& (zb ^^^ (-1 : Int64)))) zi.toNatClampNeg) (0 : Int64)).mp hc22_47)).2) (by decide) (by decide) k) ?_
    refine own_out X46 (v := none) (fun _ => rfl) Bd.notSynchronized (fun fs hr => X46.returnOut hx Bd.returns (Jvm.hb hby d14_44) hr) ?_ (by decide) (by decide)
    show own_Q14 Z zs zi zb zw zo znw zno zf zg h0 n0 none T46.heap _
    rw [e46]
    exact ⟨rfl, N45, K, V_zw, (by rw [if_neg hc22_47]; exact V_zo)⟩
theorem d12_0 : decode prog_34_method_11_code 0 = .ok (.iload_n 1, 1) := by decide +kernel
theorem d12_1 : decode prog_34_method_11_code 1 = .ok (.istore_n 2, 1) := by decide +kernel
theorem d12_2 : decode prog_34_method_11_code 2 = .ok (.aload_n 0, 1) := by decide +kernel
theorem d12_3 : decode prog_34_method_11_code 3 = .ok (.iconst 0, 1) := by decide +kernel
theorem d12_4 : decode prog_34_method_11_code 4 = .ok (.invokevirtual 26, 3) := by decide +kernel
theorem d12_7 : decode prog_34_method_11_code 7 = .ok (.istore_n 3, 1) := by decide +kernel
theorem d12_8 : decode prog_34_method_11_code 8 = .ok (.iload_n 3, 1) := by decide +kernel
theorem d12_9 : decode prog_34_method_11_code 9 = .ok (.ifCond .lt 91, 3) := by decide +kernel
theorem d12_12 : decode prog_34_method_11_code 12 = .ok (.aload_n 0, 1) := by decide +kernel
theorem d12_13 : decode prog_34_method_11_code 13 = .ok (.getfield 7, 3) := by decide +kernel
theorem d12_16 : decode prog_34_method_11_code 16 = .ok (.iload_n 3, 1) := by decide +kernel
theorem d12_17 : decode prog_34_method_11_code 17 = .ok (.laload, 1) := by decide +kernel
theorem d12_18 : decode prog_34_method_11_code 18 = .ok (.lstore 4, 2) := by decide +kernel
theorem d12_20 : decode prog_34_method_11_code 20 = .ok (.iload_n 2, 1) := by decide +kernel
theorem d12_21 : decode prog_34_method_11_code 21 = .ok (.ifCond .le 43, 3) := by decide +kernel
theorem d12_64 : decode prog_34_method_11_code 64 = .ok (.lload 4, 2) := by decide +kernel
theorem d12_66 : decode prog_34_method_11_code 66 = .ok (.invokestatic 61, 3) := by decide +kernel
theorem d12_69 : decode prog_34_method_11_code 69 = .ok (.lstore 6, 2) := by decide +kernel
theorem d12_71 : decode prog_34_method_11_code 71 = .ok (.aload_n 0, 1) := by decide +kernel
theorem d12_72 : decode prog_34_method_11_code 72 = .ok (.iload_n 3, 1) := by decide +kernel
theorem d12_73 : decode prog_34_method_11_code 73 = .ok (.lload 6, 2) := by decide +kernel
theorem d12_75 : decode prog_34_method_11_code 75 = .ok (.invokevirtual 16, 3) := by decide +kernel
theorem d12_78 : decode prog_34_method_11_code 78 = .ok (.bipush 64, 2) := by decide +kernel
theorem d12_80 : decode prog_34_method_11_code 80 = .ok (.iload_n 3, 1) := by decide +kernel
theorem d12_81 : decode prog_34_method_11_code 81 = .ok (.imul, 1) := by decide +kernel
theorem d12_82 : decode prog_34_method_11_code 82 = .ok (.lload 6, 2) := by decide +kernel
theorem d12_84 : decode prog_34_method_11_code 84 = .ok (.invokestatic 20, 3) := by decide +kernel
theorem d12_87 : decode prog_34_method_11_code 87 = .ok (.iadd, 1) := by decide +kernel
theorem d12_88 : decode prog_34_method_11_code 88 = .ok (.ireturn, 1) := by decide +kernel
theorem pd_2 : parseMethodDescriptor "(J)J" = some ⟨[.long], some .long⟩ := by decide +kernel
theorem pd_3 : parseMethodDescriptor "(IJ)V" = some ⟨[.int, .long], none⟩ := by decide +kernel
theorem ef_12_take1 (m : MethodId) (x0 : Addr) : entryFrame m #[(.ref x0), (.int (0 : Int32))] 8 = mkF m 0 #[.val (.ref x0), .val (.int (0 : Int32)), .unset, .unset, .unset, .unset, .unset, .unset] [] := by first | (simp [entryFrame, mkF, argsToLocals, Value.category]; done) | rfl
def own_Q12_take1 (Z : State) (zs : Addr) (zw : Addr) (zo : Addr) (znw : Nat) (zno : Nat) (zlw : Int32) (zlo : Int32) (zf : Nat → Int64) (zg : Nat → Int64) (z1 : Int32) (h0 : Heap) (n0 : Nat) (v : Option Value) (h : Heap) (L : List Loc) : Prop := v = some (.int (((64 : Int32) * z1) + (own_f7 (own_f13 (zf z1.toNatClampNeg))))) ∧ Fr n0 L ∧ Keep h0 h [zw, zo] ∧ own_LA Z h zw znw (own_upd zf z1.toNatClampNeg (zf z1.toNatClampNeg &&& ((own_f13 (zf z1.toNatClampNeg)) ^^^ (-1 : Int64)))) ∧ own_LA Z h zo zno (if (own_upd zf z1.toNatClampNeg (zf z1.toNatClampNeg &&& ((own_f13 (zf z1.toNatClampNeg)) ^^^ (-1 : Int64)))) z1.toNatClampNeg = (0 : Int64) then own_upd zg (own_ix z1) (zg (own_ix z1) &&& (own_bt z1 ^^^ (-1 : Int64))) else zg)
set_option maxRecDepth 65536 in
set_option maxHeartbeats 40000000 in
theorem rm_take1 (l : Launch) (Z : State) (a0 : Array Value) (hw : ∀ d ∈ tables_1, d.before a0 Z = true) (ws : List Jvm.Cond) (zs : Addr) (zw : Addr) (zo : Addr) (znw : Nat) (zno : Nat) (zlw : Int32) (zlo : Int32) (zf : Nat → Int64) (zg : Nat → Int64) (z1 : Int32) (h0 : Heap) (n0 : Nat) (Z0 : n0 ≤ h0.size) (E_zs : Exa Z h0 zs "com/example/netloom/netloom/embed/NodeSet") (F_zs_words : Fld Z h0 zs "com/example/netloom/netloom/embed/NodeSet" "words" "[J" (.ref zw)) (F_zs_occupied : Fld Z h0 zs "com/example/netloom/netloom/embed/NodeSet" "occupied" "[J" (.ref zo)) (V_zw : own_LA Z h0 zw znw zf) (V_zo : own_LA Z h0 zo zno zg) (g_zw : n0 ≤ zw) (g_zo : n0 ≤ zo) (ne_zs_zw : zs ≠ zw) (ne_zs_zo : zs ≠ zo) (ne_zw_zo : zw ≠ zo) (hn1 : (own_nw (0 : Int32) zlw zlo zg) = z1) (hz1n : ¬ (z1 < (0 : Int32))) (hz1b : z1.toInt < 128) (hz1i : z1.toNatClampNeg < znw) (hl1 : znw.toInt32 = zlw) (hl2 : zno.toInt32 = zlo) (hno : (zno : Int) = zlo.toInt) (hz2 : zlo.toInt ≤ 2) (hlo : zlo.toInt = (zlw.toInt + 63) / 64) (hb0 : (0 : Int32).toInt / 64 < zlo.toInt) (hz1o : own_ix z1 < zno) :
    MetFree l (⟨"com/example/netloom/netloom/embed/NodeSet", "take", "(I)I"⟩ : MethodName) (head1 (Jvm.Cond.code (⟨"com/example/netloom/netloom/embed/NodeSet", "take", "(I)I"⟩ : MethodName) prog_34_method_11_code 8 (some .int) :: ws) ({ frames := 3, cells := 0, slots := 0, locals := 45 } : Room)) (fun a U => a = #[(.ref zs), (.int (0 : Int32))] ∧ Z.Warmed39 U.vm ∧ U.heap = h0) (fun _ _ _ _ _ => True) (fun _ U o U' => ∃ v L, o = .returned v ∧ own_Q12_take1 Z zs zw zo znw zno zlw zlo zf zg z1 h0 n0 v U'.heap L ∧ FrameEnd U o U' L ({ frames := 3, cells := 0, slots := 0, locals := 45 } : Room).cells ({ frames := 3, cells := 0, slots := 0, locals := 45 } : Room).slots) := by
  refine MetFree.of_bodySF (plainFor_of_name pn_com_example_netloom_netloom_embed_NodeSet) hisR ?_
  intro p e s m args below meth c s₁ Bd hml0 hP hK
  obtain ⟨rfl, hZ, hh⟩ := hP
  have hx := Bd.exec
  have hby := Bd.bytes
  have hml : c.maxLocals = 8 := hml0
  have hown : s.vm.findClass "com/example/netloom/netloom/embed/NodeSet" = some m.cls := findClass_of_methodNamed Bd.named
  have hnm := (name_of_methodNamed Bd.named Bd.method).1
  have X0 : Stand p l e ({ frames := 3, cells := 0, slots := 0, locals := 45 } : Room) s m #[(.ref zs), (.int (0 : Int32))] below meth c s₁ [] 0 0 := Stand.of_body Bd
  have e0 : s₁.heap = h0 := by rw [← hh, Bd.state]; rfl
  have N0 := Fr.nil n0
  have Zs := Z0
  have K : Keep h0 h0 [zw, zo] := Keep.refl _ _
  show own_Goes p e below s (own_Q12_take1 Z zs zw zo znw zno zlw zlo zf zg z1 h0 n0) ({ frames := 3, cells := 0, slots := 0, locals := 45 } : Room).cells ({ frames := 3, cells := 0, slots := 0, locals := 45 } : Room).slots _
  refine own_go (B := s₁.setTop (mkF m 0 #[.val (.ref zs), .val (.int (0 : Int32)), .unset, .unset, .unset, .unset, .unset, .unset] [])) (fun t k => castTop (ef_12_take1 m zs) k) ?_
  refine own_go (B := s₁.setTop (mkF m 1 #[.val (.ref zs), .val (.int (0 : Int32)), .unset, .unset, .unset, .unset, .unset, .unset] [(.int (0 : Int32))])) (fun t k => XS.iloadN X0.here hx rfl (Jvm.hb hby d12_0) rfl k) ?_
  refine own_go (B := s₁.setTop (mkF m 2 #[.val (.ref zs), .val (.int (0 : Int32)), .val (.int (0 : Int32)), .unset, .unset, .unset, .unset, .unset] [])) (fun t k => XS.istoreN X0.here hx rfl (Jvm.hb hby d12_1) rfl (l' := #[.val (.ref zs), .val (.int (0 : Int32)), .val (.int (0 : Int32)), .unset, .unset, .unset, .unset, .unset]) rfl k) ?_
  refine own_go (B := s₁.setTop (mkF m 3 #[.val (.ref zs), .val (.int (0 : Int32)), .val (.int (0 : Int32)), .unset, .unset, .unset, .unset, .unset] [(.ref zs)])) (fun t k => XS.aloadN X0.here hx rfl (Jvm.hb hby d12_2) rfl rfl k) ?_
  refine own_go (B := s₁.setTop (mkF m 4 #[.val (.ref zs), .val (.int (0 : Int32)), .val (.int (0 : Int32)), .unset, .unset, .unset, .unset, .unset] [(.int (0 : Int32)), (.ref zs)])) (fun t k => XS.iconst X0.here hx rfl (Jvm.hb hby d12_3) k) ?_
  obtain ⟨cq50, q50, q50'⟩ := E_zs.cell
  obtain ⟨_, _, ⟨T50, La50, ka50, na50⟩, -, X50, ⟨Lc50, hQ50, l50, y50, z50⟩, st50⟩ := X0.privateBack hx (y := (⟨"com/example/netloom/netloom/embed/NodeSet", "nextWord", "(I)I"⟩ : MethodName)) hown (mvT hZ (own_w hw 30 rfl)) (mvT hZ (own_w hw 31 rfl)) (own_selP (y' := (⟨"com/example/netloom/netloom/embed/NodeSet", "add", "(I)V"⟩ : MethodName)) (mvT hZ (own_w hw 18 rfl)) rfl (Cond.privateMethod_at (mvP hZ (own_w hw 32 rfl) (args := #[]))) (mvT hZ (own_w hw 31 rfl)) (by decide)) (Cond.privateMethod_at (mvP hZ (own_w hw 32 rfl) (args := #[]))) (mvT hZ (own_w hw 33 rfl)) (by decide) (backOf (W := 0) (rm6 l Z a0 hw [] zs (0 : Int32) zw zo znw zno zlw zlo zf zg h0 n0 Zs F_zs_words F_zs_occupied V_zw V_zo (by decide) hl1 hl2 hno hz2 (fun _ => hb0)) hZ (own_w hw 33 rfl) (own_w hw 3 rfl) (by decide) (by decide)) (g := (mkF m 4 #[.val (.ref zs), .val (.int (0 : Int32)), .val (.int (0 : Int32)), .unset, .unset, .unset, .unset, .unset] [(.int (0 : Int32)), (.ref zs)])) rfl (by rw [hml]; rfl) (Steps.refl _) (a := zs) (by rw [e0]; exact q50) q50' (argsL := [(.int (0 : Int32))]) (rest := []) (lenOf pd_0 rfl) rfl (by show 2 * 0 + _ ≤ _; exact Nat.le_of_eq rfl) (Jvm.hb hby d12_4) (fun _ _ => ⟨rfl, e0, (by decide : 0 + 0 ≤ _), (by decide : 0 + 0 ≤ _)⟩)
  dsimp only [Pt.U, Pt.locs, Pt.cells, Pt.slots] at X50 l50 y50 z50 st50 hQ50
  subst l50 y50 z50
  obtain ⟨rfl, N50q, e50⟩ := hQ50
  have N50 := Fr.app N0 N50q
  refine own_go (B := T50.setTop (mkF m 7 #[.val (.ref zs), .val (.int (0 : Int32)), .val (.int (0 : Int32)), .unset, .unset, .unset, .unset, .unset] [(.int (own_nw (0 : Int32) zlw zlo zg))])) (fun t k => own_st st50 k) ?_
  rw [hn1]
  refine own_go (B := T50.setTop (mkF m 8 #[.val (.ref zs), .val (.int (0 : Int32)), .val (.int (0 : Int32)), .val (.int z1), .unset, .unset, .unset, .unset] [])) (fun t k => XS.istoreN X50.here hx rfl (Jvm.hb hby d12_7) rfl (l' := #[.val (.ref zs), .val (.int (0 : Int32)), .val (.int (0 : Int32)), .val (.int z1), .unset, .unset, .unset, .unset]) rfl k) ?_
  refine own_go (B := T50.setTop (mkF m 9 #[.val (.ref zs), .val (.int (0 : Int32)), .val (.int (0 : Int32)), .val (.int z1), .unset, .unset, .unset, .unset] [(.int z1)])) (fun t k => XS.iloadN X50.here hx rfl (Jvm.hb hby d12_8) rfl k) ?_
  refine own_go (B := T50.setTop (mkF m 12 #[.val (.ref zs), .val (.int (0 : Int32)), .val (.int (0 : Int32)), .val (.int z1), .unset, .unset, .unset, .unset] [])) (fun t k => XS.ifNo X50.here hx rfl (Jvm.hb hby d12_9) rfl ((if0 _ _).trans (flt hz1n).1) k) ?_
  refine own_go (B := T50.setTop (mkF m 13 #[.val (.ref zs), .val (.int (0 : Int32)), .val (.int (0 : Int32)), .val (.int z1), .unset, .unset, .unset, .unset] [(.ref zs)])) (fun t k => XS.aloadN X50.here hx rfl (Jvm.hb hby d12_12) rfl rfl k) ?_
  obtain ⟨T51, X51, e51, st51⟩ := getF X50 hx hZ hown (host := "") (Or.inl (own_w hw 11 rfl)) Via.refl e50 F_zs_words (g := (mkF m 13 #[.val (.ref zs), .val (.int (0 : Int32)), .val (.int (0 : Int32)), .val (.int z1), .unset, .unset, .unset, .unset] [(.ref zs)])) rfl rfl (Jvm.hb hby d12_13)
  refine own_go (B := T51.setTop (mkF m 16 #[.val (.ref zs), .val (.int (0 : Int32)), .val (.int (0 : Int32)), .val (.int z1), .unset, .unset, .unset, .unset] [(.ref zw)])) (fun t k => st51 _ k) ?_
  refine own_go (B := T51.setTop (mkF m 17 #[.val (.ref zs), .val (.int (0 : Int32)), .val (.int (0 : Int32)), .val (.int z1), .unset, .unset, .unset, .unset] [(.int z1), (.ref zw)])) (fun t k => XS.iloadN X51.here hx rfl (Jvm.hb hby d12_16) rfl k) ?_
  refine own_go (B := T51.setTop (mkF m 18 #[.val (.ref zs), .val (.int (0 : Int32)), .val (.int (0 : Int32)), .val (.int z1), .unset, .unset, .unset, .unset] [(.long (zf z1.toNatClampNeg))])) (fun t k => own_laload X51 hx hZ e51 V_zw (j := z1) (k := z1.toNatClampNeg) hz1n rfl hz1i (Jvm.hb hby d12_17) t k) ?_
  refine own_go (B := T51.setTop (mkF m 20 #[.val (.ref zs), .val (.int (0 : Int32)), .val (.int (0 : Int32)), .val (.int z1), .val (.long (zf z1.toNatClampNeg)), .second, .unset, .unset] [])) (fun t k => XS.lstore X51.here hx rfl (Jvm.hb hby d12_18) rfl (l' := #[.val (.ref zs), .val (.int (0 : Int32)), .val (.int (0 : Int32)), .val (.int z1), .val (.long (zf z1.toNatClampNeg)), .second, .unset, .unset]) rfl k) ?_
  refine own_go (B := T51.setTop (mkF m 21 #[.val (.ref zs), .val (.int (0 : Int32)), .val (.int (0 : Int32)), .val (.int z1), .val (.long (zf z1.toNatClampNeg)), .second, .unset, .unset] [(.int (0 : Int32))])) (fun t k => XS.iloadN X51.here hx rfl (Jvm.hb hby d12_20) rfl k) ?_
  refine own_go (B := T51.setTop (mkF m 64 #[.val (.ref zs), .val (.int (0 : Int32)), .val (.int (0 : Int32)), .val (.int z1), .val (.long (zf z1.toNatClampNeg)), .second, .unset, .unset] [])) (fun t k => XS.ifYes X51.here hx rfl (pc0 := 21) (pc' := 64) rfl (Jvm.hb hby d12_21) rfl ((if0 _ _).trans (flt (by decide : ¬ ((0 : Int32) < (0 : Int32)))).2.2.2) (by decide) (by decide) k) ?_
  refine own_go (B := T51.setTop (mkF m 66 #[.val (.ref zs), .val (.int (0 : Int32)), .val (.int (0 : Int32)), .val (.int z1), .val (.long (zf z1.toNatClampNeg)), .second, .unset, .unset] [(.long (zf z1.toNatClampNeg))])) (fun t k => XS.lload X51.here hx rfl (Jvm.hb hby d12_64) rfl k) ?_
  obtain ⟨_, _, ⟨T52, La52, ka52, na52⟩, -, X52, ⟨Lc52, hQ52, l52, y52, z52⟩, st52⟩ := Jvm.LawKit.callS X51 hx (y := (⟨"java/lang/Long", "lowestOneBit", "(J)J"⟩ : MethodName)) hown (mvT hZ (own_w hw 61 rfl)) (mvT hZ (own_w hw 62 rfl)) (mvT hZ (own_w hw 37 rfl)) (mvT hZ (own_w hw 63 rfl)) (by decide) (backOf (W := 0) (rm13 l Z a0 hw [] (zf z1.toNatClampNeg) h0 n0 Zs) hZ (own_w hw 63 rfl) (own_w hw 37 rfl) (by decide) (by decide)) (g := (mkF m 66 #[.val (.ref zs), .val (.int (0 : Int32)), .val (.int (0 : Int32)), .val (.int z1), .val (.long (zf z1.toNatClampNeg)), .second, .unset, .unset] [(.long (zf z1.toNatClampNeg))])) rfl (by rw [hml]; rfl) (argsL := [(.long (zf z1.toNatClampNeg))]) (rest := []) (lenOf pd_2 rfl) rfl (by show 2 * 0 + _ ≤ _; exact Nat.le_of_eq rfl) (Jvm.hb hby d12_66) (fun _ _ => ⟨rfl, e51, (by decide : 0 + 0 ≤ _), (by decide : 0 + 0 ≤ _)⟩)
  dsimp only [Pt.U, Pt.locs, Pt.cells, Pt.slots] at X52 l52 y52 z52 st52 hQ52
  subst l52 y52 z52
  obtain ⟨rfl, N52q, e52⟩ := hQ52
  have N52 := Fr.app N50 N52q
  refine own_go (B := T52.setTop (mkF m 69 #[.val (.ref zs), .val (.int (0 : Int32)), .val (.int (0 : Int32)), .val (.int z1), .val (.long (zf z1.toNatClampNeg)), .second, .unset, .unset] [(.long (own_f13 (zf z1.toNatClampNeg)))])) (fun t k => st52 _ k) ?_
  refine own_go (B := T52.setTop (mkF m 71 #[.val (.ref zs), .val (.int (0 : Int32)), .val (.int (0 : Int32)), .val (.int z1), .val (.long (zf z1.toNatClampNeg)), .second, .val (.long (own_f13 (zf z1.toNatClampNeg))), .second] [])) (fun t k => XS.lstore X52.here hx rfl (Jvm.hb hby d12_69) rfl (l' := #[.val (.ref zs), .val (.int (0 : Int32)), .val (.int (0 : Int32)), .val (.int z1), .val (.long (zf z1.toNatClampNeg)), .second, .val (.long (own_f13 (zf z1.toNatClampNeg))), .second]) rfl k) ?_
  refine own_go (B := T52.setTop (mkF m 72 #[.val (.ref zs), .val (.int (0 : Int32)), .val (.int (0 : Int32)), .val (.int z1), .val (.long (zf z1.toNatClampNeg)), .second, .val (.long (own_f13 (zf z1.toNatClampNeg))), .second] [(.ref zs)])) (fun t k => XS.aloadN X52.here hx rfl (Jvm.hb hby d12_71) rfl rfl k) ?_
  refine own_go (B := T52.setTop (mkF m 73 #[.val (.ref zs), .val (.int (0 : Int32)), .val (.int (0 : Int32)), .val (.int z1), .val (.long (zf z1.toNatClampNeg)), .second, .val (.long (own_f13 (zf z1.toNatClampNeg))), .second] [(.int z1), (.ref zs)])) (fun t k => XS.iloadN X52.here hx rfl (Jvm.hb hby d12_72) rfl k) ?_
  refine own_go (B := T52.setTop (mkF m 75 #[.val (.ref zs), .val (.int (0 : Int32)), .val (.int (0 : Int32)), .val (.int z1), .val (.long (zf z1.toNatClampNeg)), .second, .val (.long (own_f13 (zf z1.toNatClampNeg))), .second] [(.long (own_f13 (zf z1.toNatClampNeg))), (.int z1), (.ref zs)])) (fun t k => XS.lload X52.here hx rfl (Jvm.hb hby d12_73) rfl k) ?_
  obtain ⟨cq53, q53, q53'⟩ := E_zs.cell
  obtain ⟨_, _, ⟨T53, La53, ka53, na53⟩, -, X53, ⟨Lc53, hQ53, l53, y53, z53⟩, st53⟩ := X52.privateBack hx (y := (⟨"com/example/netloom/netloom/embed/NodeSet", "drop", "(IJ)V"⟩ : MethodName)) hown (mvT hZ (own_w hw 64 rfl)) (mvT hZ (own_w hw 65 rfl)) (own_selP (y' := (⟨"com/example/netloom/netloom/embed/NodeSet", "add", "(I)V"⟩ : MethodName)) (mvT hZ (own_w hw 18 rfl)) rfl (Cond.privateMethod_at (mvP hZ (own_w hw 66 rfl) (args := #[]))) (mvT hZ (own_w hw 65 rfl)) (by decide)) (Cond.privateMethod_at (mvP hZ (own_w hw 66 rfl) (args := #[]))) (mvT hZ (own_w hw 67 rfl)) (by decide) (backOf (W := 0) (rm14 l Z a0 hw [] zs z1 (own_f13 (zf z1.toNatClampNeg)) zw zo znw zno zf zg h0 n0 Zs E_zs F_zs_words F_zs_occupied V_zw V_zo g_zw g_zo ne_zs_zw ne_zs_zo ne_zw_zo hz1n hz1i hz1o) hZ (own_w hw 67 rfl) (own_w hw 3 rfl) (by decide) (by decide)) (g := (mkF m 75 #[.val (.ref zs), .val (.int (0 : Int32)), .val (.int (0 : Int32)), .val (.int z1), .val (.long (zf z1.toNatClampNeg)), .second, .val (.long (own_f13 (zf z1.toNatClampNeg))), .second] [(.long (own_f13 (zf z1.toNatClampNeg))), (.int z1), (.ref zs)])) rfl (by rw [hml]; rfl) (Steps.refl _) (a := zs) (by rw [e52]; exact q53) q53' (argsL := [(.int z1), (.long (own_f13 (zf z1.toNatClampNeg)))]) (rest := []) (lenOf pd_3 rfl) rfl (by show 2 * 0 + _ ≤ _; exact Nat.le_of_eq rfl) (Jvm.hb hby d12_75) (fun _ _ => ⟨rfl, e52, (by decide : 0 + 0 ≤ _), (by decide : 0 + 0 ≤ _)⟩)
  dsimp only [Pt.U, Pt.locs, Pt.cells, Pt.slots] at X53 l53 y53 z53 st53 hQ53
  subst l53 y53 z53
  obtain ⟨rfl, N53q, Kc53, V_zw_q, V_zo_q⟩ := hQ53
  have N53 := Fr.app N52 N53q
  have E_zs := E_zs.keep Kc53
  have F_zs_words := F_zs_words.keep Kc53 (ninS ne_zs_zw (ninS ne_zs_zo nin0))
  have F_zs_occupied := F_zs_occupied.keep Kc53 (ninS ne_zs_zw (ninS ne_zs_zo nin0))
  have K := K.trans Kc53 (allS (Or.inl (List.mem_of_getElem? (i := 0) rfl)) (allS (Or.inl (List.mem_of_getElem? (i := 1) rfl)) all0))
  have Zs := Nat.le_trans Zs Kc53.1
  have V_zw := V_zw_q
  have V_zo := V_zo_q
  refine own_go (B := T53.setTop (mkF m 78 #[.val (.ref zs), .val (.int (0 : Int32)), .val (.int (0 : Int32)), .val (.int z1), .val (.long (zf z1.toNatClampNeg)), .second, .val (.long (own_f13 (zf z1.toNatClampNeg))), .second] [])) (fun t k => own_st st53 k) ?_
  refine own_go (B := T53.setTop (mkF m 80 #[.val (.ref zs), .val (.int (0 : Int32)), .val (.int (0 : Int32)), .val (.int z1), .val (.long (zf z1.toNatClampNeg)), .second, .val (.long (own_f13 (zf z1.toNatClampNeg))), .second] [(.int (64 : Int32))])) (fun t k => XS.bipush X53.here hx rfl (Jvm.hb hby d12_78) k) ?_
  refine own_go (B := T53.setTop (mkF m 81 #[.val (.ref zs), .val (.int (0 : Int32)), .val (.int (0 : Int32)), .val (.int z1), .val (.long (zf z1.toNatClampNeg)), .second, .val (.long (own_f13 (zf z1.toNatClampNeg))), .second] [(.int z1), (.int (64 : Int32))])) (fun t k => XS.iloadN X53.here hx rfl (Jvm.hb hby d12_80) rfl k) ?_
  refine own_go (B := T53.setTop (mkF m 82 #[.val (.ref zs), .val (.int (0 : Int32)), .val (.int (0 : Int32)), .val (.int z1), .val (.long (zf z1.toNatClampNeg)), .second, .val (.long (own_f13 (zf z1.toNatClampNeg))), .second] [(.int ((64 : Int32) * z1))])) (fun t k => XS.imul X53.here hx rfl (Jvm.hb hby d12_81) rfl k) ?_
  refine own_go (B := T53.setTop (mkF m 84 #[.val (.ref zs), .val (.int (0 : Int32)), .val (.int (0 : Int32)), .val (.int z1), .val (.long (zf z1.toNatClampNeg)), .second, .val (.long (own_f13 (zf z1.toNatClampNeg))), .second] [(.long (own_f13 (zf z1.toNatClampNeg))), (.int ((64 : Int32) * z1))])) (fun t k => XS.lload X53.here hx rfl (Jvm.hb hby d12_82) rfl k) ?_
  obtain ⟨_, _, ⟨T54, La54, ka54, na54⟩, -, X54, ⟨Lc54, hQ54, l54, y54, z54⟩, st54⟩ := Jvm.LawKit.callS X53 hx (y := (⟨"java/lang/Long", "numberOfTrailingZeros", "(J)I"⟩ : MethodName)) hown (mvT hZ (own_w hw 35 rfl)) (mvT hZ (own_w hw 36 rfl)) (mvT hZ (own_w hw 37 rfl)) (mvT hZ (own_w hw 38 rfl)) (by decide) (backOf (W := 1) (rm7 l Z a0 hw [] (own_f13 (zf z1.toNatClampNeg)) T53.heap n0 Zs) hZ (own_w hw 38 rfl) (own_w hw 37 rfl) (by decide) (by decide)) (g := (mkF m 84 #[.val (.ref zs), .val (.int (0 : Int32)), .val (.int (0 : Int32)), .val (.int z1), .val (.long (zf z1.toNatClampNeg)), .second, .val (.long (own_f13 (zf z1.toNatClampNeg))), .second] [(.long (own_f13 (zf z1.toNatClampNeg))), (.int ((64 : Int32) * z1))])) rfl (by rw [hml]; rfl) (argsL := [(.long (own_f13 (zf z1.toNatClampNeg)))]) (rest := [(.int ((64 : Int32) * z1))]) (lenOf pd_1 rfl) rfl (by show 2 * 0 + _ ≤ _; exact Nat.le_of_eq rfl) (Jvm.hb hby d12_84) (fun _ _ => ⟨rfl, rfl, (by decide : 0 + 0 ≤ _), (by decide : 0 + 0 ≤ _)⟩)
  dsimp only [Pt.U, Pt.locs, Pt.cells, Pt.slots] at X54 l54 y54 z54 st54 hQ54
  subst l54 y54 z54
  obtain ⟨rfl, N54q, e54⟩ := hQ54
  have N54 := Fr.app N53 N54q
  refine own_go (B := T54.setTop (mkF m 87 #[.val (.ref zs), .val (.int (0 : Int32)), .val (.int (0 : Int32)), .val (.int z1), .val (.long (zf z1.toNatClampNeg)), .second, .val (.long (own_f13 (zf z1.toNatClampNeg))), .second] [(.int (own_f7 (own_f13 (zf z1.toNatClampNeg)))), (.int ((64 : Int32) * z1))])) (fun t k => st54 _ k) ?_
  refine own_go (B := T54.setTop (mkF m 88 #[.val (.ref zs), .val (.int (0 : Int32)), .val (.int (0 : Int32)), .val (.int z1), .val (.long (zf z1.toNatClampNeg)), .second, .val (.long (own_f13 (zf z1.toNatClampNeg))), .second] [(.int (((64 : Int32) * z1) + (own_f7 (own_f13 (zf z1.toNatClampNeg)))))])) (fun t k => XS.iadd X54.here hx rfl (Jvm.hb hby d12_87) rfl k) ?_
  refine own_out X54 (v := (some (.int (((64 : Int32) * z1) + (own_f7 (own_f13 (zf z1.toNatClampNeg))))))) (fun h => by rw [Bd.returns] at h; cases h) Bd.notSynchronized (fun fs hr => retOut X54 hx (t := .int) Bd.returns rfl (Or.inl ⟨rfl, Or.inl rfl, _, rfl⟩) (Jvm.hb hby d12_88) hr) ?_ (by decide) (by decide)
  show own_Q12_take1 Z zs zw zo znw zno zlw zlo zf zg z1 h0 n0 (some (.int (((64 : Int32) * z1) + (own_f7 (own_f13 (zf z1.toNatClampNeg)))))) T54.heap _
  rw [e54]
  exact ⟨rfl, N54, K, V_zw, V_zo⟩
theorem d12_100 : decode prog_34_method_11_code 100 = .ok (.iconst (-1), 1) := by decide +kernel
theorem d12_101 : decode prog_34_method_11_code 101 = .ok (.ireturn, 1) := by decide +kernel
theorem ef_12_take0 (m : MethodId) (x0 : Addr) : entryFrame m #[(.ref x0), (.int (0 : Int32))] 8 = mkF m 0 #[.val (.ref x0), .val (.int (0 : Int32)), .unset, .unset, .unset, .unset, .unset, .unset] [] := by first | (simp [entryFrame, mkF, argsToLocals, Value.category]; done) | rfl
def own_Q12_take0 (Z : State) (zs : Addr) (zw : Addr) (zo : Addr) (znw : Nat) (zno : Nat) (zlw : Int32) (zlo : Int32) (zf : Nat → Int64) (zg : Nat → Int64) (h0 : Heap) (n0 : Nat) (v : Option Value) (h : Heap) (L : List Loc) : Prop := v = some (.int (-1 : Int32)) ∧ Fr n0 L ∧ h = h0
set_option maxRecDepth 65536 in
set_option maxHeartbeats 40000000 in
theorem rm_take0 (l : Launch) (Z : State) (a0 : Array Value) (hw : ∀ d ∈ tables_1, d.before a0 Z = true) (ws : List Jvm.Cond) (zs : Addr) (zw : Addr) (zo : Addr) (znw : Nat) (zno : Nat) (zlw : Int32) (zlo : Int32) (zf : Nat → Int64) (zg : Nat → Int64) (h0 : Heap) (n0 : Nat) (Z0 : n0 ≤ h0.size) (E_zs : Exa Z h0 zs "com/example/netloom/netloom/embed/NodeSet") (F_zs_words : Fld Z h0 zs "com/example/netloom/netloom/embed/NodeSet" "words" "[J" (.ref zw)) (F_zs_occupied : Fld Z h0 zs "com/example/netloom/netloom/embed/NodeSet" "occupied" "[J" (.ref zo)) (V_zw : own_LA Z h0 zw znw zf) (V_zo : own_LA Z h0 zo zno zg) (hn1 : (own_nw (0 : Int32) zlw zlo zg) = (-1 : Int32)) (hl1 : znw.toInt32 = zlw) (hl2 : zno.toInt32 = zlo) (hno : (zno : Int) = zlo.toInt) (hz2 : zlo.toInt ≤ 2) (hlo : zlo.toInt = (zlw.toInt + 63) / 64) (hb0 : (0 : Int32).toInt / 64 < zlo.toInt) :
    MetFree l (⟨"com/example/netloom/netloom/embed/NodeSet", "take", "(I)I"⟩ : MethodName) (head1 (Jvm.Cond.code (⟨"com/example/netloom/netloom/embed/NodeSet", "take", "(I)I"⟩ : MethodName) prog_34_method_11_code 8 (some .int) :: ws) ({ frames := 3, cells := 0, slots := 0, locals := 45 } : Room)) (fun a U => a = #[(.ref zs), (.int (0 : Int32))] ∧ Z.Warmed39 U.vm ∧ U.heap = h0) (fun _ _ _ _ _ => True) (fun _ U o U' => ∃ v L, o = .returned v ∧ own_Q12_take0 Z zs zw zo znw zno zlw zlo zf zg h0 n0 v U'.heap L ∧ FrameEnd U o U' L ({ frames := 3, cells := 0, slots := 0, locals := 45 } : Room).cells ({ frames := 3, cells := 0, slots := 0, locals := 45 } : Room).slots) := by
  refine MetFree.of_bodySF (plainFor_of_name pn_com_example_netloom_netloom_embed_NodeSet) hisR ?_
  intro p e s m args below meth c s₁ Bd hml0 hP hK
  obtain ⟨rfl, hZ, hh⟩ := hP
  have hx := Bd.exec
  have hby := Bd.bytes
  have hml : c.maxLocals = 8 := hml0
  have hown : s.vm.findClass "com/example/netloom/netloom/embed/NodeSet" = some m.cls := findClass_of_methodNamed Bd.named
  have hnm := (name_of_methodNamed Bd.named Bd.method).1
  have X0 : Stand p l e ({ frames := 3, cells := 0, slots := 0, locals := 45 } : Room) s m #[(.ref zs), (.int (0 : Int32))] below meth c s₁ [] 0 0 := Stand.of_body Bd
  have e0 : s₁.heap = h0 := by rw [← hh, Bd.state]; rfl
  have N0 := Fr.nil n0
  have Zs := Z0
  show own_Goes p e below s (own_Q12_take0 Z zs zw zo znw zno zlw zlo zf zg h0 n0) ({ frames := 3, cells := 0, slots := 0, locals := 45 } : Room).cells ({ frames := 3, cells := 0, slots := 0, locals := 45 } : Room).slots _
  refine own_go (B := s₁.setTop (mkF m 0 #[.val (.ref zs), .val (.int (0 : Int32)), .unset, .unset, .unset, .unset, .unset, .unset] [])) (fun t k => castTop (ef_12_take0 m zs) k) ?_
  refine own_go (B := s₁.setTop (mkF m 1 #[.val (.ref zs), .val (.int (0 : Int32)), .unset, .unset, .unset, .unset, .unset, .unset] [(.int (0 : Int32))])) (fun t k => XS.iloadN X0.here hx rfl (Jvm.hb hby d12_0) rfl k) ?_
  refine own_go (B := s₁.setTop (mkF m 2 #[.val (.ref zs), .val (.int (0 : Int32)), .val (.int (0 : Int32)), .unset, .unset, .unset, .unset, .unset] [])) (fun t k => XS.istoreN X0.here hx rfl (Jvm.hb hby d12_1) rfl (l' := #[.val (.ref zs), .val (.int (0 : Int32)), .val (.int (0 : Int32)), .unset, .unset, .unset, .unset, .unset]) rfl k) ?_
  refine own_go (B := s₁.setTop (mkF m 3 #[.val (.ref zs), .val (.int (0 : Int32)), .val (.int (0 : Int32)), .unset, .unset, .unset, .unset, .unset] [(.ref zs)])) (fun t k => XS.aloadN X0.here hx rfl (Jvm.hb hby d12_2) rfl rfl k) ?_
  refine own_go (B := s₁.setTop (mkF m 4 #[.val (.ref zs), .val (.int (0 : Int32)), .val (.int (0 : Int32)), .unset, .unset, .unset, .unset, .unset] [(.int (0 : Int32)), (.ref zs)])) (fun t k => XS.iconst X0.here hx rfl (Jvm.hb hby d12_3) k) ?_
  obtain ⟨cq55, q55, q55'⟩ := E_zs.cell
  obtain ⟨_, _, ⟨T55, La55, ka55, na55⟩, -, X55, ⟨Lc55, hQ55, l55, y55, z55⟩, st55⟩ := X0.privateBack hx (y := (⟨"com/example/netloom/netloom/embed/NodeSet", "nextWord", "(I)I"⟩ : MethodName)) hown (mvT hZ (own_w hw 30 rfl)) (mvT hZ (own_w hw 31 rfl)) (own_selP (y' := (⟨"com/example/netloom/netloom/embed/NodeSet", "add", "(I)V"⟩ : MethodName)) (mvT hZ (own_w hw 18 rfl)) rfl (Cond.privateMethod_at (mvP hZ (own_w hw 32 rfl) (args := #[]))) (mvT hZ (own_w hw 31 rfl)) (by decide)) (Cond.privateMethod_at (mvP hZ (own_w hw 32 rfl) (args := #[]))) (mvT hZ (own_w hw 33 rfl)) (by decide) (backOf (W := 0) (rm6 l Z a0 hw [] zs (0 : Int32) zw zo znw zno zlw zlo zf zg h0 n0 Zs F_zs_words F_zs_occupied V_zw V_zo (by decide) hl1 hl2 hno hz2 (fun _ => hb0)) hZ (own_w hw 33 rfl) (own_w hw 3 rfl) (by decide) (by decide)) (g := (mkF m 4 #[.val (.ref zs), .val (.int (0 : Int32)), .val (.int (0 : Int32)), .unset, .unset, .unset, .unset, .unset] [(.int (0 : Int32)), (.ref zs)])) rfl (by rw [hml]; rfl) (Steps.refl _) (a := zs) (by rw [e0]; exact q55) q55' (argsL := [(.int (0 : Int32))]) (rest := []) (lenOf pd_0 rfl) rfl (by show 2 * 0 + _ ≤ _; exact Nat.le_of_eq rfl) (Jvm.hb hby d12_4) (fun _ _ => ⟨rfl, e0, (by decide : 0 + 0 ≤ _), (by decide : 0 + 0 ≤ _)⟩)
  dsimp only [Pt.U, Pt.locs, Pt.cells, Pt.slots] at X55 l55 y55 z55 st55 hQ55
  subst l55 y55 z55
  obtain ⟨rfl, N55q, e55⟩ := hQ55
  have N55 := Fr.app N0 N55q
  refine own_go (B := T55.setTop (mkF m 7 #[.val (.ref zs), .val (.int (0 : Int32)), .val (.int (0 : Int32)), .unset, .unset, .unset, .unset, .unset] [(.int (own_nw (0 : Int32) zlw zlo zg))])) (fun t k => own_st st55 k) ?_
  rw [hn1]
  refine own_go (B := T55.setTop (mkF m 8 #[.val (.ref zs), .val (.int (0 : Int32)), .val (.int (0 : Int32)), .val (.int (-1 : Int32)), .unset, .unset, .unset, .unset] [])) (fun t k => XS.istoreN X55.here hx rfl (Jvm.hb hby d12_7) rfl (l' := #[.val (.ref zs), .val (.int (0 : Int32)), .val (.int (0 : Int32)), .val (.int (-1 : Int32)), .unset, .unset, .unset, .unset]) rfl k) ?_
  refine own_go (B := T55.setTop (mkF m 9 #[.val (.ref zs), .val (.int (0 : Int32)), .val (.int (0 : Int32)), .val (.int (-1 : Int32)), .unset, .unset, .unset, .unset] [(.int (-1 : Int32))])) (fun t k => XS.iloadN X55.here hx rfl (Jvm.hb hby d12_8) rfl k) ?_
  refine own_go (B := T55.setTop (mkF m 100 #[.val (.ref zs), .val (.int (0 : Int32)), .val (.int (0 : Int32)), .val (.int (-1 : Int32)), .unset, .unset, .unset, .unset] [])) (fun t k => XS.ifYes X55.here hx rfl (pc0 := 9) (pc' := 100) rfl (Jvm.hb hby d12_9) rfl ((if0 _ _).trans (tlt (by decide : (-1 : Int32) < (0 : Int32))).1) (by decide) (by decide) k) ?_
  refine own_go (B := T55.setTop (mkF m 101 #[.val (.ref zs), .val (.int (0 : Int32)), .val (.int (0 : Int32)), .val (.int (-1 : Int32)), .unset, .unset, .unset, .unset] [(.int (-1 : Int32))])) (fun t k => XS.iconst X55.here hx rfl (Jvm.hb hby d12_100) k) ?_
  refine own_out X55 (v := (some (.int (-1 : Int32)))) (fun h => by rw [Bd.returns] at h; cases h) Bd.notSynchronized (fun fs hr => retOut X55 hx (t := .int) Bd.returns rfl (Or.inl ⟨rfl, Or.inl rfl, _, rfl⟩) (Jvm.hb hby d12_101) hr) ?_ (by decide) (by decide)
  show own_Q12_take0 Z zs zw zo znw zno zlw zlo zf zg h0 n0 (some (.int (-1 : Int32))) T55.heap _
  rw [e55]
  exact ⟨rfl, N55, rfl⟩
theorem d1_0 : decode prog_34_method_1_code 0 = .ok (.aload_n 0, 1) := by decide +kernel
theorem d1_1 : decode prog_34_method_1_code 1 = .ok (.invokespecial 1, 3) := by decide +kernel
theorem d1_4 : decode prog_34_method_1_code 4 = .ok (.aload_n 0, 1) := by decide +kernel
theorem d1_5 : decode prog_34_method_1_code 5 = .ok (.iload_n 1, 1) := by decide +kernel
theorem d1_6 : decode prog_34_method_1_code 6 = .ok (.bipush 63, 2) := by decide +kernel
theorem d1_8 : decode prog_34_method_1_code 8 = .ok (.iadd, 1) := by decide +kernel
theorem d1_9 : decode prog_34_method_1_code 9 = .ok (.bipush 64, 2) := by decide +kernel
theorem d1_11 : decode prog_34_method_1_code 11 = .ok (.idiv, 1) := by decide +kernel
theorem d1_12 : decode prog_34_method_1_code 12 = .ok (.newarray .long, 2) := by decide +kernel
theorem d1_14 : decode prog_34_method_1_code 14 = .ok (.putfield 7, 3) := by decide +kernel
theorem d1_17 : decode prog_34_method_1_code 17 = .ok (.aload_n 0, 1) := by decide +kernel
theorem d1_18 : decode prog_34_method_1_code 18 = .ok (.aload_n 0, 1) := by decide +kernel
theorem d1_19 : decode prog_34_method_1_code 19 = .ok (.getfield 7, 3) := by decide +kernel
theorem d1_22 : decode prog_34_method_1_code 22 = .ok (.arraylength, 1) := by decide +kernel
theorem d1_23 : decode prog_34_method_1_code 23 = .ok (.bipush 63, 2) := by decide +kernel
theorem d1_25 : decode prog_34_method_1_code 25 = .ok (.iadd, 1) := by decide +kernel
theorem d1_26 : decode prog_34_method_1_code 26 = .ok (.bipush 64, 2) := by decide +kernel
theorem d1_28 : decode prog_34_method_1_code 28 = .ok (.idiv, 1) := by decide +kernel
theorem d1_29 : decode prog_34_method_1_code 29 = .ok (.newarray .long, 2) := by decide +kernel
theorem d1_31 : decode prog_34_method_1_code 31 = .ok (.putfield 13, 3) := by decide +kernel
theorem d1_34 : decode prog_34_method_1_code 34 = .ok (.return_, 1) := by decide +kernel
theorem ef_1 (m : MethodId) (x0 : Addr) (x1 : Int32) : entryFrame m #[(.ref x0), (.int x1)] 2 = mkF m 0 #[.val (.ref x0), .val (.int x1)] [] := by first | (simp [entryFrame, mkF, argsToLocals, Value.category]; done) | rfl
def own_Q1 (Z : State) (zs : Addr) (zx : Int32) (h0 : Heap) (n0 : Nat) (v : Option Value) (h : Heap) (L : List Loc) : Prop := v = none ∧ Fr n0 L ∧ ∃ zw : Addr, h0.size ≤ zw ∧ ∃ zo : Addr, h0.size ≤ zo ∧ zw ≠ zo ∧ Keep h0 h [zs] ∧ Exa Z h zs "com/example/netloom/netloom/embed/NodeSet" ∧ Fld Z h zs "com/example/netloom/netloom/embed/NodeSet" "words" "[J" (.ref zw) ∧ Fld Z h zs "com/example/netloom/netloom/embed/NodeSet" "occupied" "[J" (.ref zo) ∧ own_LA Z h zw (own_lw zx).toNatClampNeg (fun _ => 0) ∧ own_LA Z h zo (own_lw (own_lw zx)).toNatClampNeg (fun _ => 0)
set_option maxRecDepth 65536 in
set_option maxHeartbeats 40000000 in
theorem rm1 (l : Launch) (Z : State) (a0 : Array Value) (hw : ∀ d ∈ tables_1, d.before a0 Z = true) (ws : List Jvm.Cond) (zs : Addr) (zx : Int32) (h0 : Heap) (n0 : Nat) (Z0 : n0 ≤ h0.size) (E_zs : Exa Z h0 zs "com/example/netloom/netloom/embed/NodeSet") (F_zs_words : Fld Z h0 zs "com/example/netloom/netloom/embed/NodeSet" "words" "[J" .null) (F_zs_occupied : Fld Z h0 zs "com/example/netloom/netloom/embed/NodeSet" "occupied" "[J" .null) (g_zs : n0 ≤ zs) (hn : 1 ≤ zx.toInt ∧ zx.toInt ≤ 8192) :
    MetFree l (⟨"com/example/netloom/netloom/embed/NodeSet", "<init>", "(I)V"⟩ : MethodName) (head1 (Jvm.Cond.code (⟨"com/example/netloom/netloom/embed/NodeSet", "<init>", "(I)V"⟩ : MethodName) prog_34_method_1_code 2 none :: ws) ({ frames := 1, cells := 2, slots := 130, locals := 12 } : Room)) (fun a U => a = #[(.ref zs), (.int zx)] ∧ Z.Warmed39 U.vm ∧ U.heap = h0) (fun _ _ _ _ _ => True) (fun _ U o U' => ∃ v L, o = .returned v ∧ own_Q1 Z zs zx h0 n0 v U'.heap L ∧ FrameEnd U o U' L ({ frames := 1, cells := 2, slots := 130, locals := 12 } : Room).cells ({ frames := 1, cells := 2, slots := 130, locals := 12 } : Room).slots) := by
  refine MetFree.of_bodySF (plainFor_of_name pn_com_example_netloom_netloom_embed_NodeSet) hisR ?_
  intro p e s m args below meth c s₁ Bd hml0 hP hK
  obtain ⟨rfl, hZ, hh⟩ := hP
  have hx := Bd.exec
  have hby := Bd.bytes
  have hml : c.maxLocals = 2 := hml0
  have hown : s.vm.findClass "com/example/netloom/netloom/embed/NodeSet" = some m.cls := findClass_of_methodNamed Bd.named
  have hnm := (name_of_methodNamed Bd.named Bd.method).1
  have X0 : Stand p l e ({ frames := 1, cells := 2, slots := 130, locals := 12 } : Room) s m #[(.ref zs), (.int zx)] below meth c s₁ [] 0 0 := Stand.of_body Bd
  have e0 : s₁.heap = h0 := by rw [← hh, Bd.state]; rfl
  have N0 := Fr.nil n0
  have Zs := Z0
  have K : Keep h0 h0 [zs] := Keep.refl _ _
  show own_Goes p e below s (own_Q1 Z zs zx h0 n0) ({ frames := 1, cells := 2, slots := 130, locals := 12 } : Room).cells ({ frames := 1, cells := 2, slots := 130, locals := 12 } : Room).slots _
  refine own_go (B := s₁.setTop (mkF m 0 #[.val (.ref zs), .val (.int zx)] [])) (fun t k => castTop (ef_1 m zs zx) k) ?_
  refine own_go (B := s₁.setTop (mkF m 1 #[.val (.ref zs), .val (.int zx)] [(.ref zs)])) (fun t k => XS.aloadN X0.here hx rfl (Jvm.hb hby d1_0) rfl rfl k) ?_
  obtain ⟨T56, X56, e56, st56⟩ := initO X0 hx hZ hown (own_w hw 7 rfl) (own_w hw 8 rfl) (own_w hw 9 rfl) e0 (g := (mkF m 1 #[.val (.ref zs), .val (.int zx)] [(.ref zs)])) rfl (by rw [hml]; rfl) rfl (Jvm.hb hby d1_1) (by decide) (W := 0) (by show 2 * 0 + _ ≤ _; exact Nat.le_of_eq rfl) (by decide)
  refine own_go (B := T56.setTop (mkF m 4 #[.val (.ref zs), .val (.int zx)] [])) (fun t k => st56 _ k) ?_
  refine own_go (B := T56.setTop (mkF m 5 #[.val (.ref zs), .val (.int zx)] [(.ref zs)])) (fun t k => XS.aloadN X56.here hx rfl (Jvm.hb hby d1_4) rfl rfl k) ?_
  refine own_go (B := T56.setTop (mkF m 6 #[.val (.ref zs), .val (.int zx)] [(.int zx), (.ref zs)])) (fun t k => XS.iloadN X56.here hx rfl (Jvm.hb hby d1_5) rfl k) ?_
  refine own_go (B := T56.setTop (mkF m 8 #[.val (.ref zs), .val (.int zx)] [(.int (63 : Int32)), (.int zx), (.ref zs)])) (fun t k => XS.bipush X56.here hx rfl (Jvm.hb hby d1_6) k) ?_
  refine own_go (B := T56.setTop (mkF m 9 #[.val (.ref zs), .val (.int zx)] [(.int (zx + (63 : Int32))), (.ref zs)])) (fun t k => XS.iadd X56.here hx rfl (Jvm.hb hby d1_8) rfl k) ?_
  refine own_go (B := T56.setTop (mkF m 11 #[.val (.ref zs), .val (.int zx)] [(.int (64 : Int32)), (.int (zx + (63 : Int32))), (.ref zs)])) (fun t k => XS.bipush X56.here hx rfl (Jvm.hb hby d1_9) k) ?_
  refine own_go (B := T56.setTop (mkF m 12 #[.val (.ref zs), .val (.int zx)] [(.int ((zx + (63 : Int32)) / (64 : Int32))), (.ref zs)])) (fun t k => XS.idiv X56.here hx rfl (Jvm.hb hby d1_11) rfl (by decide) k) ?_
  obtain ⟨T57, h57, k57, X57, e57, E57, A57, st57⟩ := newP X56 hx hZ (own_w hw 10 rfl) e56 (g := (mkF m 12 #[.val (.ref zs), .val (.int zx)] [(.int ((zx + (63 : Int32)) / (64 : Int32))), (.ref zs)])) rfl (Jvm.hb hby d1_12) rfl (own_lw_nn zx (by omega)) (cap := 128) (own_lw_le zx (by omega) 128 (by omega)) (by decide) (by decide) (by decide)
  obtain ⟨b57, g57⟩ : ∃ z, z = h0.size := ⟨_, rfl⟩
  rw [← g57] at A57 st57
  have ne_zs_b57 : zs ≠ b57 := Nat.ne_of_lt (Nat.lt_of_lt_of_le E_zs.lt (Nat.le_of_eq g57.symm))
  have g_b57 : n0 ≤ b57 := Nat.le_trans Zs (Nat.le_of_eq g57.symm)
  have sz_b57 : h0.size ≤ b57 := Nat.le_trans K.1 (Nat.le_of_eq g57.symm)
  have E_zs := E_zs.ext E57
  have F_zs_words := F_zs_words.ext E57
  have F_zs_occupied := F_zs_occupied.ext E57
  have K := K.ext E57
  have Zs := Nat.le_trans Zs E57.1
  have V_b57 : own_LA Z h57 b57 (own_lw zx).toNatClampNeg (fun _ => 0) := own_Lnew A57 rfl
  refine own_go (B := T57.setTop (mkF m 14 #[.val (.ref zs), .val (.int zx)] [(.ref b57), (.ref zs)])) (fun t k => st57 _ k) ?_
  obtain ⟨T58, h58, X58, e58, W58, st58⟩ := putF X57 hx hZ hown (host := "") (Or.inl (own_w hw 11 rfl)) Via.refl e57 F_zs_words E_zs (Or.inr ⟨(own_w hw 12 rfl), rfl, hnm⟩) (own_w hw 2 rfl) (ty := (.array .long)) (by decide) rfl rfl (g := (mkF m 14 #[.val (.ref zs), .val (.int zx)] [(.ref b57), (.ref zs)])) rfl rfl (Jvm.hb hby d1_14)
  have N58 := Fr.snoc X58 N0 g_zs
  have E_zs := E_zs.wr W58
  have F_zs_words := F_zs_words.same W58
  have F_zs_occupied := F_zs_occupied.other W58 (Or.inr (slot_ne (Or.inr (own_w hw 14 rfl)) (Or.inr (own_w hw 12 rfl)) (by decide) (t := (.array .long)) (t' := (.array .long)) (by decide) (by decide)))
  have V_b57 := V_b57.other W58 (Ne.symm ne_zs_b57)
  have K := K.wr W58 (Or.inl (List.mem_of_getElem? (i := 0) rfl))
  have Zs := Nat.le_trans Zs (Keep.of_wr W58).1
  refine own_go (B := T58.setTop (mkF m 17 #[.val (.ref zs), .val (.int zx)] [])) (fun t k => st58 _ k) ?_
  refine own_go (B := T58.setTop (mkF m 18 #[.val (.ref zs), .val (.int zx)] [(.ref zs)])) (fun t k => XS.aloadN X58.here hx rfl (Jvm.hb hby d1_17) rfl rfl k) ?_
  refine own_go (B := T58.setTop (mkF m 19 #[.val (.ref zs), .val (.int zx)] [(.ref zs), (.ref zs)])) (fun t k => XS.aloadN X58.here hx rfl (Jvm.hb hby d1_18) rfl rfl k) ?_
  obtain ⟨T59, X59, e59, st59⟩ := getF X58 hx hZ hown (host := "") (Or.inl (own_w hw 11 rfl)) Via.refl e58 F_zs_words (g := (mkF m 19 #[.val (.ref zs), .val (.int zx)] [(.ref zs), (.ref zs)])) rfl rfl (Jvm.hb hby d1_19)
  refine own_go (B := T59.setTop (mkF m 22 #[.val (.ref zs), .val (.int zx)] [(.ref b57), (.ref zs)])) (fun t k => st59 _ k) ?_
  refine own_go (B := T59.setTop (mkF m 23 #[.val (.ref zs), .val (.int zx)] [(.int ((zx + (63 : Int32)) / (64 : Int32))), (.ref zs)])) (fun t k => own_alenL X59 hx hZ e59 V_b57 (back32 (own_lw_nn zx (by omega))).1 (Jvm.hb hby d1_22) t k) ?_
  refine own_go (B := T59.setTop (mkF m 25 #[.val (.ref zs), .val (.int zx)] [(.int (63 : Int32)), (.int ((zx + (63 : Int32)) / (64 : Int32))), (.ref zs)])) (fun t k => XS.bipush X59.here hx rfl (Jvm.hb hby d1_23) k) ?_
  refine own_go (B := T59.setTop (mkF m 26 #[.val (.ref zs), .val (.int zx)] [(.int (((zx + (63 : Int32)) / (64 : Int32)) + (63 : Int32))), (.ref zs)])) (fun t k => XS.iadd X59.here hx rfl (Jvm.hb hby d1_25) rfl k) ?_
  refine own_go (B := T59.setTop (mkF m 28 #[.val (.ref zs), .val (.int zx)] [(.int (64 : Int32)), (.int (((zx + (63 : Int32)) / (64 : Int32)) + (63 : Int32))), (.ref zs)])) (fun t k => XS.bipush X59.here hx rfl (Jvm.hb hby d1_26) k) ?_
  refine own_go (B := T59.setTop (mkF m 29 #[.val (.ref zs), .val (.int zx)] [(.int ((((zx + (63 : Int32)) / (64 : Int32)) + (63 : Int32)) / (64 : Int32))), (.ref zs)])) (fun t k => XS.idiv X59.here hx rfl (Jvm.hb hby d1_28) rfl (by decide) k) ?_
  obtain ⟨T60, h60, k60, X60, e60, E60, A60, st60⟩ := newP X59 hx hZ (own_w hw 10 rfl) e59 (g := (mkF m 29 #[.val (.ref zs), .val (.int zx)] [(.int ((((zx + (63 : Int32)) / (64 : Int32)) + (63 : Int32)) / (64 : Int32))), (.ref zs)])) rfl (Jvm.hb hby d1_29) rfl (own_lw_nn (own_lw zx) (by have := own_lw_int zx (by omega); omega)) (cap := 2) (own_lw_le (own_lw zx) (by have := own_lw_int zx (by omega); omega) 2 (by have := own_lw_int zx (by omega); omega)) (by decide) (by decide) (by decide)
  obtain ⟨b60, g60⟩ : ∃ z, z = h58.size := ⟨_, rfl⟩
  rw [← g60] at A60 st60
  have ne_zs_b60 : zs ≠ b60 := Nat.ne_of_lt (Nat.lt_of_lt_of_le E_zs.lt (Nat.le_of_eq g60.symm))
  have ne_b57_b60 : b57 ≠ b60 := Nat.ne_of_lt (Nat.lt_of_lt_of_le V_b57.lt (Nat.le_of_eq g60.symm))
  have g_b60 : n0 ≤ b60 := Nat.le_trans Zs (Nat.le_of_eq g60.symm)
  have sz_b60 : h0.size ≤ b60 := Nat.le_trans K.1 (Nat.le_of_eq g60.symm)
  have E_zs := E_zs.ext E60
  have F_zs_words := F_zs_words.ext E60
  have F_zs_occupied := F_zs_occupied.ext E60
  have V_b57 := V_b57.ext E60
  have K := K.ext E60
  have Zs := Nat.le_trans Zs E60.1
  have V_b60 : own_LA Z h60 b60 (own_lw (own_lw zx)).toNatClampNeg (fun _ => 0) := own_Lnew A60 rfl
  refine own_go (B := T60.setTop (mkF m 31 #[.val (.ref zs), .val (.int zx)] [(.ref b60), (.ref zs)])) (fun t k => st60 _ k) ?_
  obtain ⟨T61, h61, X61, e61, W61, st61⟩ := putF X60 hx hZ hown (host := "") (Or.inl (own_w hw 13 rfl)) Via.refl e60 F_zs_occupied E_zs (Or.inr ⟨(own_w hw 14 rfl), rfl, hnm⟩) (own_w hw 2 rfl) (ty := (.array .long)) (by decide) rfl rfl (g := (mkF m 31 #[.val (.ref zs), .val (.int zx)] [(.ref b60), (.ref zs)])) rfl rfl (Jvm.hb hby d1_31)
  have N61 := Fr.snoc X61 N58 g_zs
  have E_zs := E_zs.wr W61
  have F_zs_words := F_zs_words.other W61 (Or.inr (slot_ne (Or.inr (own_w hw 12 rfl)) (Or.inr (own_w hw 14 rfl)) (by decide) (t := (.array .long)) (t' := (.array .long)) (by decide) (by decide)))
  have F_zs_occupied := F_zs_occupied.same W61
  have V_b57 := V_b57.other W61 (Ne.symm ne_zs_b57)
  have V_b60 := V_b60.other W61 (Ne.symm ne_zs_b60)
  have K := K.wr W61 (Or.inl (List.mem_of_getElem? (i := 0) rfl))
  have Zs := Nat.le_trans Zs (Keep.of_wr W61).1
  refine own_go (B := T61.setTop (mkF m 34 #[.val (.ref zs), .val (.int zx)] [])) (fun t k => st61 _ k) ?_
  refine own_out X61 (v := none) (fun _ => rfl) Bd.notSynchronized (fun fs hr => X61.returnOut hx Bd.returns (Jvm.hb hby d1_34) hr) ?_ (by decide) (by decide)
  show own_Q1 Z zs zx h0 n0 none T61.heap _
  rw [e61]
  exact ⟨rfl, N61, b57, sz_b57, b60, sz_b60, ne_b57_b60, K, E_zs, F_zs_words, F_zs_occupied, V_b57, V_b60⟩
theorem d3_0 : decode prog_34_method_3_code 0 = .ok (.iload_n 1, 1) := by decide +kernel
theorem d3_1 : decode prog_34_method_3_code 1 = .ok (.bipush 64, 2) := by decide +kernel
theorem d3_3 : decode prog_34_method_3_code 3 = .ok (.idiv, 1) := by decide +kernel
theorem d3_4 : decode prog_34_method_3_code 4 = .ok (.istore_n 2, 1) := by decide +kernel
theorem d3_5 : decode prog_34_method_3_code 5 = .ok (.aload_n 0, 1) := by decide +kernel
theorem d3_6 : decode prog_34_method_3_code 6 = .ok (.getfield 7, 3) := by decide +kernel
theorem d3_9 : decode prog_34_method_3_code 9 = .ok (.iload_n 2, 1) := by decide +kernel
theorem d3_10 : decode prog_34_method_3_code 10 = .ok (.dup2, 1) := by decide +kernel
theorem d3_11 : decode prog_34_method_3_code 11 = .ok (.laload, 1) := by decide +kernel
theorem d3_12 : decode prog_34_method_3_code 12 = .ok (.lconst 1, 1) := by decide +kernel
theorem d3_13 : decode prog_34_method_3_code 13 = .ok (.iload_n 1, 1) := by decide +kernel
theorem d3_14 : decode prog_34_method_3_code 14 = .ok (.lshl, 1) := by decide +kernel
theorem d3_15 : decode prog_34_method_3_code 15 = .ok (.lor, 1) := by decide +kernel
theorem d3_16 : decode prog_34_method_3_code 16 = .ok (.lastore, 1) := by decide +kernel
theorem d3_17 : decode prog_34_method_3_code 17 = .ok (.aload_n 0, 1) := by decide +kernel
theorem d3_18 : decode prog_34_method_3_code 18 = .ok (.getfield 13, 3) := by decide +kernel
theorem d3_21 : decode prog_34_method_3_code 21 = .ok (.iload_n 2, 1) := by decide +kernel
theorem d3_22 : decode prog_34_method_3_code 22 = .ok (.bipush 64, 2) := by decide +kernel
theorem d3_24 : decode prog_34_method_3_code 24 = .ok (.idiv, 1) := by decide +kernel
theorem d3_25 : decode prog_34_method_3_code 25 = .ok (.dup2, 1) := by decide +kernel
theorem d3_26 : decode prog_34_method_3_code 26 = .ok (.laload, 1) := by decide +kernel
theorem d3_27 : decode prog_34_method_3_code 27 = .ok (.lconst 1, 1) := by decide +kernel
theorem d3_28 : decode prog_34_method_3_code 28 = .ok (.iload_n 2, 1) := by decide +kernel
theorem d3_29 : decode prog_34_method_3_code 29 = .ok (.lshl, 1) := by decide +kernel
theorem d3_30 : decode prog_34_method_3_code 30 = .ok (.lor, 1) := by decide +kernel
theorem d3_31 : decode prog_34_method_3_code 31 = .ok (.lastore, 1) := by decide +kernel
theorem d3_32 : decode prog_34_method_3_code 32 = .ok (.return_, 1) := by decide +kernel
theorem ef_3 (m : MethodId) (x0 : Addr) (x1 : Int32) : entryFrame m #[(.ref x0), (.int x1)] 3 = mkF m 0 #[.val (.ref x0), .val (.int x1), .unset] [] := by first | (simp [entryFrame, mkF, argsToLocals, Value.category]; done) | rfl
def own_Q3 (Z : State) (zs : Addr) (zx : Int32) (zw : Addr) (zo : Addr) (znw : Nat) (zno : Nat) (zf : Nat → Int64) (zg : Nat → Int64) (h0 : Heap) (n0 : Nat) (v : Option Value) (h : Heap) (L : List Loc) : Prop := v = none ∧ Fr n0 L ∧ Keep h0 h [zw, zo] ∧ own_LA Z h zw znw (own_upd zf (own_ix zx) (zf (own_ix zx) ||| own_bt zx)) ∧ own_LA Z h zo zno (own_upd zg (own_ix (zx / (64 : Int32))) (zg (own_ix (zx / (64 : Int32))) ||| own_bt (zx / (64 : Int32))))
set_option maxRecDepth 65536 in
set_option maxHeartbeats 40000000 in
theorem rm3 (l : Launch) (Z : State) (a0 : Array Value) (hw : ∀ d ∈ tables_1, d.before a0 Z = true) (ws : List Jvm.Cond) (zs : Addr) (zx : Int32) (zw : Addr) (zo : Addr) (znw : Nat) (zno : Nat) (zf : Nat → Int64) (zg : Nat → Int64) (h0 : Heap) (n0 : Nat) (Z0 : n0 ≤ h0.size) (E_zs : Exa Z h0 zs "com/example/netloom/netloom/embed/NodeSet") (F_zs_words : Fld Z h0 zs "com/example/netloom/netloom/embed/NodeSet" "words" "[J" (.ref zw)) (F_zs_occupied : Fld Z h0 zs "com/example/netloom/netloom/embed/NodeSet" "occupied" "[J" (.ref zo)) (V_zw : own_LA Z h0 zw znw zf) (V_zo : own_LA Z h0 zo zno zg) (g_zw : n0 ≤ zw) (g_zo : n0 ≤ zo) (ne_zs_zw : zs ≠ zw) (ne_zs_zo : zs ≠ zo) (ne_zw_zo : zw ≠ zo) (hx0 : ¬ (zx < (0 : Int32))) (hi : own_ix zx < znw) (ho : own_ix (zx / (64 : Int32)) < zno) :
    MetFree l (⟨"com/example/netloom/netloom/embed/NodeSet", "add", "(I)V"⟩ : MethodName) (head1 (Jvm.Cond.code (⟨"com/example/netloom/netloom/embed/NodeSet", "add", "(I)V"⟩ : MethodName) prog_34_method_3_code 3 none :: ws) ({ frames := 0, cells := 0, slots := 0, locals := 0 } : Room)) (fun a U => a = #[(.ref zs), (.int zx)] ∧ Z.Warmed39 U.vm ∧ U.heap = h0) (fun _ _ _ _ _ => True) (fun _ U o U' => ∃ v L, o = .returned v ∧ own_Q3 Z zs zx zw zo znw zno zf zg h0 n0 v U'.heap L ∧ FrameEnd U o U' L ({ frames := 0, cells := 0, slots := 0, locals := 0 } : Room).cells ({ frames := 0, cells := 0, slots := 0, locals := 0 } : Room).slots) := by
  refine MetFree.of_bodySF (plainFor_of_name pn_com_example_netloom_netloom_embed_NodeSet) hisR ?_
  intro p e s m args below meth c s₁ Bd hml0 hP hK
  obtain ⟨rfl, hZ, hh⟩ := hP
  have hx := Bd.exec
  have hby := Bd.bytes
  have hml : c.maxLocals = 3 := hml0
  have hown : s.vm.findClass "com/example/netloom/netloom/embed/NodeSet" = some m.cls := findClass_of_methodNamed Bd.named
  have hnm := (name_of_methodNamed Bd.named Bd.method).1
  have X0 : Stand p l e ({ frames := 0, cells := 0, slots := 0, locals := 0 } : Room) s m #[(.ref zs), (.int zx)] below meth c s₁ [] 0 0 := Stand.of_body Bd
  have e0 : s₁.heap = h0 := by rw [← hh, Bd.state]; rfl
  have N0 := Fr.nil n0
  have Zs := Z0
  have K : Keep h0 h0 [zw, zo] := Keep.refl _ _
  show own_Goes p e below s (own_Q3 Z zs zx zw zo znw zno zf zg h0 n0) ({ frames := 0, cells := 0, slots := 0, locals := 0 } : Room).cells ({ frames := 0, cells := 0, slots := 0, locals := 0 } : Room).slots _
  refine own_go (B := s₁.setTop (mkF m 0 #[.val (.ref zs), .val (.int zx), .unset] [])) (fun t k => castTop (ef_3 m zs zx) k) ?_
  refine own_go (B := s₁.setTop (mkF m 1 #[.val (.ref zs), .val (.int zx), .unset] [(.int zx)])) (fun t k => XS.iloadN X0.here hx rfl (Jvm.hb hby d3_0) rfl k) ?_
  refine own_go (B := s₁.setTop (mkF m 3 #[.val (.ref zs), .val (.int zx), .unset] [(.int (64 : Int32)), (.int zx)])) (fun t k => XS.bipush X0.here hx rfl (Jvm.hb hby d3_1) k) ?_
  refine own_go (B := s₁.setTop (mkF m 4 #[.val (.ref zs), .val (.int zx), .unset] [(.int (zx / (64 : Int32)))])) (fun t k => XS.idiv X0.here hx rfl (Jvm.hb hby d3_3) rfl (by decide) k) ?_
  refine own_go (B := s₁.setTop (mkF m 5 #[.val (.ref zs), .val (.int zx), .val (.int (zx / (64 : Int32)))] [])) (fun t k => XS.istoreN X0.here hx rfl (Jvm.hb hby d3_4) rfl (l' := #[.val (.ref zs), .val (.int zx), .val (.int (zx / (64 : Int32)))]) rfl k) ?_
  refine own_go (B := s₁.setTop (mkF m 6 #[.val (.ref zs), .val (.int zx), .val (.int (zx / (64 : Int32)))] [(.ref zs)])) (fun t k => XS.aloadN X0.here hx rfl (Jvm.hb hby d3_5) rfl rfl k) ?_
  obtain ⟨T62, X62, e62, st62⟩ := getF X0 hx hZ hown (host := "") (Or.inl (own_w hw 11 rfl)) Via.refl e0 F_zs_words (g := (mkF m 6 #[.val (.ref zs), .val (.int zx), .val (.int (zx / (64 : Int32)))] [(.ref zs)])) rfl rfl (Jvm.hb hby d3_6)
  refine own_go (B := T62.setTop (mkF m 9 #[.val (.ref zs), .val (.int zx), .val (.int (zx / (64 : Int32)))] [(.ref zw)])) (fun t k => st62 _ k) ?_
  refine own_go (B := T62.setTop (mkF m 10 #[.val (.ref zs), .val (.int zx), .val (.int (zx / (64 : Int32)))] [(.int (zx / (64 : Int32))), (.ref zw)])) (fun t k => XS.iloadN X62.here hx rfl (Jvm.hb hby d3_9) rfl k) ?_
  refine own_go (B := T62.setTop (mkF m 11 #[.val (.ref zs), .val (.int zx), .val (.int (zx / (64 : Int32)))] [(.int (zx / (64 : Int32))), (.ref zw), (.int (zx / (64 : Int32))), (.ref zw)])) (fun t k => XT.dup2 X62.here hx rfl (Jvm.hb hby d3_10) rfl rfl rfl k) ?_
  refine own_go (B := T62.setTop (mkF m 12 #[.val (.ref zs), .val (.int zx), .val (.int (zx / (64 : Int32)))] [(.long (zf (own_ix zx))), (.int (zx / (64 : Int32))), (.ref zw)])) (fun t k => own_laload X62 hx hZ e62 V_zw (j := (zx / (64 : Int32))) (k := (own_ix zx)) (by rw [own_nn] at *; have := own_d64 zx hx0; omega) rfl hi (Jvm.hb hby d3_11) t k) ?_
  refine own_go (B := T62.setTop (mkF m 13 #[.val (.ref zs), .val (.int zx), .val (.int (zx / (64 : Int32)))] [(.long (1 : Int64)), (.long (zf (own_ix zx))), (.int (zx / (64 : Int32))), (.ref zw)])) (fun t k => XS.lconst X62.here hx rfl (Jvm.hb hby d3_12) k) ?_
  refine own_go (B := T62.setTop (mkF m 14 #[.val (.ref zs), .val (.int zx), .val (.int (zx / (64 : Int32)))] [(.int zx), (.long (1 : Int64)), (.long (zf (own_ix zx))), (.int (zx / (64 : Int32))), (.ref zw)])) (fun t k => XS.iloadN X62.here hx rfl (Jvm.hb hby d3_13) rfl k) ?_
  refine own_go (B := T62.setTop (mkF m 15 #[.val (.ref zs), .val (.int zx), .val (.int (zx / (64 : Int32)))] [(.long ((1 : Int64) <<< (zx &&& 0x3f).toInt64)), (.long (zf (own_ix zx))), (.int (zx / (64 : Int32))), (.ref zw)])) (fun t k => XS.lshl X62.here hx rfl (Jvm.hb hby d3_14) rfl k) ?_
  refine own_go (B := T62.setTop (mkF m 16 #[.val (.ref zs), .val (.int zx), .val (.int (zx / (64 : Int32)))] [(.long ((zf (own_ix zx)) ||| ((1 : Int64) <<< (zx &&& 0x3f).toInt64))), (.int (zx / (64 : Int32))), (.ref zw)])) (fun t k => XS.lor X62.here hx rfl (Jvm.hb hby d3_15) rfl k) ?_
  obtain ⟨T63, h63, X63, e63, W63, V63, st63⟩ := own_lastore X62 hx hZ e62 V_zw (j := (zx / (64 : Int32))) (k := (own_ix zx)) (by rw [own_nn] at *; have := own_d64 zx hx0; omega) rfl hi (g := (mkF m 16 #[.val (.ref zs), .val (.int zx), .val (.int (zx / (64 : Int32)))] [(.long ((zf (own_ix zx)) ||| ((1 : Int64) <<< (zx &&& 0x3f).toInt64))), (.int (zx / (64 : Int32))), (.ref zw)])) rfl rfl (Jvm.hb hby d3_16)
  have N63 := Fr.snoc X63 N0 g_zw
  have E_zs := E_zs.wr W63
  have F_zs_words := F_zs_words.other W63 (Or.inl ne_zs_zw)
  have F_zs_occupied := F_zs_occupied.other W63 (Or.inl ne_zs_zw)
  have V_zo := V_zo.other W63 (Ne.symm ne_zw_zo)
  have K := K.wr W63 (Or.inl (List.mem_of_getElem? (i := 0) rfl))
  have Zs := Nat.le_trans Zs (Keep.of_wr W63).1
  have V_zw := V63
  refine own_go (B := T63.setTop (mkF m 17 #[.val (.ref zs), .val (.int zx), .val (.int (zx / (64 : Int32)))] [])) (fun t k => st63 _ k) ?_
  refine own_go (B := T63.setTop (mkF m 18 #[.val (.ref zs), .val (.int zx), .val (.int (zx / (64 : Int32)))] [(.ref zs)])) (fun t k => XS.aloadN X63.here hx rfl (Jvm.hb hby d3_17) rfl rfl k) ?_
  obtain ⟨T64, X64, e64, st64⟩ := getF X63 hx hZ hown (host := "") (Or.inl (own_w hw 13 rfl)) Via.refl e63 F_zs_occupied (g := (mkF m 18 #[.val (.ref zs), .val (.int zx), .val (.int (zx / (64 : Int32)))] [(.ref zs)])) rfl rfl (Jvm.hb hby d3_18)
  refine own_go (B := T64.setTop (mkF m 21 #[.val (.ref zs), .val (.int zx), .val (.int (zx / (64 : Int32)))] [(.ref zo)])) (fun t k => st64 _ k) ?_
  refine own_go (B := T64.setTop (mkF m 22 #[.val (.ref zs), .val (.int zx), .val (.int (zx / (64 : Int32)))] [(.int (zx / (64 : Int32))), (.ref zo)])) (fun t k => XS.iloadN X64.here hx rfl (Jvm.hb hby d3_21) rfl k) ?_
  refine own_go (B := T64.setTop (mkF m 24 #[.val (.ref zs), .val (.int zx), .val (.int (zx / (64 : Int32)))] [(.int (64 : Int32)), (.int (zx / (64 : Int32))), (.ref zo)])) (fun t k => XS.bipush X64.here hx rfl (Jvm.hb hby d3_22) k) ?_
  refine own_go (B := T64.setTop (mkF m 25 #[.val (.ref zs), .val (.int zx), .val (.int (zx / (64 : Int32)))] [(.int ((zx / (64 : Int32)) / (64 : Int32))), (.ref zo)])) (fun t k => XS.idiv X64.here hx rfl (Jvm.hb hby d3_24) rfl (by decide) k) ?_
  refine own_go (B := T64.setTop (mkF m 26 #[.val (.ref zs), .val (.int zx), .val (.int (zx / (64 : Int32)))] [(.int ((zx / (64 : Int32)) / (64 : Int32))), (.ref zo), (.int ((zx / (64 : Int32)) / (64 : Int32))), (.ref zo)])) (fun t k => XT.dup2 X64.here hx rfl (Jvm.hb hby d3_25) rfl rfl rfl k) ?_
  refine own_go (B := T64.setTop (mkF m 27 #[.val (.ref zs), .val (.int zx), .val (.int (zx / (64 : Int32)))] [(.long (zg (own_ix (zx / (64 : Int32))))), (.int ((zx / (64 : Int32)) / (64 : Int32))), (.ref zo)])) (fun t k => own_laload X64 hx hZ e64 V_zo (j := ((zx / (64 : Int32)) / (64 : Int32))) (k := (own_ix (zx / (64 : Int32)))) (by rw [own_nn] at *; have := own_d64 zx hx0; have := own_d64 (zx / (64 : Int32)) (by omega); omega) rfl ho (Jvm.hb hby d3_26) t k) ?_
  refine own_go (B := T64.setTop (mkF m 28 #[.val (.ref zs), .val (.int zx), .val (.int (zx / (64 : Int32)))] [(.long (1 : Int64)), (.long (zg (own_ix (zx / (64 : Int32))))), (.int ((zx / (64 : Int32)) / (64 : Int32))), (.ref zo)])) (fun t k => XS.lconst X64.here hx rfl (Jvm.hb hby d3_27) k) ?_
  refine own_go (B := T64.setTop (mkF m 29 #[.val (.ref zs), .val (.int zx), .val (.int (zx / (64 : Int32)))] [(.int (zx / (64 : Int32))), (.long (1 : Int64)), (.long (zg (own_ix (zx / (64 : Int32))))), (.int ((zx / (64 : Int32)) / (64 : Int32))), (.ref zo)])) (fun t k => XS.iloadN X64.here hx rfl (Jvm.hb hby d3_28) rfl k) ?_
  refine own_go (B := T64.setTop (mkF m 30 #[.val (.ref zs), .val (.int zx), .val (.int (zx / (64 : Int32)))] [(.long ((1 : Int64) <<< ((zx / (64 : Int32)) &&& 0x3f).toInt64)), (.long (zg (own_ix (zx / (64 : Int32))))), (.int ((zx / (64 : Int32)) / (64 : Int32))), (.ref zo)])) (fun t k => XS.lshl X64.here hx rfl (Jvm.hb hby d3_29) rfl k) ?_
  refine own_go (B := T64.setTop (mkF m 31 #[.val (.ref zs), .val (.int zx), .val (.int (zx / (64 : Int32)))] [(.long ((zg (own_ix (zx / (64 : Int32)))) ||| ((1 : Int64) <<< ((zx / (64 : Int32)) &&& 0x3f).toInt64))), (.int ((zx / (64 : Int32)) / (64 : Int32))), (.ref zo)])) (fun t k => XS.lor X64.here hx rfl (Jvm.hb hby d3_30) rfl k) ?_
  obtain ⟨T65, h65, X65, e65, W65, V65, st65⟩ := own_lastore X64 hx hZ e64 V_zo (j := ((zx / (64 : Int32)) / (64 : Int32))) (k := (own_ix (zx / (64 : Int32)))) (by rw [own_nn] at *; have := own_d64 zx hx0; have := own_d64 (zx / (64 : Int32)) (by omega); omega) rfl ho (g := (mkF m 31 #[.val (.ref zs), .val (.int zx), .val (.int (zx / (64 : Int32)))] [(.long ((zg (own_ix (zx / (64 : Int32)))) ||| ((1 : Int64) <<< ((zx / (64 : Int32)) &&& 0x3f).toInt64))), (.int ((zx / (64 : Int32)) / (64 : Int32))), (.ref zo)])) rfl rfl (Jvm.hb hby d3_31)
  have N65 := Fr.snoc X65 N63 g_zo
  have E_zs := E_zs.wr W65
  have F_zs_words := F_zs_words.other W65 (Or.inl ne_zs_zo)
  have F_zs_occupied := F_zs_occupied.other W65 (Or.inl ne_zs_zo)
  have V_zw := V_zw.other W65 ne_zw_zo
  have K := K.wr W65 (Or.inl (List.mem_of_getElem? (i := 1) rfl))
  have Zs := Nat.le_trans Zs (Keep.of_wr W65).1
  have V_zo := V65
  refine own_go (B := T65.setTop (mkF m 32 #[.val (.ref zs), .val (.int zx), .val (.int (zx / (64 : Int32)))] [])) (fun t k => st65 _ k) ?_
  refine own_out X65 (v := none) (fun _ => rfl) Bd.notSynchronized (fun fs hr => X65.returnOut hx Bd.returns (Jvm.hb hby d3_32) hr) ?_ (by decide) (by decide)
  show own_Q3 Z zs zx zw zo znw zno zf zg h0 n0 none T65.heap _
  rw [e65]
  exact ⟨rfl, N65, K, V_zw, V_zo⟩
def own_con (f : Nat → Int64) (x : Int32) : Int32 := if (f (own_ix x) &&& own_bt x) = (0 : Int64) then (0 : Int32) else (1 : Int32)
theorem d4_0 : decode prog_34_method_2_code 0 = .ok (.aload_n 0, 1) := by decide +kernel
theorem d4_1 : decode prog_34_method_2_code 1 = .ok (.getfield 7, 3) := by decide +kernel
theorem d4_4 : decode prog_34_method_2_code 4 = .ok (.iload_n 1, 1) := by decide +kernel
theorem d4_5 : decode prog_34_method_2_code 5 = .ok (.bipush 64, 2) := by decide +kernel
theorem d4_7 : decode prog_34_method_2_code 7 = .ok (.idiv, 1) := by decide +kernel
theorem d4_8 : decode prog_34_method_2_code 8 = .ok (.laload, 1) := by decide +kernel
theorem d4_9 : decode prog_34_method_2_code 9 = .ok (.lconst 1, 1) := by decide +kernel
theorem d4_10 : decode prog_34_method_2_code 10 = .ok (.iload_n 1, 1) := by decide +kernel
theorem d4_11 : decode prog_34_method_2_code 11 = .ok (.lshl, 1) := by decide +kernel
theorem d4_12 : decode prog_34_method_2_code 12 = .ok (.land, 1) := by decide +kernel
theorem d4_13 : decode prog_34_method_2_code 13 = .ok (.lconst 0, 1) := by decide +kernel
theorem d4_14 : decode prog_34_method_2_code 14 = .ok (.lcmp, 1) := by decide +kernel
theorem d4_15 : decode prog_34_method_2_code 15 = .ok (.ifCond .eq 7, 3) := by decide +kernel
theorem d4_18 : decode prog_34_method_2_code 18 = .ok (.iconst 1, 1) := by decide +kernel
theorem d4_19 : decode prog_34_method_2_code 19 = .ok (.goto 4, 3) := by decide +kernel
theorem d4_22 : decode prog_34_method_2_code 22 = .ok (.iconst 0, 1) := by decide +kernel
theorem d4_23 : decode prog_34_method_2_code 23 = .ok (.ireturn, 1) := by decide +kernel
theorem ef_4 (m : MethodId) (x0 : Addr) (x1 : Int32) : entryFrame m #[(.ref x0), (.int x1)] 2 = mkF m 0 #[.val (.ref x0), .val (.int x1)] [] := by first | (simp [entryFrame, mkF, argsToLocals, Value.category]; done) | rfl
def own_Q4 (Z : State) (zs : Addr) (zx : Int32) (zw : Addr) (znw : Nat) (zf : Nat → Int64) (h0 : Heap) (n0 : Nat) (v : Option Value) (h : Heap) (L : List Loc) : Prop := v = some (.int (own_con zf zx)) ∧ Fr n0 L ∧ h = h0
set_option maxRecDepth 65536 in
set_option maxHeartbeats 40000000 in
theorem rm4 (l : Launch) (Z : State) (a0 : Array Value) (hw : ∀ d ∈ tables_1, d.before a0 Z = true) (ws : List Jvm.Cond) (zs : Addr) (zx : Int32) (zw : Addr) (znw : Nat) (zf : Nat → Int64) (h0 : Heap) (n0 : Nat) (Z0 : n0 ≤ h0.size) (F_zs_words : Fld Z h0 zs "com/example/netloom/netloom/embed/NodeSet" "words" "[J" (.ref zw)) (V_zw : own_LA Z h0 zw znw zf) (hx0 : ¬ (zx < (0 : Int32))) (hi : own_ix zx < znw) :
    MetFree l (⟨"com/example/netloom/netloom/embed/NodeSet", "contains", "(I)Z"⟩ : MethodName) (head1 (Jvm.Cond.code (⟨"com/example/netloom/netloom/embed/NodeSet", "contains", "(I)Z"⟩ : MethodName) prog_34_method_2_code 2 (some .boolean) :: ws) ({ frames := 0, cells := 0, slots := 0, locals := 0 } : Room)) (fun a U => a = #[(.ref zs), (.int zx)] ∧ Z.Warmed39 U.vm ∧ U.heap = h0) (fun _ _ _ _ _ => True) (fun _ U o U' => ∃ v L, o = .returned v ∧ own_Q4 Z zs zx zw znw zf h0 n0 v U'.heap L ∧ FrameEnd U o U' L ({ frames := 0, cells := 0, slots := 0, locals := 0 } : Room).cells ({ frames := 0, cells := 0, slots := 0, locals := 0 } : Room).slots) := by
  refine MetFree.of_bodySF (plainFor_of_name pn_com_example_netloom_netloom_embed_NodeSet) hisR ?_
  intro p e s m args below meth c s₁ Bd hml0 hP hK
  obtain ⟨rfl, hZ, hh⟩ := hP
  have hx := Bd.exec
  have hby := Bd.bytes
  have hml : c.maxLocals = 2 := hml0
  have hown : s.vm.findClass "com/example/netloom/netloom/embed/NodeSet" = some m.cls := findClass_of_methodNamed Bd.named
  have hnm := (name_of_methodNamed Bd.named Bd.method).1
  have X0 : Stand p l e ({ frames := 0, cells := 0, slots := 0, locals := 0 } : Room) s m #[(.ref zs), (.int zx)] below meth c s₁ [] 0 0 := Stand.of_body Bd
  have e0 : s₁.heap = h0 := by rw [← hh, Bd.state]; rfl
  have N0 := Fr.nil n0
  have Zs := Z0
  show own_Goes p e below s (own_Q4 Z zs zx zw znw zf h0 n0) ({ frames := 0, cells := 0, slots := 0, locals := 0 } : Room).cells ({ frames := 0, cells := 0, slots := 0, locals := 0 } : Room).slots _
  refine own_go (B := s₁.setTop (mkF m 0 #[.val (.ref zs), .val (.int zx)] [])) (fun t k => castTop (ef_4 m zs zx) k) ?_
  refine own_go (B := s₁.setTop (mkF m 1 #[.val (.ref zs), .val (.int zx)] [(.ref zs)])) (fun t k => XS.aloadN X0.here hx rfl (Jvm.hb hby d4_0) rfl rfl k) ?_
  obtain ⟨T66, X66, e66, st66⟩ := getF X0 hx hZ hown (host := "") (Or.inl (own_w hw 11 rfl)) Via.refl e0 F_zs_words (g := (mkF m 1 #[.val (.ref zs), .val (.int zx)] [(.ref zs)])) rfl rfl (Jvm.hb hby d4_1)
  refine own_go (B := T66.setTop (mkF m 4 #[.val (.ref zs), .val (.int zx)] [(.ref zw)])) (fun t k => st66 _ k) ?_
  refine own_go (B := T66.setTop (mkF m 5 #[.val (.ref zs), .val (.int zx)] [(.int zx), (.ref zw)])) (fun t k => XS.iloadN X66.here hx rfl (Jvm.hb hby d4_4) rfl k) ?_
  refine own_go (B := T66.setTop (mkF m 7 #[.val (.ref zs), .val (.int zx)] [(.int (64 : Int32)), (.int zx), (.ref zw)])) (fun t k => XS.bipush X66.here hx rfl (Jvm.hb hby d4_5) k) ?_
  refine own_go (B := T66.setTop (mkF m 8 #[.val (.ref zs), .val (.int zx)] [(.int (zx / (64 : Int32))), (.ref zw)])) (fun t k => XS.idiv X66.here hx rfl (Jvm.hb hby d4_7) rfl (by decide) k) ?_
  refine own_go (B := T66.setTop (mkF m 9 #[.val (.ref zs), .val (.int zx)] [(.long (zf (own_ix zx)))])) (fun t k => own_laload X66 hx hZ e66 V_zw (j := (zx / (64 : Int32))) (k := (own_ix zx)) (by rw [own_nn] at *; have := own_d64 zx hx0; omega) rfl hi (Jvm.hb hby d4_8) t k) ?_
  refine own_go (B := T66.setTop (mkF m 10 #[.val (.ref zs), .val (.int zx)] [(.long (1 : Int64)), (.long (zf (own_ix zx)))])) (fun t k => XS.lconst X66.here hx rfl (Jvm.hb hby d4_9) k) ?_
  refine own_go (B := T66.setTop (mkF m 11 #[.val (.ref zs), .val (.int zx)] [(.int zx), (.long (1 : Int64)), (.long (zf (own_ix zx)))])) (fun t k => XS.iloadN X66.here hx rfl (Jvm.hb hby d4_10) rfl k) ?_
  refine own_go (B := T66.setTop (mkF m 12 #[.val (.ref zs), .val (.int zx)] [(.long ((1 : Int64) <<< (zx &&& 0x3f).toInt64)), (.long (zf (own_ix zx)))])) (fun t k => XS.lshl X66.here hx rfl (Jvm.hb hby d4_11) rfl k) ?_
  refine own_go (B := T66.setTop (mkF m 13 #[.val (.ref zs), .val (.int zx)] [(.long ((zf (own_ix zx)) &&& ((1 : Int64) <<< (zx &&& 0x3f).toInt64)))])) (fun t k => XS.land X66.here hx rfl (Jvm.hb hby d4_12) rfl k) ?_
  refine own_go (B := T66.setTop (mkF m 14 #[.val (.ref zs), .val (.int zx)] [(.long (0 : Int64)), (.long ((zf (own_ix zx)) &&& ((1 : Int64) <<< (zx &&& 0x3f).toInt64)))])) (fun t k => XS.lconst X66.here hx rfl (Jvm.hb hby d4_13) k) ?_
  refine own_go (B := T66.setTop (mkF m 15 #[.val (.ref zs), .val (.int zx)] [(.int (lcmpW ((zf (own_ix zx)) &&& ((1 : Int64) <<< (zx &&& 0x3f).toInt64)) (0 : Int64)))])) (fun t k => XS.lcmp X66.here hx rfl (Jvm.hb hby d4_14) rfl k) ?_
  by_cases hc15_67 : ((zf (own_ix zx)) &&& ((1 : Int64) <<< (zx &&& 0x3f).toInt64)) = (0 : Int64)
  · refine own_go (B := T66.setTop (mkF m 22 #[.val (.ref zs), .val (.int zx)] [])) (fun t k => XS.ifYes X66.here hx rfl (pc0 := 15) (pc' := 22) rfl (Jvm.hb hby d4_15) rfl ((if0 _ _).trans (teq ((lw_eq ((zf (own_ix zx)) &&& ((1 : Int64) <<< (zx &&& 0x3f).toInt64)) (0 : Int64)).mpr hc15_67)).1) (by decide) (by decide) k) ?_
    refine own_go (B := T66.setTop (mkF m 23 #[.val (.ref zs), .val (.int zx)] [(.int (0 : Int32))])) (fun t k => XS.iconst X66.here hx rfl (Jvm.hb hby d4_22) k) ?_
    refine own_out X66 (v := (some (.int (0 : Int32)))) (fun h => by rw [Bd.returns] at h; cases h) Bd.notSynchronized (fun fs hr => retOut X66 hx (t := .boolean) Bd.returns rfl (by first | exact Or.inl ⟨rfl, by simp, _, rfl⟩) (Jvm.hb hby d4_23) hr) ?_ (by decide) (by decide)
    show own_Q4 Z zs zx zw znw zf h0 n0 (some (.int (0 : Int32))) T66.heap _
    rw [e66]
    exact ⟨(by unfold own_con own_bt; rw [if_pos hc15_67]), N0, rfl⟩
  · refine own_go (B := T66.setTop (mkF m 18 #[.val (.ref zs), .val (.int zx)] [])) (fun t k => XS.ifNo X66.here hx rfl (Jvm.hb hby d4_15) rfl ((if0 _ _).trans (feq (mt (lw_eq ((zf (own_ix zx)) &&& ((1 : Int64) <<< (zx &&& 0x3f).toInt64)) (0 : Int64)).mp hc15_67)).1) k) ?_
    refine own_go (B := T66.setTop (mkF m 19 #[.val (.ref zs), .val (.int zx)] [(.int (1 : Int32))])) (fun t k => XS.iconst X66.here hx rfl (Jvm.hb hby d4_18) k) ?_
    refine own_go (B := T66.setTop (mkF m 23 #[.val (.ref zs), .val (.int zx)] [(.int (1 : Int32))])) (fun t k => XS.goto X66.here hx rfl (pc0 := 19) (pc' := 23) rfl (Jvm.hb hby d4_19) (by decide) (by decide) k) ?_
    refine own_out X66 (v := (some (.int (1 : Int32)))) (fun h => by rw [Bd.returns] at h; cases h) Bd.notSynchronized (fun fs hr => retOut X66 hx (t := .boolean) Bd.returns rfl (by first | exact Or.inl ⟨rfl, by simp, _, rfl⟩) (Jvm.hb hby d4_23) hr) ?_ (by decide) (by decide)
    show own_Q4 Z zs zx zw znw zf h0 n0 (some (.int (1 : Int32))) T66.heap _
    rw [e66]
    exact ⟨(by unfold own_con own_bt; rw [if_neg hc15_67]), N0, rfl⟩
theorem own_rem (p n r : Int32) (h : r = (p &&& (2147483647 : Int32)) % n) (hn : 1 ≤ n.toInt) : 0 ≤ r.toInt ∧ r.toInt < n.toInt := by
  have h1 := c_and p 2147483647 (by decide)
  have h2 := (c_iremV (p &&& (2147483647 : Int32)) n).1 h1.1 (by omega)
  rw [h]; omega
theorem own_n (p n : Int32) (h : n = (1 : Int32) + (p &&& (8191 : Int32))) : 1 ≤ n.toInt ∧ n.toInt ≤ 8192 := by
  have h1 := c_and p 8191 (by decide)
  have h2 := c_iadd 1 (p &&& 8191)
  have e : (8191 : Int32).toInt = 8191 := rfl
  have e1 : (1 : Int32).toInt = 1 := rfl
  rw [← h, e1] at h2; rw [e] at h1
  have r := rng32 n
  omega
theorem own_sort (a b n : Int32) (ha : 0 ≤ a.toInt ∧ a.toInt < n.toInt) (hb : 0 ≤ b.toInt ∧ b.toInt < n.toInt) : ∃ x y : Int32, 0 ≤ x.toInt ∧ x.toInt ≤ y.toInt ∧ y.toInt < n.toInt ∧ ((x = a ∧ y = b) ∨ (x = b ∧ y = a)) ∧ own_f10 a b = x ∧ own_f11 a b = y ∧ (∀ i, own_w2 a b i = own_w2 x y i) ∧ (∀ i, own_w2 (a / (64 : Int32)) (b / (64 : Int32)) i = own_w2 (x / (64 : Int32)) (y / (64 : Int32)) i) := by
  by_cases c : b.toInt < a.toInt
  · refine ⟨b, a, hb.1, by omega, ha.2, Or.inr ⟨rfl, rfl⟩, ?_, ?_, fun i => own_w2_comm _ _ i, fun i => own_w2_comm _ _ i⟩
    · unfold own_f10; rw [if_pos (by rw [Int32.lt_iff_toInt_lt]; exact c)]
    · unfold own_f11; rw [if_neg (by rw [Int32.lt_iff_toInt_lt]; omega)]
  · refine ⟨a, b, ha.1, by omega, hb.2, Or.inl ⟨rfl, rfl⟩, ?_, ?_, fun i => rfl, fun i => rfl⟩
    · unfold own_f10; rw [if_neg (by rw [Int32.lt_iff_toInt_lt]; exact c)]
    · unfold own_f11
      by_cases d : a < b
      · rw [if_pos d]
      · rw [if_neg d]; rw [Int32.lt_iff_toInt_lt] at d; exact Int32.toInt_inj.mp (by omega)
theorem own_L (n : Int32) (hn : 1 ≤ n.toInt ∧ n.toInt ≤ 8192) : (own_lw n).toNatClampNeg.toInt32 = own_lw n ∧ (own_lw (own_lw n)).toNatClampNeg.toInt32 = own_lw (own_lw n) ∧ (((own_lw (own_lw n)).toNatClampNeg : Nat) : Int) = (own_lw (own_lw n)).toInt ∧ (own_lw (own_lw n)).toInt ≤ 2 ∧ (own_lw (own_lw n)).toInt = ((own_lw n).toInt + 63) / 64 ∧ (0 : Int32).toInt / 64 < (own_lw (own_lw n)).toInt ∧ (own_lw n).toInt ≤ 128 ∧ (own_lw n).toInt = (n.toInt + 63) / 64 := by
  have a := own_lw_int n (by omega)
  have b := own_lw_int (own_lw n) (by omega)
  have o : (0 : Int32).toInt = 0 := rfl
  refine ⟨(back32 (by rw [own_nn]; omega)).1, (back32 (by rw [own_nn]; omega)).1, by unfold Int32.toNatClampNeg; omega, by omega, b, by rw [o]; omega, by omega, a⟩
theorem own_B (x y n : Int32) (hx : 0 ≤ x.toInt) (hxy : x.toInt ≤ y.toInt) (hy : y.toInt < n.toInt) (hn : 1 ≤ n.toInt ∧ n.toInt ≤ 8192) :
    own_nw (0 : Int32) (own_lw n) (own_lw (own_lw n)) (own_w2 (x / (64 : Int32)) (y / (64 : Int32))) = (x / (64 : Int32)) ∧ ¬ ((x / (64 : Int32)) < (0 : Int32)) ∧ (x / (64 : Int32)).toInt < 128 ∧ (x / (64 : Int32)).toNatClampNeg < (own_lw n).toNatClampNeg ∧ own_ix (x / (64 : Int32)) < (own_lw (own_lw n)).toNatClampNeg := by
  obtain ⟨l1, l2, l3, l4, l5, l6, l7, l8⟩ := own_L n hn
  have d1 := own_d64 x hx; have d2 := own_d64 y (by omega)
  have o : (0 : Int32).toInt = 0 := rfl
  have i1 := own_ix_int (x / (64 : Int32)) (by omega)
  refine ⟨?_, by rw [own_nn]; omega, by omega, by unfold Int32.toNatClampNeg; omega, by omega⟩
  rw [own_nws (x / (64 : Int32)) (y / (64 : Int32)) 0 (own_lw n) (own_lw (own_lw n)) _ (by omega) (by omega) (by omega) l7 l5 (by rw [o]; omega) (fun i _ => rfl), if_pos (by rw [o]; omega)]
theorem own_B2 (x y n : Int32) (hx : 0 ≤ x.toInt) (hxy : x.toInt ≤ y.toInt) (hy : y.toInt < n.toInt) (hn : 1 ≤ n.toInt ∧ n.toInt ≤ 8192) :
    (¬ ((x / (64 : Int32)) = (y / (64 : Int32))) → own_nw ((x / (64 : Int32)) + (1 : Int32)) (own_lw n) (own_lw (own_lw n)) (own_w2 (x / (64 : Int32)) (y / (64 : Int32))) = (y / (64 : Int32))) ∧ own_nw ((y / (64 : Int32)) + (1 : Int32)) (own_lw n) (own_lw (own_lw n)) (own_w2 (x / (64 : Int32)) (y / (64 : Int32))) = (-1 : Int32) := by
  obtain ⟨l1, l2, l3, l4, l5, l6, l7, l8⟩ := own_L n hn
  have d1 := own_d64 x hx; have d2 := own_d64 y (by omega)
  have o1 : (1 : Int32).toInt = 1 := rfl
  have s1 := c_iadd (x / (64 : Int32)) 1; have s2 := c_iadd (y / (64 : Int32)) 1
  have r1 := rng32 ((x / (64 : Int32)) + 1); have r2 := rng32 ((y / (64 : Int32)) + 1)
  rw [o1] at s1 s2
  refine ⟨fun hne => ?_, ?_⟩
  · have hne' : ¬ ((x / (64 : Int32)).toInt = (y / (64 : Int32)).toInt) := fun z => hne (Int32.toInt_inj.mp z)
    rw [own_nws (x / (64 : Int32)) (y / (64 : Int32)) _ (own_lw n) (own_lw (own_lw n)) _ (by omega) (by omega) (by omega) l7 l5 (by omega) (fun i _ => rfl), if_neg (by omega), if_pos (by omega)]
  · rw [own_nws (x / (64 : Int32)) (y / (64 : Int32)) _ (own_lw n) (own_lw (own_lw n)) _ (by omega) (by omega) (by omega) l7 l5 (by omega) (fun i _ => rfl), if_neg (by omega), if_neg (by omega)]
theorem own_B0 (n : Int32) (hn : 1 ≤ n.toInt ∧ n.toInt ≤ 8192) : own_nw (0 : Int32) (own_lw n) (own_lw (own_lw n)) (fun _ => 0) = (-1 : Int32) := by
  obtain ⟨l1, l2, l3, l4, l5, l6, l7, l8⟩ := own_L n hn
  exact own_nwe 0 _ _ _ l5 l7 (by decide) (fun i _ => rfl)
theorem own_z0 (x : Int32) : (0 : Int32) + x = x := by apply Int32.toBitVec_inj.mp; rw [Int32.toBitVec_add]; simp
theorem own_s1 (x : Int32) : ((0 : Int32) + (own_bc (own_w2 x x (x / (64 : Int32)).toNatClampNeg))) = (1 : Int32) := by
  have e : (x / (64 : Int32)).toNatClampNeg = own_ix x := rfl
  rw [own_z0, e]; unfold own_w2
  rw [if_pos rfl, if_pos rfl, own_bc_two _ _ (own_kx_lt x) (own_kx_lt x), if_pos rfl]
theorem own_s2 (x y : Int32) (hx : 0 ≤ x.toInt) (hy : 0 ≤ y.toInt) (hne : ¬ (x = y)) (hw : (x / (64 : Int32)) = (y / (64 : Int32))) : ((0 : Int32) + (own_bc (own_w2 x y (x / (64 : Int32)).toNatClampNeg))) = (2 : Int32) := by
  have e : (x / (64 : Int32)).toNatClampNeg = own_ix x := rfl
  have e2 : own_ix y = own_ix x := by unfold own_ix; rw [hw]
  have k : ¬ (own_kx x = own_kx y) := fun z => hne (own_same x y hx hy e2.symm z)
  rw [own_z0, e]; unfold own_w2
  rw [if_pos rfl, if_pos e2, own_bc_two _ _ (own_kx_lt x) (own_kx_lt y), if_neg k]
theorem own_ixne (x y : Int32) (hx : 0 ≤ x.toInt) (hy : 0 ≤ y.toInt) (hw : ¬ ((x / (64 : Int32)) = (y / (64 : Int32)))) : ¬ (own_ix x = own_ix y) := by
  intro z
  have a := own_ix_int x hx; have b := own_ix_int y hy; have c := own_d64 x hx; have d := own_d64 y hy
  exact hw (Int32.toInt_inj.mp (by omega))
theorem own_s3 (x y : Int32) (hx : 0 ≤ x.toInt) (hy : 0 ≤ y.toInt) (hw : ¬ ((x / (64 : Int32)) = (y / (64 : Int32)))) : (((0 : Int32) + (own_bc (own_w2 x y (x / (64 : Int32)).toNatClampNeg))) + (own_bc (own_w2 x y (y / (64 : Int32)).toNatClampNeg))) = (2 : Int32) := by
  have e : (x / (64 : Int32)).toNatClampNeg = own_ix x := rfl
  have e' : (y / (64 : Int32)).toNatClampNeg = own_ix y := rfl
  have k := own_ixne x y hx hy hw
  have k' : ¬ (own_ix y = own_ix x) := fun z => k z.symm
  rw [own_z0, e, e']; unfold own_w2
  rw [if_pos rfl, if_neg k', if_neg k, if_pos rfl, own_bc_two _ _ (own_kx_lt x) (own_kx_lt x), own_bc_two _ _ (own_kx_lt y) (own_kx_lt y), if_pos rfl, if_pos rfl]
  rfl
theorem own_tv (x y : Int32) (hx : 0 ≤ x.toInt) (hxy : x.toInt ≤ y.toInt) (hb : x.toInt < 8192) : (((64 : Int32) * (x / (64 : Int32))) + (own_f7 (own_f13 (own_w2 x y (x / (64 : Int32)).toNatClampNeg)))) = x := by
  have e : (x / (64 : Int32)).toNatClampNeg = own_ix x := rfl
  rw [e, own_low x y hx hxy, ← own_two_self, own_ntz_two _ _ (own_kx_lt x) (own_kx_lt x), Nat.min_self]
  have kk := own_kx_lt x
  have k := own_of (own_kx x) (by omega)
  have a3 := own_kx_int x hx
  have d := own_d64 x hx
  have m := c_imul 64 (x / (64 : Int32))
  have o : (64 : Int32).toInt = 64 := rfl
  rw [o] at m
  have r := rng32 (64 * (x / (64 : Int32)))
  have a := c_iadd (64 * (x / (64 : Int32))) (Int32.ofNat (own_kx x))
  have r2 := rng32 (64 * (x / (64 : Int32)) + Int32.ofNat (own_kx x))
  apply Int32.toInt_inj.mp; omega
/-- the words and the occupied ones behind 'take' -/
def own_tw (f : Nat → Int64) (w : Int32) : Nat → Int64 := own_upd f w.toNatClampNeg (f w.toNatClampNeg &&& ((own_f13 (f w.toNatClampNeg)) ^^^ (-1 : Int64)))
theorem own_tw2 (x y : Int32) (hx : 0 ≤ x.toInt) (hxy : x.toInt < y.toInt) (i : Nat) : own_tw (own_w2 x y) (x / (64 : Int32)) i = own_w2 y y i := by
  have e : (x / (64 : Int32)).toNatClampNeg = own_ix x := rfl
  unfold own_tw; rw [e, own_low x y hx (by omega)]; exact own_t2 x y hx hxy i
theorem own_tw1 (x : Int32) (hx : 0 ≤ x.toInt) (i : Nat) : own_tw (own_w2 x x) (x / (64 : Int32)) i = 0 := by
  have e : (x / (64 : Int32)).toNatClampNeg = own_ix x := rfl
  unfold own_tw; rw [e, own_low x x hx (by omega)]; exact own_t1 x i
def own_tg (f g : Nat → Int64) (w : Int32) : Nat → Int64 := if own_tw f w w.toNatClampNeg = (0 : Int64) then own_upd g (own_ix w) (g (own_ix w) &&& (own_bt w ^^^ (-1 : Int64))) else g
theorem own_tg1 (x : Int32) (hx : 0 ≤ x.toInt) (i : Nat) : own_tg (own_w2 x x) (own_w2 (x / (64 : Int32)) (x / (64 : Int32))) (x / (64 : Int32)) i = 0 := by
  unfold own_tg
  rw [if_pos (own_tw1 x hx _)]
  exact own_t1 (x / (64 : Int32)) i
theorem own_tg2 (x y : Int32) (hx : 0 ≤ x.toInt) (hxy : x.toInt < y.toInt) (hw : (x / (64 : Int32)) = (y / (64 : Int32))) (i : Nat) : own_tg (own_w2 x y) (own_w2 (x / (64 : Int32)) (x / (64 : Int32))) (x / (64 : Int32)) i = own_w2 (y / (64 : Int32)) (y / (64 : Int32)) i := by
  unfold own_tg
  have e : (x / (64 : Int32)).toNatClampNeg = own_ix y := by unfold own_ix; rw [hw]
  rw [if_neg (by rw [own_tw2 x y hx hxy, e]; unfold own_w2; rw [if_pos rfl, if_pos rfl]; exact own_two_ne _ _ (own_kx_lt y) (own_kx_lt y)), hw]
theorem own_tg3 (x y : Int32) (hx : 0 ≤ x.toInt) (hxy : x.toInt < y.toInt) (hw : ¬ ((x / (64 : Int32)) = (y / (64 : Int32)))) (i : Nat) : own_tg (own_w2 x y) (own_w2 (x / (64 : Int32)) (y / (64 : Int32))) (x / (64 : Int32)) i = own_w2 (y / (64 : Int32)) (y / (64 : Int32)) i := by
  have d1 := own_d64 x hx; have d2 := own_d64 y (by omega)
  have hw' : ¬ ((x / (64 : Int32)).toInt = (y / (64 : Int32)).toInt) := fun z => hw (Int32.toInt_inj.mp z)
  have k := own_ixne x y hx (by omega) hw
  have e : (x / (64 : Int32)).toNatClampNeg = own_ix x := rfl
  unfold own_tg
  rw [if_pos (by rw [own_tw2 x y hx hxy, e]; unfold own_w2; rw [if_neg (fun z => k z.symm), if_neg (fun z => k z.symm)])]
  exact own_t2 (x / (64 : Int32)) (y / (64 : Int32)) (by omega) (by omega) i
theorem own_conv (f : Nat → Int64) (z : Int32) : (own_con f z = (0 : Int32) ↔ ¬ own_has f z) ∧ (own_has f z → own_con f z = (1 : Int32)) := by
  unfold own_con own_has
  by_cases c : (f (own_ix z) &&& own_bt z) = (0 : Int64)
  · rw [if_pos c]; simp [c]
  · rw [if_neg c]; simp [c]
theorem pn_com_example_netloom_netloom_embed_NodeSetAddPinLaw : plainName "com/example/netloom/netloom/embed/NodeSetAddPinLaw" = true := by first | (simp [plainName, overriddenIn]; done) | decide +kernel
theorem pd_4 : parseMethodDescriptor "(I)V" = some ⟨[.int], none⟩ := by decide +kernel
theorem pd_5 : parseMethodDescriptor "(I)Z" = some ⟨[.int], some .boolean⟩ := by decide +kernel
theorem pd_6 : parseMethodDescriptor "()I" = some ⟨[], some .int⟩ := by decide +kernel
theorem pd_7 : parseMethodDescriptor "(II)I" = some ⟨[.int, .int], some .int⟩ := by decide +kernel
theorem ef_0 (m : MethodId) (x0 : Int32) (x1 : Int32) (x2 : Int32) (x3 : Int32) : entryFrame m #[(.int x0), (.int x1), (.int x2), (.int x3)] maxLocals = mkF m 0 #[.val (.int x0), .val (.int x1), .val (.int x2), .val (.int x3), .unset, .unset, .unset, .unset, .unset, .unset, .unset, .unset] [] := by first | (simp [entryFrame, mkF, argsToLocals, Value.category, maxLocals]; done) | rfl
def own_Q0 (Z : State) (p1 : Int32) (p2 : Int32) (p3 : Int32) (p4 : Int32) (h0 : Heap) (n0 : Nat) (v : Option Value) (h : Heap) (L : List Loc) : Prop := v = some (.int 1) ∧ Fr n0 L
set_option maxRecDepth 65536 in
set_option maxHeartbeats 40000000 in
theorem rm0 (l : Launch) (Z : State) (a0 : Array Value) (hw : ∀ d ∈ tables_1, d.before a0 Z = true) (ws : List Jvm.Cond) (p1 : Int32) (p2 : Int32) (p3 : Int32) (p4 : Int32) (h0 : Heap) (n0 : Nat) (Z0 : n0 ≤ h0.size)  :
    MetFree l x (head1 (Jvm.Cond.code x code maxLocals ret :: ws) room_1) (fun a U => a = #[(.int p1), (.int p2), (.int p3), (.int p4)] ∧ Z.Warmed39 U.vm ∧ U.heap = h0) (fun _ _ _ _ _ => True) (fun _ U o U' => ∃ v L, o = .returned v ∧ own_Q0 Z p1 p2 p3 p4 h0 n0 v U'.heap L ∧ FrameEnd U o U' L room_1.cells room_1.slots) := by
  refine MetFree.of_bodySF (plainFor_of_name pn_com_example_netloom_netloom_embed_NodeSetAddPinLaw) hisR ?_
  intro p e s m args below meth c s₁ Bd hml0 hP hK
  obtain ⟨rfl, hZ, hh⟩ := hP
  have hx := Bd.exec
  have hby := Bd.bytes
  have hml : c.maxLocals = 12 := hml0
  have hown : s.vm.findClass "com/example/netloom/netloom/embed/NodeSetAddPinLaw" = some m.cls := findClass_of_methodNamed Bd.named
  have hnm := (name_of_methodNamed Bd.named Bd.method).1
  have X0 : Stand p l e room_1 s m #[(.int p1), (.int p2), (.int p3), (.int p4)] below meth c s₁ [] 0 0 := Stand.of_body Bd
  have e0 : s₁.heap = h0 := by rw [← hh, Bd.state]; rfl
  have N0 := Fr.nil n0
  have Zs := Z0
  show own_Goes p e below s (own_Q0 Z p1 p2 p3 p4 h0 n0) room_1.cells room_1.slots _
  refine own_go (B := s₁.setTop (mkF m 0 #[.val (.int p1), .val (.int p2), .val (.int p3), .val (.int p4), .unset, .unset, .unset, .unset, .unset, .unset, .unset, .unset] [])) (fun t k => castTop (ef_0 m p1 p2 p3 p4) k) ?_
  refine own_go (B := s₁.setTop (mkF m 1 #[.val (.int p1), .val (.int p2), .val (.int p3), .val (.int p4), .unset, .unset, .unset, .unset, .unset, .unset, .unset, .unset] [(.int (1 : Int32))])) (fun t k => XS.iconst X0.here hx rfl (Jvm.hb hby at_0) k) ?_
  refine own_go (B := s₁.setTop (mkF m 2 #[.val (.int p1), .val (.int p2), .val (.int p3), .val (.int p4), .unset, .unset, .unset, .unset, .unset, .unset, .unset, .unset] [(.int p1), (.int (1 : Int32))])) (fun t k => XS.iloadN X0.here hx rfl (Jvm.hb hby at_1) rfl k) ?_
  refine own_go (B := s₁.setTop (mkF m 5 #[.val (.int p1), .val (.int p2), .val (.int p3), .val (.int p4), .unset, .unset, .unset, .unset, .unset, .unset, .unset, .unset] [(.int (8191 : Int32)), (.int p1), (.int (1 : Int32))])) (fun t k => XS.sipush X0.here hx rfl (Jvm.hb hby at_2) k) ?_
  refine own_go (B := s₁.setTop (mkF m 6 #[.val (.int p1), .val (.int p2), .val (.int p3), .val (.int p4), .unset, .unset, .unset, .unset, .unset, .unset, .unset, .unset] [(.int (p1 &&& (8191 : Int32))), (.int (1 : Int32))])) (fun t k => XS.iand X0.here hx rfl (Jvm.hb hby at_5) rfl k) ?_
  refine own_go (B := s₁.setTop (mkF m 7 #[.val (.int p1), .val (.int p2), .val (.int p3), .val (.int p4), .unset, .unset, .unset, .unset, .unset, .unset, .unset, .unset] [(.int ((1 : Int32) + (p1 &&& (8191 : Int32))))])) (fun t k => XS.iadd X0.here hx rfl (Jvm.hb hby at_6) rfl k) ?_
  obtain ⟨vn, hvn⟩ : ∃ z : Int32, z = ((1 : Int32) + (p1 &&& (8191 : Int32))) := ⟨_, rfl⟩
  rw [← hvn]
  have hvnr := own_n _ vn hvn
  have hvn0 : vn ≠ 0 := by intro z; rw [z] at hvnr; exact absurd hvnr.1 (by decide)
  refine own_go (B := s₁.setTop (mkF m 9 #[.val (.int p1), .val (.int p2), .val (.int p3), .val (.int p4), .val (.int vn), .unset, .unset, .unset, .unset, .unset, .unset, .unset] [])) (fun t k => XS.istore X0.here hx rfl (Jvm.hb hby at_7) rfl (l' := #[.val (.int p1), .val (.int p2), .val (.int p3), .val (.int p4), .val (.int vn), .unset, .unset, .unset, .unset, .unset, .unset, .unset]) rfl k) ?_
  refine own_go (B := s₁.setTop (mkF m 10 #[.val (.int p1), .val (.int p2), .val (.int p3), .val (.int p4), .val (.int vn), .unset, .unset, .unset, .unset, .unset, .unset, .unset] [(.int p2)])) (fun t k => XS.iloadN X0.here hx rfl (Jvm.hb hby at_9) rfl k) ?_
  refine own_go (B := s₁.setTop (mkF m 12 #[.val (.int p1), .val (.int p2), .val (.int p3), .val (.int p4), .val (.int vn), .unset, .unset, .unset, .unset, .unset, .unset, .unset] [(.int (2147483647 : Int32)), (.int p2)])) (fun t k => X0.ldcInt hx hown (mvT hZ (own_w hw 0 rfl)) (g := (mkF m 10 #[.val (.int p1), .val (.int p2), .val (.int p3), .val (.int p4), .val (.int vn), .unset, .unset, .unset, .unset, .unset, .unset, .unset] [(.int p2)])) rfl (Jvm.hb hby at_10) _ k) ?_
  refine own_go (B := s₁.setTop (mkF m 13 #[.val (.int p1), .val (.int p2), .val (.int p3), .val (.int p4), .val (.int vn), .unset, .unset, .unset, .unset, .unset, .unset, .unset] [(.int (p2 &&& (2147483647 : Int32)))])) (fun t k => XS.iand X0.here hx rfl (Jvm.hb hby at_12) rfl k) ?_
  refine own_go (B := s₁.setTop (mkF m 15 #[.val (.int p1), .val (.int p2), .val (.int p3), .val (.int p4), .val (.int vn), .unset, .unset, .unset, .unset, .unset, .unset, .unset] [(.int vn), (.int (p2 &&& (2147483647 : Int32)))])) (fun t k => XS.iload X0.here hx rfl (Jvm.hb hby at_13) rfl k) ?_
  refine own_go (B := s₁.setTop (mkF m 16 #[.val (.int p1), .val (.int p2), .val (.int p3), .val (.int p4), .val (.int vn), .unset, .unset, .unset, .unset, .unset, .unset, .unset] [(.int ((p2 &&& (2147483647 : Int32)) % vn))])) (fun t k => own_irem X0.here hx rfl (Jvm.hb hby at_15) rfl hvn0 k) ?_
  obtain ⟨va, hva⟩ : ∃ z : Int32, z = ((p2 &&& (2147483647 : Int32)) % vn) := ⟨_, rfl⟩
  rw [← hva]
  have hvar := own_rem _ vn va hva hvnr.1
  refine own_go (B := s₁.setTop (mkF m 18 #[.val (.int p1), .val (.int p2), .val (.int p3), .val (.int p4), .val (.int vn), .val (.int va), .unset, .unset, .unset, .unset, .unset, .unset] [])) (fun t k => XS.istore X0.here hx rfl (Jvm.hb hby at_16) rfl (l' := #[.val (.int p1), .val (.int p2), .val (.int p3), .val (.int p4), .val (.int vn), .val (.int va), .unset, .unset, .unset, .unset, .unset, .unset]) rfl k) ?_
  refine own_go (B := s₁.setTop (mkF m 19 #[.val (.int p1), .val (.int p2), .val (.int p3), .val (.int p4), .val (.int vn), .val (.int va), .unset, .unset, .unset, .unset, .unset, .unset] [(.int p3)])) (fun t k => XS.iloadN X0.here hx rfl (Jvm.hb hby at_18) rfl k) ?_
  refine own_go (B := s₁.setTop (mkF m 21 #[.val (.int p1), .val (.int p2), .val (.int p3), .val (.int p4), .val (.int vn), .val (.int va), .unset, .unset, .unset, .unset, .unset, .unset] [(.int (2147483647 : Int32)), (.int p3)])) (fun t k => X0.ldcInt hx hown (mvT hZ (own_w hw 0 rfl)) (g := (mkF m 19 #[.val (.int p1), .val (.int p2), .val (.int p3), .val (.int p4), .val (.int vn), .val (.int va), .unset, .unset, .unset, .unset, .unset, .unset] [(.int p3)])) rfl (Jvm.hb hby at_19) _ k) ?_
  refine own_go (B := s₁.setTop (mkF m 22 #[.val (.int p1), .val (.int p2), .val (.int p3), .val (.int p4), .val (.int vn), .val (.int va), .unset, .unset, .unset, .unset, .unset, .unset] [(.int (p3 &&& (2147483647 : Int32)))])) (fun t k => XS.iand X0.here hx rfl (Jvm.hb hby at_21) rfl k) ?_
  refine own_go (B := s₁.setTop (mkF m 24 #[.val (.int p1), .val (.int p2), .val (.int p3), .val (.int p4), .val (.int vn), .val (.int va), .unset, .unset, .unset, .unset, .unset, .unset] [(.int vn), (.int (p3 &&& (2147483647 : Int32)))])) (fun t k => XS.iload X0.here hx rfl (Jvm.hb hby at_22) rfl k) ?_
  refine own_go (B := s₁.setTop (mkF m 25 #[.val (.int p1), .val (.int p2), .val (.int p3), .val (.int p4), .val (.int vn), .val (.int va), .unset, .unset, .unset, .unset, .unset, .unset] [(.int ((p3 &&& (2147483647 : Int32)) % vn))])) (fun t k => own_irem X0.here hx rfl (Jvm.hb hby at_24) rfl hvn0 k) ?_
  obtain ⟨vb, hvb⟩ : ∃ z : Int32, z = ((p3 &&& (2147483647 : Int32)) % vn) := ⟨_, rfl⟩
  rw [← hvb]
  have hvbr := own_rem _ vn vb hvb hvnr.1
  refine own_go (B := s₁.setTop (mkF m 27 #[.val (.int p1), .val (.int p2), .val (.int p3), .val (.int p4), .val (.int vn), .val (.int va), .val (.int vb), .unset, .unset, .unset, .unset, .unset] [])) (fun t k => XS.istore X0.here hx rfl (Jvm.hb hby at_25) rfl (l' := #[.val (.int p1), .val (.int p2), .val (.int p3), .val (.int p4), .val (.int vn), .val (.int va), .val (.int vb), .unset, .unset, .unset, .unset, .unset]) rfl k) ?_
  refine own_go (B := s₁.setTop (mkF m 28 #[.val (.int p1), .val (.int p2), .val (.int p3), .val (.int p4), .val (.int vn), .val (.int va), .val (.int vb), .unset, .unset, .unset, .unset, .unset] [(.int p4)])) (fun t k => XS.iloadN X0.here hx rfl (Jvm.hb hby at_27) rfl k) ?_
  refine own_go (B := s₁.setTop (mkF m 30 #[.val (.int p1), .val (.int p2), .val (.int p3), .val (.int p4), .val (.int vn), .val (.int va), .val (.int vb), .unset, .unset, .unset, .unset, .unset] [(.int (2147483647 : Int32)), (.int p4)])) (fun t k => X0.ldcInt hx hown (mvT hZ (own_w hw 0 rfl)) (g := (mkF m 28 #[.val (.int p1), .val (.int p2), .val (.int p3), .val (.int p4), .val (.int vn), .val (.int va), .val (.int vb), .unset, .unset, .unset, .unset, .unset] [(.int p4)])) rfl (Jvm.hb hby at_28) _ k) ?_
  refine own_go (B := s₁.setTop (mkF m 31 #[.val (.int p1), .val (.int p2), .val (.int p3), .val (.int p4), .val (.int vn), .val (.int va), .val (.int vb), .unset, .unset, .unset, .unset, .unset] [(.int (p4 &&& (2147483647 : Int32)))])) (fun t k => XS.iand X0.here hx rfl (Jvm.hb hby at_30) rfl k) ?_
  refine own_go (B := s₁.setTop (mkF m 33 #[.val (.int p1), .val (.int p2), .val (.int p3), .val (.int p4), .val (.int vn), .val (.int va), .val (.int vb), .unset, .unset, .unset, .unset, .unset] [(.int vn), (.int (p4 &&& (2147483647 : Int32)))])) (fun t k => XS.iload X0.here hx rfl (Jvm.hb hby at_31) rfl k) ?_
  refine own_go (B := s₁.setTop (mkF m 34 #[.val (.int p1), .val (.int p2), .val (.int p3), .val (.int p4), .val (.int vn), .val (.int va), .val (.int vb), .unset, .unset, .unset, .unset, .unset] [(.int ((p4 &&& (2147483647 : Int32)) % vn))])) (fun t k => own_irem X0.here hx rfl (Jvm.hb hby at_33) rfl hvn0 k) ?_
  obtain ⟨vc, hvc⟩ : ∃ z : Int32, z = ((p4 &&& (2147483647 : Int32)) % vn) := ⟨_, rfl⟩
  rw [← hvc]
  have hvcr := own_rem _ vn vc hvc hvnr.1
  refine own_go (B := s₁.setTop (mkF m 36 #[.val (.int p1), .val (.int p2), .val (.int p3), .val (.int p4), .val (.int vn), .val (.int va), .val (.int vb), .val (.int vc), .unset, .unset, .unset, .unset] [])) (fun t k => XS.istore X0.here hx rfl (Jvm.hb hby at_34) rfl (l' := #[.val (.int p1), .val (.int p2), .val (.int p3), .val (.int p4), .val (.int vn), .val (.int va), .val (.int vb), .val (.int vc), .unset, .unset, .unset, .unset]) rfl k) ?_
  obtain ⟨T68, h68, X68, e68, E68, A68, D68, -, st68⟩ := newO X0 hx hZ hown (own_w hw 1 rfl) (own_w hw 2 rfl) (own_w hw 3 rfl) e0 (g := (mkF m 36 #[.val (.int p1), .val (.int p2), .val (.int p3), .val (.int p4), .val (.int vn), .val (.int va), .val (.int vb), .val (.int vc), .unset, .unset, .unset, .unset] [])) rfl (Jvm.hb hby at_36) (by decide) (by decide)
  obtain ⟨b68, g68⟩ : ∃ z, z = h0.size := ⟨_, rfl⟩
  rw [← g68] at A68 D68 st68
  have g_b68 : n0 ≤ b68 := Nat.le_trans Zs (Nat.le_of_eq g68.symm)
  have Zs := Nat.le_trans Zs E68.1
  have E_b68 := A68
  have F_b68_words : Fld Z h68 b68 "com/example/netloom/netloom/embed/NodeSet" "words" "[J" .null := D68 (Or.inr (own_w hw 12 rfl)) (ty := (.array .long)) (by decide)
  have F_b68_occupied : Fld Z h68 b68 "com/example/netloom/netloom/embed/NodeSet" "occupied" "[J" .null := D68 (Or.inr (own_w hw 14 rfl)) (ty := (.array .long)) (by decide)
  refine own_go (B := T68.setTop (mkF m 39 #[.val (.int p1), .val (.int p2), .val (.int p3), .val (.int p4), .val (.int vn), .val (.int va), .val (.int vb), .val (.int vc), .unset, .unset, .unset, .unset] [(.ref b68)])) (fun t k => st68 _ k) ?_
  refine own_go (B := T68.setTop (mkF m 40 #[.val (.int p1), .val (.int p2), .val (.int p3), .val (.int p4), .val (.int vn), .val (.int va), .val (.int vb), .val (.int vc), .unset, .unset, .unset, .unset] [(.ref b68), (.ref b68)])) (fun t k => XS.dup X68.here hx rfl (Jvm.hb hby at_39) rfl rfl k) ?_
  refine own_go (B := T68.setTop (mkF m 42 #[.val (.int p1), .val (.int p2), .val (.int p3), .val (.int p4), .val (.int vn), .val (.int va), .val (.int vb), .val (.int vc), .unset, .unset, .unset, .unset] [(.int vn), (.ref b68), (.ref b68)])) (fun t k => XS.iload X68.here hx rfl (Jvm.hb hby at_40) rfl k) ?_
  obtain ⟨_, _, ⟨T69, La69, ka69, na69⟩, -, X69, ⟨Lc69, hQ69, l69, y69, z69⟩, st69⟩ := X68.specialBack hx (y := (⟨"com/example/netloom/netloom/embed/NodeSet", "<init>", "(I)V"⟩ : MethodName)) rfl hown (mvT hZ (own_w hw 4 rfl)) (mvT hZ (own_w hw 5 rfl)) (mvT hZ (own_w hw 6 rfl)) (by decide) (backOf (W := 1) (rm1 l Z a0 hw [] b68 vn h68 n0 Zs E_b68 F_b68_words F_b68_occupied g_b68 hvnr) hZ (own_w hw 6 rfl) (own_w hw 3 rfl) (by decide) (by decide)) (g := (mkF m 42 #[.val (.int p1), .val (.int p2), .val (.int p3), .val (.int p4), .val (.int vn), .val (.int va), .val (.int vb), .val (.int vc), .unset, .unset, .unset, .unset] [(.int vn), (.ref b68), (.ref b68)])) rfl (by rw [hml]; rfl) (Steps.refl _) (a := b68) (argsL := [(.int vn)]) (rest := [(.ref b68)]) (lenOf pd_4 rfl) rfl (by show 2 * 0 + _ ≤ _; exact Nat.le_of_eq rfl) (Jvm.hb hby at_42) (fun _ _ => ⟨rfl, e68, (by decide : 1 + 2 ≤ _), (by decide : 2 + 130 ≤ _)⟩)
  dsimp only [Pt.U, Pt.locs, Pt.cells, Pt.slots] at X69 l69 y69 z69 st69 hQ69
  subst l69 y69 z69
  obtain ⟨rfl, N69q, b70, sq_b70, b71, sq_b71, ne_b70_b71, Kc69, E_b68_q, F_b68_words_q, F_b68_occupied_q, V_b70_q, V_b71_q⟩ := hQ69
  have g_b70 : n0 ≤ b70 := Nat.le_trans Zs sq_b70
  have ne_b68_b70 : b68 ≠ b70 := Nat.ne_of_lt (Nat.lt_of_lt_of_le E_b68.lt sq_b70)
  have g_b71 : n0 ≤ b71 := Nat.le_trans Zs sq_b71
  have ne_b68_b71 : b68 ≠ b71 := Nat.ne_of_lt (Nat.lt_of_lt_of_le E_b68.lt sq_b71)
  have N69 := Fr.app N0 N69q
  have Zs := Nat.le_trans Zs Kc69.1
  have E_b68 := E_b68_q
  have F_b68_words := F_b68_words_q
  have F_b68_occupied := F_b68_occupied_q
  have V_b70 := V_b70_q
  have V_b71 := V_b71_q
  refine own_go (B := T69.setTop (mkF m 45 #[.val (.int p1), .val (.int p2), .val (.int p3), .val (.int p4), .val (.int vn), .val (.int va), .val (.int vb), .val (.int vc), .unset, .unset, .unset, .unset] [(.ref b68)])) (fun t k => own_st st69 k) ?_
  refine own_go (B := T69.setTop (mkF m 47 #[.val (.int p1), .val (.int p2), .val (.int p3), .val (.int p4), .val (.int vn), .val (.int va), .val (.int vb), .val (.int vc), .val (.ref b68), .unset, .unset, .unset] [])) (fun t k => XS.astore X69.here hx rfl (Jvm.hb hby at_45) rfl rfl (l' := #[.val (.int p1), .val (.int p2), .val (.int p3), .val (.int p4), .val (.int vn), .val (.int va), .val (.int vb), .val (.int vc), .val (.ref b68), .unset, .unset, .unset]) rfl k) ?_
  refine own_go (B := T69.setTop (mkF m 49 #[.val (.int p1), .val (.int p2), .val (.int p3), .val (.int p4), .val (.int vn), .val (.int va), .val (.int vb), .val (.int vc), .val (.ref b68), .unset, .unset, .unset] [(.ref b68)])) (fun t k => XS.aload X69.here hx rfl (Jvm.hb hby at_47) rfl rfl k) ?_
  refine own_go (B := T69.setTop (mkF m 51 #[.val (.int p1), .val (.int p2), .val (.int p3), .val (.int p4), .val (.int vn), .val (.int va), .val (.int vb), .val (.int vc), .val (.ref b68), .unset, .unset, .unset] [(.int va), (.ref b68)])) (fun t k => XS.iload X69.here hx rfl (Jvm.hb hby at_49) rfl k) ?_
  obtain ⟨cq72, kq72, q72a, q72b, q72c⟩ := isOf hZ rfl E_b68
  obtain ⟨_, _, ⟨T72, La72, ka72, na72⟩, -, X72, ⟨Lc72, hQ72, l72, y72, z72⟩, st72⟩ := X69.virtualBack hx (y := (⟨"com/example/netloom/netloom/embed/NodeSet", "add", "(I)V"⟩ : MethodName)) (z := (⟨"com/example/netloom/netloom/embed/NodeSet", "add", "(I)V"⟩ : MethodName)) hown (mvT hZ (own_w hw 15 rfl)) (mvT hZ (own_w hw 16 rfl)) (notFace_of_selects (args := #[]) (mvT hZ (own_w hw 18 rfl))) (mvT hZ (own_w hw 18 rfl)) (mvT hZ (own_w hw 17 rfl)) (by decide) (backOf (W := 0) (rm3 l Z a0 hw [] b68 va b70 b71 (own_lw vn).toNatClampNeg (own_lw (own_lw vn)).toNatClampNeg (fun _ => 0) (fun _ => 0) T69.heap n0 Zs E_b68 F_b68_words F_b68_occupied V_b70 V_b71 g_b70 g_b71 ne_b68_b70 ne_b68_b71 ne_b70_b71 (own_in1 _ _ hvar (by omega)).1 (own_in1 _ _ hvar (by omega)).2.1 (own_in1 _ _ hvar (by omega)).2.2) hZ (own_w hw 19 rfl) (own_w hw 3 rfl) (by decide) (by decide)) q72a q72c (g := (mkF m 51 #[.val (.int p1), .val (.int p2), .val (.int p3), .val (.int p4), .val (.int vn), .val (.int va), .val (.int vb), .val (.int vc), .val (.ref b68), .unset, .unset, .unset] [(.int va), (.ref b68)])) rfl (by rw [hml]; rfl) (Steps.refl _) (argsL := [(.int va)]) (rest := []) (lenOf pd_4 rfl) rfl (by show 2 * 0 + _ ≤ _; exact Nat.le_of_eq rfl) (Jvm.hb hby at_51) (fun _ _ => ⟨rfl, rfl, (by decide : 3 + 0 ≤ _), (by decide : 132 + 0 ≤ _)⟩)
  dsimp only [Pt.U, Pt.locs, Pt.cells, Pt.slots] at X72 l72 y72 z72 st72 hQ72
  subst l72 y72 z72
  obtain ⟨rfl, N72q, Kc72, V_b70_q, V_b71_q⟩ := hQ72
  have N72 := Fr.app N69 N72q
  have E_b68 := E_b68.keep Kc72
  have F_b68_words := F_b68_words.keep Kc72 (ninS ne_b68_b70 (ninS ne_b68_b71 nin0))
  have F_b68_occupied := F_b68_occupied.keep Kc72 (ninS ne_b68_b70 (ninS ne_b68_b71 nin0))
  have Zs := Nat.le_trans Zs Kc72.1
  have V_b70 := V_b70_q
  have V_b71 := V_b71_q
  refine own_go (B := T72.setTop (mkF m 54 #[.val (.int p1), .val (.int p2), .val (.int p3), .val (.int p4), .val (.int vn), .val (.int va), .val (.int vb), .val (.int vc), .val (.ref b68), .unset, .unset, .unset] [])) (fun t k => own_st st72 k) ?_
  refine own_go (B := T72.setTop (mkF m 56 #[.val (.int p1), .val (.int p2), .val (.int p3), .val (.int p4), .val (.int vn), .val (.int va), .val (.int vb), .val (.int vc), .val (.ref b68), .unset, .unset, .unset] [(.ref b68)])) (fun t k => XS.aload X72.here hx rfl (Jvm.hb hby at_54) rfl rfl k) ?_
  refine own_go (B := T72.setTop (mkF m 58 #[.val (.int p1), .val (.int p2), .val (.int p3), .val (.int p4), .val (.int vn), .val (.int va), .val (.int vb), .val (.int vc), .val (.ref b68), .unset, .unset, .unset] [(.int vb), (.ref b68)])) (fun t k => XS.iload X72.here hx rfl (Jvm.hb hby at_56) rfl k) ?_
  obtain ⟨cq73, kq73, q73a, q73b, q73c⟩ := isOf hZ rfl E_b68
  obtain ⟨_, _, ⟨T73, La73, ka73, na73⟩, -, X73, ⟨Lc73, hQ73, l73, y73, z73⟩, st73⟩ := X72.virtualBack hx (y := (⟨"com/example/netloom/netloom/embed/NodeSet", "add", "(I)V"⟩ : MethodName)) (z := (⟨"com/example/netloom/netloom/embed/NodeSet", "add", "(I)V"⟩ : MethodName)) hown (mvT hZ (own_w hw 15 rfl)) (mvT hZ (own_w hw 16 rfl)) (notFace_of_selects (args := #[]) (mvT hZ (own_w hw 18 rfl))) (mvT hZ (own_w hw 18 rfl)) (mvT hZ (own_w hw 17 rfl)) (by decide) (backOf (W := 0) (rm3 l Z a0 hw [] b68 vb b70 b71 (own_lw vn).toNatClampNeg (own_lw (own_lw vn)).toNatClampNeg (own_upd (fun _ => 0) (own_ix va) ((fun _ => 0) (own_ix va) ||| own_bt va)) (own_upd (fun _ => 0) (own_ix (va / (64 : Int32))) ((fun _ => 0) (own_ix (va / (64 : Int32))) ||| own_bt (va / (64 : Int32)))) T72.heap n0 Zs E_b68 F_b68_words F_b68_occupied V_b70 V_b71 g_b70 g_b71 ne_b68_b70 ne_b68_b71 ne_b70_b71 (own_in1 _ _ hvbr (by omega)).1 (own_in1 _ _ hvbr (by omega)).2.1 (own_in1 _ _ hvbr (by omega)).2.2) hZ (own_w hw 19 rfl) (own_w hw 3 rfl) (by decide) (by decide)) q73a q73c (g := (mkF m 58 #[.val (.int p1), .val (.int p2), .val (.int p3), .val (.int p4), .val (.int vn), .val (.int va), .val (.int vb), .val (.int vc), .val (.ref b68), .unset, .unset, .unset] [(.int vb), (.ref b68)])) rfl (by rw [hml]; rfl) (Steps.refl _) (argsL := [(.int vb)]) (rest := []) (lenOf pd_4 rfl) rfl (by show 2 * 0 + _ ≤ _; exact Nat.le_of_eq rfl) (Jvm.hb hby at_58) (fun _ _ => ⟨rfl, rfl, (by decide : 3 + 0 ≤ _), (by decide : 132 + 0 ≤ _)⟩)
  dsimp only [Pt.U, Pt.locs, Pt.cells, Pt.slots] at X73 l73 y73 z73 st73 hQ73
  subst l73 y73 z73
  obtain ⟨rfl, N73q, Kc73, V_b70_q, V_b71_q⟩ := hQ73
  have N73 := Fr.app N72 N73q
  have E_b68 := E_b68.keep Kc73
  have F_b68_words := F_b68_words.keep Kc73 (ninS ne_b68_b70 (ninS ne_b68_b71 nin0))
  have F_b68_occupied := F_b68_occupied.keep Kc73 (ninS ne_b68_b70 (ninS ne_b68_b71 nin0))
  have Zs := Nat.le_trans Zs Kc73.1
  have V_b70 := V_b70_q
  have V_b71 := V_b71_q
  refine own_go (B := T73.setTop (mkF m 61 #[.val (.int p1), .val (.int p2), .val (.int p3), .val (.int p4), .val (.int vn), .val (.int va), .val (.int vb), .val (.int vc), .val (.ref b68), .unset, .unset, .unset] [])) (fun t k => own_st st73 k) ?_
  obtain ⟨x, y, hx0, hxy, hyn, hor, hmn, hmx, hw2, ho2⟩ := own_sort va vb vn hvar hvbr
  have V_b70 : own_LA Z T73.heap b70 (own_lw vn).toNatClampNeg (own_w2 x y) := V_b70.cong (fun i _ => (own_adds va vb i).trans (hw2 i))
  have V_b71 : own_LA Z T73.heap b71 (own_lw (own_lw vn)).toNatClampNeg (own_w2 (x / (64 : Int32)) (y / (64 : Int32))) := V_b71.cong (fun i _ => (own_adds (va / (64 : Int32)) (vb / (64 : Int32)) i).trans (ho2 i))
  obtain ⟨l1, l2, l3, l4, l5, l6, l7, l8⟩ := own_L vn hvnr
  refine own_go (B := T73.setTop (mkF m 63 #[.val (.int p1), .val (.int p2), .val (.int p3), .val (.int p4), .val (.int vn), .val (.int va), .val (.int vb), .val (.int vc), .val (.ref b68), .unset, .unset, .unset] [(.ref b68)])) (fun t k => XS.aload X73.here hx rfl (Jvm.hb hby at_61) rfl rfl k) ?_
  refine own_go (B := T73.setTop (mkF m 65 #[.val (.int p1), .val (.int p2), .val (.int p3), .val (.int p4), .val (.int vn), .val (.int va), .val (.int vb), .val (.int vc), .val (.ref b68), .unset, .unset, .unset] [(.int va), (.ref b68)])) (fun t k => XS.iload X73.here hx rfl (Jvm.hb hby at_63) rfl k) ?_
  obtain ⟨cq74, kq74, q74a, q74b, q74c⟩ := isOf hZ rfl E_b68
  obtain ⟨_, _, ⟨T74, La74, ka74, na74⟩, -, X74, ⟨Lc74, hQ74, l74, y74, z74⟩, st74⟩ := X73.virtualBack hx (y := (⟨"com/example/netloom/netloom/embed/NodeSet", "contains", "(I)Z"⟩ : MethodName)) (z := (⟨"com/example/netloom/netloom/embed/NodeSet", "contains", "(I)Z"⟩ : MethodName)) hown (mvT hZ (own_w hw 20 rfl)) (mvT hZ (own_w hw 21 rfl)) (notFace_of_selects (args := #[]) (mvT hZ (own_w hw 23 rfl))) (mvT hZ (own_w hw 23 rfl)) (mvT hZ (own_w hw 22 rfl)) (by decide) (backOf (W := 0) (rm4 l Z a0 hw [] b68 va b70 (own_lw vn).toNatClampNeg (own_w2 x y) T73.heap n0 Zs F_b68_words V_b70 (own_in1 _ _ hvar (by omega)).1 (own_in1 _ _ hvar (by omega)).2.1) hZ (own_w hw 24 rfl) (own_w hw 3 rfl) (by decide) (by decide)) q74a q74c (g := (mkF m 65 #[.val (.int p1), .val (.int p2), .val (.int p3), .val (.int p4), .val (.int vn), .val (.int va), .val (.int vb), .val (.int vc), .val (.ref b68), .unset, .unset, .unset] [(.int va), (.ref b68)])) rfl (by rw [hml]; rfl) (Steps.refl _) (argsL := [(.int va)]) (rest := []) (lenOf pd_5 rfl) rfl (by show 2 * 0 + _ ≤ _; exact Nat.le_of_eq rfl) (Jvm.hb hby at_65) (fun _ _ => ⟨rfl, rfl, (by decide : 3 + 0 ≤ _), (by decide : 132 + 0 ≤ _)⟩)
  dsimp only [Pt.U, Pt.locs, Pt.cells, Pt.slots] at X74 l74 y74 z74 st74 hQ74
  subst l74 y74 z74
  obtain ⟨rfl, N74q, e74⟩ := hQ74
  have N74 := Fr.app N73 N74q
  refine own_go (B := T74.setTop (mkF m 68 #[.val (.int p1), .val (.int p2), .val (.int p3), .val (.int p4), .val (.int vn), .val (.int va), .val (.int vb), .val (.int vc), .val (.ref b68), .unset, .unset, .unset] [(.int (own_con (own_w2 x y) va))])) (fun t k => own_st st74 k) ?_
  refine own_go (B := T74.setTop (mkF m 70 #[.val (.int p1), .val (.int p2), .val (.int p3), .val (.int p4), .val (.int vn), .val (.int va), .val (.int vb), .val (.int vc), .val (.ref b68), .val (.int (own_con (own_w2 x y) va)), .unset, .unset] [])) (fun t k => XS.istore X74.here hx rfl (Jvm.hb hby at_68) rfl (l' := #[.val (.int p1), .val (.int p2), .val (.int p3), .val (.int p4), .val (.int vn), .val (.int va), .val (.int vb), .val (.int vc), .val (.ref b68), .val (.int (own_con (own_w2 x y) va)), .unset, .unset]) rfl k) ?_
  refine own_go (B := T74.setTop (mkF m 72 #[.val (.int p1), .val (.int p2), .val (.int p3), .val (.int p4), .val (.int vn), .val (.int va), .val (.int vb), .val (.int vc), .val (.ref b68), .val (.int (own_con (own_w2 x y) va)), .unset, .unset] [(.int (own_con (own_w2 x y) va))])) (fun t k => XS.iload X74.here hx rfl (Jvm.hb hby at_70) rfl k) ?_
  refine own_go (B := T74.setTop (mkF m 75 #[.val (.int p1), .val (.int p2), .val (.int p3), .val (.int p4), .val (.int vn), .val (.int va), .val (.int vb), .val (.int vc), .val (.ref b68), .val (.int (own_con (own_w2 x y) va)), .unset, .unset] [])) (fun t k => XS.ifNo X74.here hx rfl (Jvm.hb hby at_72) rfl ((if0 _ _).trans (feq (fun z => (own_conv _ va).1.mp z ((own_hasw x y va hx0 (by omega) hvar.1).mpr (by rcases hor with ⟨h, h'⟩ | ⟨h, h'⟩; exact Or.inl h.symm; exact Or.inr h'.symm)))).1) k) ?_
  refine own_go (B := T74.setTop (mkF m 77 #[.val (.int p1), .val (.int p2), .val (.int p3), .val (.int p4), .val (.int vn), .val (.int va), .val (.int vb), .val (.int vc), .val (.ref b68), .val (.int (own_con (own_w2 x y) va)), .unset, .unset] [(.ref b68)])) (fun t k => XS.aload X74.here hx rfl (Jvm.hb hby at_75) rfl rfl k) ?_
  refine own_go (B := T74.setTop (mkF m 79 #[.val (.int p1), .val (.int p2), .val (.int p3), .val (.int p4), .val (.int vn), .val (.int va), .val (.int vb), .val (.int vc), .val (.ref b68), .val (.int (own_con (own_w2 x y) va)), .unset, .unset] [(.int vb), (.ref b68)])) (fun t k => XS.iload X74.here hx rfl (Jvm.hb hby at_77) rfl k) ?_
  obtain ⟨cq75, kq75, q75a, q75b, q75c⟩ := isOf hZ e74 E_b68
  obtain ⟨_, _, ⟨T75, La75, ka75, na75⟩, -, X75, ⟨Lc75, hQ75, l75, y75, z75⟩, st75⟩ := X74.virtualBack hx (y := (⟨"com/example/netloom/netloom/embed/NodeSet", "contains", "(I)Z"⟩ : MethodName)) (z := (⟨"com/example/netloom/netloom/embed/NodeSet", "contains", "(I)Z"⟩ : MethodName)) hown (mvT hZ (own_w hw 20 rfl)) (mvT hZ (own_w hw 21 rfl)) (notFace_of_selects (args := #[]) (mvT hZ (own_w hw 23 rfl))) (mvT hZ (own_w hw 23 rfl)) (mvT hZ (own_w hw 22 rfl)) (by decide) (backOf (W := 0) (rm4 l Z a0 hw [] b68 vb b70 (own_lw vn).toNatClampNeg (own_w2 x y) T73.heap n0 Zs F_b68_words V_b70 (own_in1 _ _ hvbr (by omega)).1 (own_in1 _ _ hvbr (by omega)).2.1) hZ (own_w hw 24 rfl) (own_w hw 3 rfl) (by decide) (by decide)) q75a q75c (g := (mkF m 79 #[.val (.int p1), .val (.int p2), .val (.int p3), .val (.int p4), .val (.int vn), .val (.int va), .val (.int vb), .val (.int vc), .val (.ref b68), .val (.int (own_con (own_w2 x y) va)), .unset, .unset] [(.int vb), (.ref b68)])) rfl (by rw [hml]; rfl) (Steps.refl _) (argsL := [(.int vb)]) (rest := []) (lenOf pd_5 rfl) rfl (by show 2 * 0 + _ ≤ _; exact Nat.le_of_eq rfl) (Jvm.hb hby at_79) (fun _ _ => ⟨rfl, e74, (by decide : 3 + 0 ≤ _), (by decide : 132 + 0 ≤ _)⟩)
  dsimp only [Pt.U, Pt.locs, Pt.cells, Pt.slots] at X75 l75 y75 z75 st75 hQ75
  subst l75 y75 z75
  obtain ⟨rfl, N75q, e75⟩ := hQ75
  have N75 := Fr.app N74 N75q
  refine own_go (B := T75.setTop (mkF m 82 #[.val (.int p1), .val (.int p2), .val (.int p3), .val (.int p4), .val (.int vn), .val (.int va), .val (.int vb), .val (.int vc), .val (.ref b68), .val (.int (own_con (own_w2 x y) va)), .unset, .unset] [(.int (own_con (own_w2 x y) vb))])) (fun t k => own_st st75 k) ?_
  refine own_go (B := T75.setTop (mkF m 85 #[.val (.int p1), .val (.int p2), .val (.int p3), .val (.int p4), .val (.int vn), .val (.int va), .val (.int vb), .val (.int vc), .val (.ref b68), .val (.int (own_con (own_w2 x y) va)), .unset, .unset] [])) (fun t k => XS.ifNo X75.here hx rfl (Jvm.hb hby at_82) rfl ((if0 _ _).trans (feq (fun z => (own_conv _ vb).1.mp z ((own_hasw x y vb hx0 (by omega) hvbr.1).mpr (by rcases hor with ⟨h, h'⟩ | ⟨h, h'⟩; exact Or.inr h'.symm; exact Or.inl h.symm)))).1) k) ?_
  refine own_go (B := T75.setTop (mkF m 86 #[.val (.int p1), .val (.int p2), .val (.int p3), .val (.int p4), .val (.int vn), .val (.int va), .val (.int vb), .val (.int vc), .val (.ref b68), .val (.int (own_con (own_w2 x y) va)), .unset, .unset] [(.int (1 : Int32))])) (fun t k => XS.iconst X75.here hx rfl (Jvm.hb hby at_85) k) ?_
  refine own_go (B := T75.setTop (mkF m 90 #[.val (.int p1), .val (.int p2), .val (.int p3), .val (.int p4), .val (.int vn), .val (.int va), .val (.int vb), .val (.int vc), .val (.ref b68), .val (.int (own_con (own_w2 x y) va)), .unset, .unset] [(.int (1 : Int32))])) (fun t k => XS.goto X75.here hx rfl (pc0 := 86) (pc' := 90) rfl (Jvm.hb hby at_86) (by decide) (by decide) k) ?_
  refine own_go (B := T75.setTop (mkF m 92 #[.val (.int p1), .val (.int p2), .val (.int p3), .val (.int p4), .val (.int vn), .val (.int va), .val (.int vb), .val (.int vc), .val (.ref b68), .val (.int (1 : Int32)), .unset, .unset] [])) (fun t k => XS.istore X75.here hx rfl (Jvm.hb hby at_90) rfl (l' := #[.val (.int p1), .val (.int p2), .val (.int p3), .val (.int p4), .val (.int vn), .val (.int va), .val (.int vb), .val (.int vc), .val (.ref b68), .val (.int (1 : Int32)), .unset, .unset]) rfl k) ?_
  refine own_go (B := T75.setTop (mkF m 94 #[.val (.int p1), .val (.int p2), .val (.int p3), .val (.int p4), .val (.int vn), .val (.int va), .val (.int vb), .val (.int vc), .val (.ref b68), .val (.int (1 : Int32)), .unset, .unset] [(.int (1 : Int32))])) (fun t k => XS.iload X75.here hx rfl (Jvm.hb hby at_92) rfl k) ?_
  refine own_go (B := T75.setTop (mkF m 97 #[.val (.int p1), .val (.int p2), .val (.int p3), .val (.int p4), .val (.int vn), .val (.int va), .val (.int vb), .val (.int vc), .val (.ref b68), .val (.int (1 : Int32)), .unset, .unset] [])) (fun t k => XS.ifNo X75.here hx rfl (Jvm.hb hby at_94) rfl ((if0 _ _).trans (feq (by decide : ¬ ((1 : Int32) = (0 : Int32)))).1) k) ?_
  refine own_go (B := T75.setTop (mkF m 99 #[.val (.int p1), .val (.int p2), .val (.int p3), .val (.int p4), .val (.int vn), .val (.int va), .val (.int vb), .val (.int vc), .val (.ref b68), .val (.int (1 : Int32)), .unset, .unset] [(.ref b68)])) (fun t k => XS.aload X75.here hx rfl (Jvm.hb hby at_97) rfl rfl k) ?_
  refine own_go (B := T75.setTop (mkF m 101 #[.val (.int p1), .val (.int p2), .val (.int p3), .val (.int p4), .val (.int vn), .val (.int va), .val (.int vb), .val (.int vc), .val (.ref b68), .val (.int (1 : Int32)), .unset, .unset] [(.int vc), (.ref b68)])) (fun t k => XS.iload X75.here hx rfl (Jvm.hb hby at_99) rfl k) ?_
  obtain ⟨cq76, kq76, q76a, q76b, q76c⟩ := isOf hZ e75 E_b68
  obtain ⟨_, _, ⟨T76, La76, ka76, na76⟩, -, X76, ⟨Lc76, hQ76, l76, y76, z76⟩, st76⟩ := X75.virtualBack hx (y := (⟨"com/example/netloom/netloom/embed/NodeSet", "contains", "(I)Z"⟩ : MethodName)) (z := (⟨"com/example/netloom/netloom/embed/NodeSet", "contains", "(I)Z"⟩ : MethodName)) hown (mvT hZ (own_w hw 20 rfl)) (mvT hZ (own_w hw 21 rfl)) (notFace_of_selects (args := #[]) (mvT hZ (own_w hw 23 rfl))) (mvT hZ (own_w hw 23 rfl)) (mvT hZ (own_w hw 22 rfl)) (by decide) (backOf (W := 0) (rm4 l Z a0 hw [] b68 vc b70 (own_lw vn).toNatClampNeg (own_w2 x y) T73.heap n0 Zs F_b68_words V_b70 (own_in1 _ _ hvcr (by omega)).1 (own_in1 _ _ hvcr (by omega)).2.1) hZ (own_w hw 24 rfl) (own_w hw 3 rfl) (by decide) (by decide)) q76a q76c (g := (mkF m 101 #[.val (.int p1), .val (.int p2), .val (.int p3), .val (.int p4), .val (.int vn), .val (.int va), .val (.int vb), .val (.int vc), .val (.ref b68), .val (.int (1 : Int32)), .unset, .unset] [(.int vc), (.ref b68)])) rfl (by rw [hml]; rfl) (Steps.refl _) (argsL := [(.int vc)]) (rest := []) (lenOf pd_5 rfl) rfl (by show 2 * 0 + _ ≤ _; exact Nat.le_of_eq rfl) (Jvm.hb hby at_101) (fun _ _ => ⟨rfl, e75, (by decide : 3 + 0 ≤ _), (by decide : 132 + 0 ≤ _)⟩)
  dsimp only [Pt.U, Pt.locs, Pt.cells, Pt.slots] at X76 l76 y76 z76 st76 hQ76
  subst l76 y76 z76
  obtain ⟨rfl, N76q, e76⟩ := hQ76
  have N76 := Fr.app N75 N76q
  refine own_go (B := T76.setTop (mkF m 104 #[.val (.int p1), .val (.int p2), .val (.int p3), .val (.int p4), .val (.int vn), .val (.int va), .val (.int vb), .val (.int vc), .val (.ref b68), .val (.int (1 : Int32)), .unset, .unset] [(.int (own_con (own_w2 x y) vc))])) (fun t k => own_st st76 k) ?_
  have J133 : ∀ (Tj133 : State) (Lj133 : List Loc) (Xj133 : Stand p l e room_1 s m #[(.int p1), (.int p2), (.int p3), (.int p4)] below meth c Tj133 Lj133 3 132) (ej133 : Tj133.heap = T73.heap) (Nj133 : Fr n0 Lj133), own_Goes p e below s (own_Q0 Z p1 p2 p3 p4 h0 n0) room_1.cells room_1.slots (Tj133.setTop (mkF m 133 #[.val (.int p1), .val (.int p2), .val (.int p3), .val (.int p4), .val (.int vn), .val (.int va), .val (.int vb), .val (.int vc), .val (.ref b68), .val (.int (1 : Int32)), .unset, .unset] [])) := by
    intro Tj133 Lj133 Xj133 ej133 Nj133
    refine own_go (B := Tj133.setTop (mkF m 135 #[.val (.int p1), .val (.int p2), .val (.int p3), .val (.int p4), .val (.int vn), .val (.int va), .val (.int vb), .val (.int vc), .val (.ref b68), .val (.int (1 : Int32)), .unset, .unset] [(.int (1 : Int32))])) (fun t k => XS.iload Xj133.here hx rfl (Jvm.hb hby at_133) rfl k) ?_
    refine own_go (B := Tj133.setTop (mkF m 138 #[.val (.int p1), .val (.int p2), .val (.int p3), .val (.int p4), .val (.int vn), .val (.int va), .val (.int vb), .val (.int vc), .val (.ref b68), .val (.int (1 : Int32)), .unset, .unset] [])) (fun t k => XS.ifNo Xj133.here hx rfl (Jvm.hb hby at_135) rfl ((if0 _ _).trans (feq (by decide : ¬ ((1 : Int32) = (0 : Int32)))).1) k) ?_
    by_cases s1 : x = y
    · have V_b70 : own_LA Z T73.heap b70 (own_lw vn).toNatClampNeg (own_w2 x x) := V_b70.cong (fun i _ => by rw [← s1])
      have V_b71 : own_LA Z T73.heap b71 (own_lw (own_lw vn)).toNatClampNeg (own_w2 (x / (64 : Int32)) (x / (64 : Int32))) := V_b71.cong (fun i _ => by rw [← s1])
      refine own_go (B := Tj133.setTop (mkF m 140 #[.val (.int p1), .val (.int p2), .val (.int p3), .val (.int p4), .val (.int vn), .val (.int va), .val (.int vb), .val (.int vc), .val (.ref b68), .val (.int (1 : Int32)), .unset, .unset] [(.ref b68)])) (fun t k => XS.aload Xj133.here hx rfl (Jvm.hb hby at_138) rfl rfl k) ?_
      obtain ⟨cq77, kq77, q77a, q77b, q77c⟩ := isOf hZ ej133 E_b68
      obtain ⟨_, _, ⟨T77, La77, ka77, na77⟩, -, X77, ⟨Lc77, hQ77, l77, y77, z77⟩, st77⟩ := Xj133.virtualBack hx (y := (⟨"com/example/netloom/netloom/embed/NodeSet", "size", "()I"⟩ : MethodName)) (z := (⟨"com/example/netloom/netloom/embed/NodeSet", "size", "()I"⟩ : MethodName)) hown (mvT hZ (own_w hw 25 rfl)) (mvT hZ (own_w hw 26 rfl)) (notFace_of_selects (args := #[]) (mvT hZ (own_w hw 28 rfl))) (mvT hZ (own_w hw 28 rfl)) (mvT hZ (own_w hw 27 rfl)) (by decide) (backOf (W := 0) (rm_size1 l Z a0 hw [] b68 b70 b71 (own_lw vn).toNatClampNeg (own_lw (own_lw vn)).toNatClampNeg (own_lw vn) (own_lw (own_lw vn)) (own_w2 x x) (own_w2 (x / (64 : Int32)) (x / (64 : Int32))) (x / (64 : Int32)) (-1 : Int32) T73.heap n0 Zs E_b68 F_b68_words F_b68_occupied V_b70 V_b71 (own_B x x vn hx0 (Int.le_refl _) (by omega) hvnr).1 (own_B x x vn hx0 (Int.le_refl _) (by omega) hvnr).2.1 (own_B x x vn hx0 (Int.le_refl _) (by omega) hvnr).2.2.1 (own_B x x vn hx0 (Int.le_refl _) (by omega) hvnr).2.2.2.1 l1 l2 l3 l4 l5 l6 (own_B2 x x vn hx0 (Int.le_refl _) (by omega) hvnr).2 (by decide)) hZ (own_w hw 29 rfl) (own_w hw 3 rfl) (by decide) (by decide)) q77a q77c (g := (mkF m 140 #[.val (.int p1), .val (.int p2), .val (.int p3), .val (.int p4), .val (.int vn), .val (.int va), .val (.int vb), .val (.int vc), .val (.ref b68), .val (.int (1 : Int32)), .unset, .unset] [(.ref b68)])) rfl (by rw [hml]; rfl) (Steps.refl _) (argsL := []) (rest := []) (lenOf pd_6 rfl) rfl (by show 2 * 0 + _ ≤ _; exact Nat.le_of_eq rfl) (Jvm.hb hby at_140) (fun _ _ => ⟨rfl, ej133, (by decide : 3 + 0 ≤ _), (by decide : 132 + 0 ≤ _)⟩)
      dsimp only [Pt.U, Pt.locs, Pt.cells, Pt.slots] at X77 l77 y77 z77 st77 hQ77
      subst l77 y77 z77
      obtain ⟨rfl, N77q, e77⟩ := hQ77
      have N77 := Fr.app Nj133 N77q
      refine own_go (B := T77.setTop (mkF m 143 #[.val (.int p1), .val (.int p2), .val (.int p3), .val (.int p4), .val (.int vn), .val (.int va), .val (.int vb), .val (.int vc), .val (.ref b68), .val (.int (1 : Int32)), .unset, .unset] [(.int ((0 : Int32) + (own_bc ((own_w2 x x) (x / (64 : Int32)).toNatClampNeg))))])) (fun t k => own_st st77 k) ?_
      refine own_go (B := T77.setTop (mkF m 145 #[.val (.int p1), .val (.int p2), .val (.int p3), .val (.int p4), .val (.int vn), .val (.int va), .val (.int vb), .val (.int vc), .val (.ref b68), .val (.int (1 : Int32)), .unset, .unset] [(.int va), (.int ((0 : Int32) + (own_bc ((own_w2 x x) (x / (64 : Int32)).toNatClampNeg))))])) (fun t k => XS.iload X77.here hx rfl (Jvm.hb hby at_143) rfl k) ?_
      refine own_go (B := T77.setTop (mkF m 147 #[.val (.int p1), .val (.int p2), .val (.int p3), .val (.int p4), .val (.int vn), .val (.int va), .val (.int vb), .val (.int vc), .val (.ref b68), .val (.int (1 : Int32)), .unset, .unset] [(.int vb), (.int va), (.int ((0 : Int32) + (own_bc ((own_w2 x x) (x / (64 : Int32)).toNatClampNeg))))])) (fun t k => XS.iload X77.here hx rfl (Jvm.hb hby at_145) rfl k) ?_
      refine own_go (B := T77.setTop (mkF m 150 #[.val (.int p1), .val (.int p2), .val (.int p3), .val (.int p4), .val (.int vn), .val (.int va), .val (.int vb), .val (.int vc), .val (.ref b68), .val (.int (1 : Int32)), .unset, .unset] [(.int ((0 : Int32) + (own_bc ((own_w2 x x) (x / (64 : Int32)).toNatClampNeg))))])) (fun t k => XS.icmpNo X77.here hx rfl (Jvm.hb hby at_147) rfl (teq (by rcases hor with ⟨h, h'⟩ | ⟨h, h'⟩; rw [← h, ← h', ← s1]; rw [← h, ← h', ← s1])).2 k) ?_
      refine own_go (B := T77.setTop (mkF m 151 #[.val (.int p1), .val (.int p2), .val (.int p3), .val (.int p4), .val (.int vn), .val (.int va), .val (.int vb), .val (.int vc), .val (.ref b68), .val (.int (1 : Int32)), .unset, .unset] [(.int (1 : Int32)), (.int ((0 : Int32) + (own_bc ((own_w2 x x) (x / (64 : Int32)).toNatClampNeg))))])) (fun t k => XS.iconst X77.here hx rfl (Jvm.hb hby at_150) k) ?_
      refine own_go (B := T77.setTop (mkF m 155 #[.val (.int p1), .val (.int p2), .val (.int p3), .val (.int p4), .val (.int vn), .val (.int va), .val (.int vb), .val (.int vc), .val (.ref b68), .val (.int (1 : Int32)), .unset, .unset] [(.int (1 : Int32)), (.int ((0 : Int32) + (own_bc ((own_w2 x x) (x / (64 : Int32)).toNatClampNeg))))])) (fun t k => XS.goto X77.here hx rfl (pc0 := 151) (pc' := 155) rfl (Jvm.hb hby at_151) (by decide) (by decide) k) ?_
      refine own_go (B := T77.setTop (mkF m 158 #[.val (.int p1), .val (.int p2), .val (.int p3), .val (.int p4), .val (.int vn), .val (.int va), .val (.int vb), .val (.int vc), .val (.ref b68), .val (.int (1 : Int32)), .unset, .unset] [])) (fun t k => XS.icmpNo X77.here hx rfl (Jvm.hb hby at_155) rfl (teq (own_s1 x)).2 k) ?_
      refine own_go (B := T77.setTop (mkF m 159 #[.val (.int p1), .val (.int p2), .val (.int p3), .val (.int p4), .val (.int vn), .val (.int va), .val (.int vb), .val (.int vc), .val (.ref b68), .val (.int (1 : Int32)), .unset, .unset] [(.int (1 : Int32))])) (fun t k => XS.iconst X77.here hx rfl (Jvm.hb hby at_158) k) ?_
      refine own_go (B := T77.setTop (mkF m 163 #[.val (.int p1), .val (.int p2), .val (.int p3), .val (.int p4), .val (.int vn), .val (.int va), .val (.int vb), .val (.int vc), .val (.ref b68), .val (.int (1 : Int32)), .unset, .unset] [(.int (1 : Int32))])) (fun t k => XS.goto X77.here hx rfl (pc0 := 159) (pc' := 163) rfl (Jvm.hb hby at_159) (by decide) (by decide) k) ?_
      refine own_go (B := T77.setTop (mkF m 165 #[.val (.int p1), .val (.int p2), .val (.int p3), .val (.int p4), .val (.int vn), .val (.int va), .val (.int vb), .val (.int vc), .val (.ref b68), .val (.int (1 : Int32)), .unset, .unset] [])) (fun t k => XS.istore X77.here hx rfl (Jvm.hb hby at_163) rfl (l' := #[.val (.int p1), .val (.int p2), .val (.int p3), .val (.int p4), .val (.int vn), .val (.int va), .val (.int vb), .val (.int vc), .val (.ref b68), .val (.int (1 : Int32)), .unset, .unset]) rfl k) ?_
      refine own_go (B := T77.setTop (mkF m 167 #[.val (.int p1), .val (.int p2), .val (.int p3), .val (.int p4), .val (.int vn), .val (.int va), .val (.int vb), .val (.int vc), .val (.ref b68), .val (.int (1 : Int32)), .unset, .unset] [(.int va)])) (fun t k => XS.iload X77.here hx rfl (Jvm.hb hby at_165) rfl k) ?_
      refine own_go (B := T77.setTop (mkF m 169 #[.val (.int p1), .val (.int p2), .val (.int p3), .val (.int p4), .val (.int vn), .val (.int va), .val (.int vb), .val (.int vc), .val (.ref b68), .val (.int (1 : Int32)), .unset, .unset] [(.int vb), (.int va)])) (fun t k => XS.iload X77.here hx rfl (Jvm.hb hby at_167) rfl k) ?_
      obtain ⟨_, _, ⟨T78, La78, ka78, na78⟩, -, X78, ⟨Lc78, hQ78, l78, y78, z78⟩, st78⟩ := Jvm.LawKit.callS X77 hx (y := (⟨"java/lang/Math", "min", "(II)I"⟩ : MethodName)) hown (mvT hZ (own_w hw 49 rfl)) (mvT hZ (own_w hw 50 rfl)) (mvT hZ (own_w hw 51 rfl)) (mvT hZ (own_w hw 52 rfl)) (by decide) (backOf (W := 0) (rm10 l Z a0 hw [] va vb T73.heap n0 Zs) hZ (own_w hw 52 rfl) (own_w hw 51 rfl) (by decide) (by decide)) (g := (mkF m 169 #[.val (.int p1), .val (.int p2), .val (.int p3), .val (.int p4), .val (.int vn), .val (.int va), .val (.int vb), .val (.int vc), .val (.ref b68), .val (.int (1 : Int32)), .unset, .unset] [(.int vb), (.int va)])) rfl (by rw [hml]; rfl) (argsL := [(.int va), (.int vb)]) (rest := []) (lenOf pd_7 rfl) rfl (by show 2 * 0 + _ ≤ _; exact Nat.le_of_eq rfl) (Jvm.hb hby at_169) (fun _ _ => ⟨rfl, e77, (by decide : 3 + 0 ≤ _), (by decide : 132 + 0 ≤ _)⟩)
      dsimp only [Pt.U, Pt.locs, Pt.cells, Pt.slots] at X78 l78 y78 z78 st78 hQ78
      subst l78 y78 z78
      obtain ⟨rfl, N78q, e78⟩ := hQ78
      have N78 := Fr.app N77 N78q
      refine own_go (B := T78.setTop (mkF m 172 #[.val (.int p1), .val (.int p2), .val (.int p3), .val (.int p4), .val (.int vn), .val (.int va), .val (.int vb), .val (.int vc), .val (.ref b68), .val (.int (1 : Int32)), .unset, .unset] [(.int (own_f10 va vb))])) (fun t k => st78 _ k) ?_
      rw [hmn]
      refine own_go (B := T78.setTop (mkF m 174 #[.val (.int p1), .val (.int p2), .val (.int p3), .val (.int p4), .val (.int vn), .val (.int va), .val (.int vb), .val (.int vc), .val (.ref b68), .val (.int (1 : Int32)), .val (.int x), .unset] [])) (fun t k => XS.istore X78.here hx rfl (Jvm.hb hby at_172) rfl (l' := #[.val (.int p1), .val (.int p2), .val (.int p3), .val (.int p4), .val (.int vn), .val (.int va), .val (.int vb), .val (.int vc), .val (.ref b68), .val (.int (1 : Int32)), .val (.int x), .unset]) rfl k) ?_
      refine own_go (B := T78.setTop (mkF m 176 #[.val (.int p1), .val (.int p2), .val (.int p3), .val (.int p4), .val (.int vn), .val (.int va), .val (.int vb), .val (.int vc), .val (.ref b68), .val (.int (1 : Int32)), .val (.int x), .unset] [(.int va)])) (fun t k => XS.iload X78.here hx rfl (Jvm.hb hby at_174) rfl k) ?_
      refine own_go (B := T78.setTop (mkF m 178 #[.val (.int p1), .val (.int p2), .val (.int p3), .val (.int p4), .val (.int vn), .val (.int va), .val (.int vb), .val (.int vc), .val (.ref b68), .val (.int (1 : Int32)), .val (.int x), .unset] [(.int vb), (.int va)])) (fun t k => XS.iload X78.here hx rfl (Jvm.hb hby at_176) rfl k) ?_
      obtain ⟨_, _, ⟨T79, La79, ka79, na79⟩, -, X79, ⟨Lc79, hQ79, l79, y79, z79⟩, st79⟩ := Jvm.LawKit.callS X78 hx (y := (⟨"java/lang/Math", "max", "(II)I"⟩ : MethodName)) hown (mvT hZ (own_w hw 53 rfl)) (mvT hZ (own_w hw 54 rfl)) (mvT hZ (own_w hw 51 rfl)) (mvT hZ (own_w hw 55 rfl)) (by decide) (backOf (W := 0) (rm11 l Z a0 hw [] va vb T73.heap n0 Zs) hZ (own_w hw 55 rfl) (own_w hw 51 rfl) (by decide) (by decide)) (g := (mkF m 178 #[.val (.int p1), .val (.int p2), .val (.int p3), .val (.int p4), .val (.int vn), .val (.int va), .val (.int vb), .val (.int vc), .val (.ref b68), .val (.int (1 : Int32)), .val (.int x), .unset] [(.int vb), (.int va)])) rfl (by rw [hml]; rfl) (argsL := [(.int va), (.int vb)]) (rest := []) (lenOf pd_7 rfl) rfl (by show 2 * 0 + _ ≤ _; exact Nat.le_of_eq rfl) (Jvm.hb hby at_178) (fun _ _ => ⟨rfl, e78, (by decide : 3 + 0 ≤ _), (by decide : 132 + 0 ≤ _)⟩)
      dsimp only [Pt.U, Pt.locs, Pt.cells, Pt.slots] at X79 l79 y79 z79 st79 hQ79
      subst l79 y79 z79
      obtain ⟨rfl, N79q, e79⟩ := hQ79
      have N79 := Fr.app N78 N79q
      refine own_go (B := T79.setTop (mkF m 181 #[.val (.int p1), .val (.int p2), .val (.int p3), .val (.int p4), .val (.int vn), .val (.int va), .val (.int vb), .val (.int vc), .val (.ref b68), .val (.int (1 : Int32)), .val (.int x), .unset] [(.int (own_f11 va vb))])) (fun t k => st79 _ k) ?_
      rw [hmx]
      refine own_go (B := T79.setTop (mkF m 183 #[.val (.int p1), .val (.int p2), .val (.int p3), .val (.int p4), .val (.int vn), .val (.int va), .val (.int vb), .val (.int vc), .val (.ref b68), .val (.int (1 : Int32)), .val (.int x), .val (.int y)] [])) (fun t k => XS.istore X79.here hx rfl (Jvm.hb hby at_181) rfl (l' := #[.val (.int p1), .val (.int p2), .val (.int p3), .val (.int p4), .val (.int vn), .val (.int va), .val (.int vb), .val (.int vc), .val (.ref b68), .val (.int (1 : Int32)), .val (.int x), .val (.int y)]) rfl k) ?_
      refine own_go (B := T79.setTop (mkF m 185 #[.val (.int p1), .val (.int p2), .val (.int p3), .val (.int p4), .val (.int vn), .val (.int va), .val (.int vb), .val (.int vc), .val (.ref b68), .val (.int (1 : Int32)), .val (.int x), .val (.int y)] [(.int (1 : Int32))])) (fun t k => XS.iload X79.here hx rfl (Jvm.hb hby at_183) rfl k) ?_
      refine own_go (B := T79.setTop (mkF m 188 #[.val (.int p1), .val (.int p2), .val (.int p3), .val (.int p4), .val (.int vn), .val (.int va), .val (.int vb), .val (.int vc), .val (.ref b68), .val (.int (1 : Int32)), .val (.int x), .val (.int y)] [])) (fun t k => XS.ifNo X79.here hx rfl (Jvm.hb hby at_185) rfl ((if0 _ _).trans (feq (by decide : ¬ ((1 : Int32) = (0 : Int32)))).1) k) ?_
      refine own_go (B := T79.setTop (mkF m 190 #[.val (.int p1), .val (.int p2), .val (.int p3), .val (.int p4), .val (.int vn), .val (.int va), .val (.int vb), .val (.int vc), .val (.ref b68), .val (.int (1 : Int32)), .val (.int x), .val (.int y)] [(.ref b68)])) (fun t k => XS.aload X79.here hx rfl (Jvm.hb hby at_188) rfl rfl k) ?_
      refine own_go (B := T79.setTop (mkF m 191 #[.val (.int p1), .val (.int p2), .val (.int p3), .val (.int p4), .val (.int vn), .val (.int va), .val (.int vb), .val (.int vc), .val (.ref b68), .val (.int (1 : Int32)), .val (.int x), .val (.int y)] [(.int (0 : Int32)), (.ref b68)])) (fun t k => XS.iconst X79.here hx rfl (Jvm.hb hby at_190) k) ?_
      obtain ⟨cq80, kq80, q80a, q80b, q80c⟩ := isOf hZ e79 E_b68
      obtain ⟨_, _, ⟨T80, La80, ka80, na80⟩, -, X80, ⟨Lc80, hQ80, l80, y80, z80⟩, st80⟩ := X79.virtualBack hx (y := (⟨"com/example/netloom/netloom/embed/NodeSet", "take", "(I)I"⟩ : MethodName)) (z := (⟨"com/example/netloom/netloom/embed/NodeSet", "take", "(I)I"⟩ : MethodName)) hown (mvT hZ (own_w hw 56 rfl)) (mvT hZ (own_w hw 57 rfl)) (notFace_of_selects (args := #[]) (mvT hZ (own_w hw 59 rfl))) (mvT hZ (own_w hw 59 rfl)) (mvT hZ (own_w hw 58 rfl)) (by decide) (backOf (W := 0) (rm_take1 l Z a0 hw [] b68 b70 b71 (own_lw vn).toNatClampNeg (own_lw (own_lw vn)).toNatClampNeg (own_lw vn) (own_lw (own_lw vn)) (own_w2 x x) (own_w2 (x / (64 : Int32)) (x / (64 : Int32))) (x / (64 : Int32)) T73.heap n0 Zs E_b68 F_b68_words F_b68_occupied V_b70 V_b71 g_b70 g_b71 ne_b68_b70 ne_b68_b71 ne_b70_b71 (own_B x x vn hx0 (Int.le_refl _) (by omega) hvnr).1 (own_B x x vn hx0 (Int.le_refl _) (by omega) hvnr).2.1 (own_B x x vn hx0 (Int.le_refl _) (by omega) hvnr).2.2.1 (own_B x x vn hx0 (Int.le_refl _) (by omega) hvnr).2.2.2.1 l1 l2 l3 l4 l5 l6 (own_B x x vn hx0 (Int.le_refl _) (by omega) hvnr).2.2.2.2) hZ (own_w hw 60 rfl) (own_w hw 3 rfl) (by decide) (by decide)) q80a q80c (g := (mkF m 191 #[.val (.int p1), .val (.int p2), .val (.int p3), .val (.int p4), .val (.int vn), .val (.int va), .val (.int vb), .val (.int vc), .val (.ref b68), .val (.int (1 : Int32)), .val (.int x), .val (.int y)] [(.int (0 : Int32)), (.ref b68)])) rfl (by rw [hml]; rfl) (Steps.refl _) (argsL := [(.int (0 : Int32))]) (rest := []) (lenOf pd_0 rfl) rfl (by show 2 * 0 + _ ≤ _; exact Nat.le_of_eq rfl) (Jvm.hb hby at_191) (fun _ _ => ⟨rfl, e79, (by decide : 3 + 0 ≤ _), (by decide : 132 + 0 ≤ _)⟩)
      dsimp only [Pt.U, Pt.locs, Pt.cells, Pt.slots] at X80 l80 y80 z80 st80 hQ80
      subst l80 y80 z80
      obtain ⟨rfl, N80q, Kc80, V_b70_q, V_b71_q⟩ := hQ80
      have N80 := Fr.app N79 N80q
      have E_b68 := E_b68.keep Kc80
      have F_b68_words := F_b68_words.keep Kc80 (ninS ne_b68_b70 (ninS ne_b68_b71 nin0))
      have F_b68_occupied := F_b68_occupied.keep Kc80 (ninS ne_b68_b70 (ninS ne_b68_b71 nin0))
      have Zs := Nat.le_trans Zs Kc80.1
      have V_b70 := V_b70_q
      have V_b71 := V_b71_q
      refine own_go (B := T80.setTop (mkF m 194 #[.val (.int p1), .val (.int p2), .val (.int p3), .val (.int p4), .val (.int vn), .val (.int va), .val (.int vb), .val (.int vc), .val (.ref b68), .val (.int (1 : Int32)), .val (.int x), .val (.int y)] [(.int (((64 : Int32) * (x / (64 : Int32))) + (own_f7 (own_f13 ((own_w2 x x) (x / (64 : Int32)).toNatClampNeg)))))])) (fun t k => own_st st80 k) ?_
      have V_b70 : own_LA Z T80.heap b70 (own_lw vn).toNatClampNeg (fun _ => 0) := V_b70.cong (fun i _ => own_tw1 x hx0 i)
      have V_b71 : own_LA Z T80.heap b71 (own_lw (own_lw vn)).toNatClampNeg (fun _ => 0) := V_b71.cong (fun i _ => own_tg1 x hx0 i)
      refine own_go (B := T80.setTop (mkF m 196 #[.val (.int p1), .val (.int p2), .val (.int p3), .val (.int p4), .val (.int vn), .val (.int va), .val (.int vb), .val (.int vc), .val (.ref b68), .val (.int (1 : Int32)), .val (.int x), .val (.int y)] [(.int x), (.int (((64 : Int32) * (x / (64 : Int32))) + (own_f7 (own_f13 ((own_w2 x x) (x / (64 : Int32)).toNatClampNeg)))))])) (fun t k => XS.iload X80.here hx rfl (Jvm.hb hby at_194) rfl k) ?_
      refine own_go (B := T80.setTop (mkF m 199 #[.val (.int p1), .val (.int p2), .val (.int p3), .val (.int p4), .val (.int vn), .val (.int va), .val (.int vb), .val (.int vc), .val (.ref b68), .val (.int (1 : Int32)), .val (.int x), .val (.int y)] [])) (fun t k => XS.icmpNo X80.here hx rfl (Jvm.hb hby at_196) rfl (teq (own_tv x x hx0 (Int.le_refl _) (by omega))).2 k) ?_
      refine own_go (B := T80.setTop (mkF m 200 #[.val (.int p1), .val (.int p2), .val (.int p3), .val (.int p4), .val (.int vn), .val (.int va), .val (.int vb), .val (.int vc), .val (.ref b68), .val (.int (1 : Int32)), .val (.int x), .val (.int y)] [(.int (1 : Int32))])) (fun t k => XS.iconst X80.here hx rfl (Jvm.hb hby at_199) k) ?_
      refine own_go (B := T80.setTop (mkF m 204 #[.val (.int p1), .val (.int p2), .val (.int p3), .val (.int p4), .val (.int vn), .val (.int va), .val (.int vb), .val (.int vc), .val (.ref b68), .val (.int (1 : Int32)), .val (.int x), .val (.int y)] [(.int (1 : Int32))])) (fun t k => XS.goto X80.here hx rfl (pc0 := 200) (pc' := 204) rfl (Jvm.hb hby at_200) (by decide) (by decide) k) ?_
      refine own_go (B := T80.setTop (mkF m 206 #[.val (.int p1), .val (.int p2), .val (.int p3), .val (.int p4), .val (.int vn), .val (.int va), .val (.int vb), .val (.int vc), .val (.ref b68), .val (.int (1 : Int32)), .val (.int x), .val (.int y)] [])) (fun t k => XS.istore X80.here hx rfl (Jvm.hb hby at_204) rfl (l' := #[.val (.int p1), .val (.int p2), .val (.int p3), .val (.int p4), .val (.int vn), .val (.int va), .val (.int vb), .val (.int vc), .val (.ref b68), .val (.int (1 : Int32)), .val (.int x), .val (.int y)]) rfl k) ?_
      refine own_go (B := T80.setTop (mkF m 208 #[.val (.int p1), .val (.int p2), .val (.int p3), .val (.int p4), .val (.int vn), .val (.int va), .val (.int vb), .val (.int vc), .val (.ref b68), .val (.int (1 : Int32)), .val (.int x), .val (.int y)] [(.int va)])) (fun t k => XS.iload X80.here hx rfl (Jvm.hb hby at_206) rfl k) ?_
      refine own_go (B := T80.setTop (mkF m 210 #[.val (.int p1), .val (.int p2), .val (.int p3), .val (.int p4), .val (.int vn), .val (.int va), .val (.int vb), .val (.int vc), .val (.ref b68), .val (.int (1 : Int32)), .val (.int x), .val (.int y)] [(.int vb), (.int va)])) (fun t k => XS.iload X80.here hx rfl (Jvm.hb hby at_208) rfl k) ?_
      refine own_go (B := T80.setTop (mkF m 236 #[.val (.int p1), .val (.int p2), .val (.int p3), .val (.int p4), .val (.int vn), .val (.int va), .val (.int vb), .val (.int vc), .val (.ref b68), .val (.int (1 : Int32)), .val (.int x), .val (.int y)] [])) (fun t k => XS.icmpYes X80.here hx rfl (pc0 := 210) (pc' := 236) rfl (Jvm.hb hby at_210) rfl (teq (by rcases hor with ⟨h, h'⟩ | ⟨h, h'⟩; rw [← h, ← h', ← s1]; rw [← h, ← h', ← s1])).1 (by decide) (by decide) k) ?_
      refine own_go (B := T80.setTop (mkF m 238 #[.val (.int p1), .val (.int p2), .val (.int p3), .val (.int p4), .val (.int vn), .val (.int va), .val (.int vb), .val (.int vc), .val (.ref b68), .val (.int (1 : Int32)), .val (.int x), .val (.int y)] [(.int (1 : Int32))])) (fun t k => XS.iload X80.here hx rfl (Jvm.hb hby at_236) rfl k) ?_
      refine own_go (B := T80.setTop (mkF m 241 #[.val (.int p1), .val (.int p2), .val (.int p3), .val (.int p4), .val (.int vn), .val (.int va), .val (.int vb), .val (.int vc), .val (.ref b68), .val (.int (1 : Int32)), .val (.int x), .val (.int y)] [])) (fun t k => XS.ifNo X80.here hx rfl (Jvm.hb hby at_238) rfl ((if0 _ _).trans (feq (by decide : ¬ ((1 : Int32) = (0 : Int32)))).1) k) ?_
      refine own_go (B := T80.setTop (mkF m 243 #[.val (.int p1), .val (.int p2), .val (.int p3), .val (.int p4), .val (.int vn), .val (.int va), .val (.int vb), .val (.int vc), .val (.ref b68), .val (.int (1 : Int32)), .val (.int x), .val (.int y)] [(.ref b68)])) (fun t k => XS.aload X80.here hx rfl (Jvm.hb hby at_241) rfl rfl k) ?_
      refine own_go (B := T80.setTop (mkF m 244 #[.val (.int p1), .val (.int p2), .val (.int p3), .val (.int p4), .val (.int vn), .val (.int va), .val (.int vb), .val (.int vc), .val (.ref b68), .val (.int (1 : Int32)), .val (.int x), .val (.int y)] [(.int (0 : Int32)), (.ref b68)])) (fun t k => XS.iconst X80.here hx rfl (Jvm.hb hby at_243) k) ?_
      obtain ⟨cq81, kq81, q81a, q81b, q81c⟩ := isOf hZ rfl E_b68
      obtain ⟨_, _, ⟨T81, La81, ka81, na81⟩, -, X81, ⟨Lc81, hQ81, l81, y81, z81⟩, st81⟩ := X80.virtualBack hx (y := (⟨"com/example/netloom/netloom/embed/NodeSet", "take", "(I)I"⟩ : MethodName)) (z := (⟨"com/example/netloom/netloom/embed/NodeSet", "take", "(I)I"⟩ : MethodName)) hown (mvT hZ (own_w hw 56 rfl)) (mvT hZ (own_w hw 57 rfl)) (notFace_of_selects (args := #[]) (mvT hZ (own_w hw 59 rfl))) (mvT hZ (own_w hw 59 rfl)) (mvT hZ (own_w hw 58 rfl)) (by decide) (backOf (W := 0) (rm_take0 l Z a0 hw [] b68 b70 b71 (own_lw vn).toNatClampNeg (own_lw (own_lw vn)).toNatClampNeg (own_lw vn) (own_lw (own_lw vn)) (fun _ => 0) (fun _ => 0) T80.heap n0 Zs E_b68 F_b68_words F_b68_occupied V_b70 V_b71 (own_B0 vn hvnr) l1 l2 l3 l4 l5 l6) hZ (own_w hw 60 rfl) (own_w hw 3 rfl) (by decide) (by decide)) q81a q81c (g := (mkF m 244 #[.val (.int p1), .val (.int p2), .val (.int p3), .val (.int p4), .val (.int vn), .val (.int va), .val (.int vb), .val (.int vc), .val (.ref b68), .val (.int (1 : Int32)), .val (.int x), .val (.int y)] [(.int (0 : Int32)), (.ref b68)])) rfl (by rw [hml]; rfl) (Steps.refl _) (argsL := [(.int (0 : Int32))]) (rest := []) (lenOf pd_0 rfl) rfl (by show 2 * 0 + _ ≤ _; exact Nat.le_of_eq rfl) (Jvm.hb hby at_244) (fun _ _ => ⟨rfl, rfl, (by decide : 3 + 0 ≤ _), (by decide : 132 + 0 ≤ _)⟩)
      dsimp only [Pt.U, Pt.locs, Pt.cells, Pt.slots] at X81 l81 y81 z81 st81 hQ81
      subst l81 y81 z81
      obtain ⟨rfl, N81q, e81⟩ := hQ81
      have N81 := Fr.app N80 N81q
      refine own_go (B := T81.setTop (mkF m 247 #[.val (.int p1), .val (.int p2), .val (.int p3), .val (.int p4), .val (.int vn), .val (.int va), .val (.int vb), .val (.int vc), .val (.ref b68), .val (.int (1 : Int32)), .val (.int x), .val (.int y)] [(.int (-1 : Int32))])) (fun t k => own_st st81 k) ?_
      refine own_go (B := T81.setTop (mkF m 248 #[.val (.int p1), .val (.int p2), .val (.int p3), .val (.int p4), .val (.int vn), .val (.int va), .val (.int vb), .val (.int vc), .val (.ref b68), .val (.int (1 : Int32)), .val (.int x), .val (.int y)] [(.int (-1 : Int32)), (.int (-1 : Int32))])) (fun t k => XS.iconst X81.here hx rfl (Jvm.hb hby at_247) k) ?_
      refine own_go (B := T81.setTop (mkF m 251 #[.val (.int p1), .val (.int p2), .val (.int p3), .val (.int p4), .val (.int vn), .val (.int va), .val (.int vb), .val (.int vc), .val (.ref b68), .val (.int (1 : Int32)), .val (.int x), .val (.int y)] [])) (fun t k => XS.icmpNo X81.here hx rfl (Jvm.hb hby at_248) rfl (teq (by decide : (-1 : Int32) = (-1 : Int32))).2 k) ?_
      refine own_go (B := T81.setTop (mkF m 252 #[.val (.int p1), .val (.int p2), .val (.int p3), .val (.int p4), .val (.int vn), .val (.int va), .val (.int vb), .val (.int vc), .val (.ref b68), .val (.int (1 : Int32)), .val (.int x), .val (.int y)] [(.int (1 : Int32))])) (fun t k => XS.iconst X81.here hx rfl (Jvm.hb hby at_251) k) ?_
      refine own_go (B := T81.setTop (mkF m 256 #[.val (.int p1), .val (.int p2), .val (.int p3), .val (.int p4), .val (.int vn), .val (.int va), .val (.int vb), .val (.int vc), .val (.ref b68), .val (.int (1 : Int32)), .val (.int x), .val (.int y)] [(.int (1 : Int32))])) (fun t k => XS.goto X81.here hx rfl (pc0 := 252) (pc' := 256) rfl (Jvm.hb hby at_252) (by decide) (by decide) k) ?_
      refine own_go (B := T81.setTop (mkF m 258 #[.val (.int p1), .val (.int p2), .val (.int p3), .val (.int p4), .val (.int vn), .val (.int va), .val (.int vb), .val (.int vc), .val (.ref b68), .val (.int (1 : Int32)), .val (.int x), .val (.int y)] [])) (fun t k => XS.istore X81.here hx rfl (Jvm.hb hby at_256) rfl (l' := #[.val (.int p1), .val (.int p2), .val (.int p3), .val (.int p4), .val (.int vn), .val (.int va), .val (.int vb), .val (.int vc), .val (.ref b68), .val (.int (1 : Int32)), .val (.int x), .val (.int y)]) rfl k) ?_
      refine own_go (B := T81.setTop (mkF m 260 #[.val (.int p1), .val (.int p2), .val (.int p3), .val (.int p4), .val (.int vn), .val (.int va), .val (.int vb), .val (.int vc), .val (.ref b68), .val (.int (1 : Int32)), .val (.int x), .val (.int y)] [(.int (1 : Int32))])) (fun t k => XS.iload X81.here hx rfl (Jvm.hb hby at_258) rfl k) ?_
      refine own_out X81 (v := (some (.int (1 : Int32)))) (fun h => by rw [Bd.returns] at h; cases h) Bd.notSynchronized (fun fs hr => retOut X81 hx (t := .boolean) Bd.returns rfl (by first | exact Or.inl ⟨rfl, by simp, _, rfl⟩) (Jvm.hb hby at_260) hr) ?_ (by decide) (by decide)
      show own_Q0 Z p1 p2 p3 p4 h0 n0 (some (.int (1 : Int32))) T81.heap _
      rw [e81]
      exact ⟨rfl, N81⟩
    · by_cases s2 : (x / (64 : Int32)) = (y / (64 : Int32))
      · have hlt : x.toInt < y.toInt := by have : ¬ (x.toInt = y.toInt) := fun z => s1 (Int32.toInt_inj.mp z); omega
        have V_b71 : own_LA Z T73.heap b71 (own_lw (own_lw vn)).toNatClampNeg (own_w2 (x / (64 : Int32)) (x / (64 : Int32))) := V_b71.cong (fun i _ => by rw [← s2])
        refine own_go (B := Tj133.setTop (mkF m 140 #[.val (.int p1), .val (.int p2), .val (.int p3), .val (.int p4), .val (.int vn), .val (.int va), .val (.int vb), .val (.int vc), .val (.ref b68), .val (.int (1 : Int32)), .unset, .unset] [(.ref b68)])) (fun t k => XS.aload Xj133.here hx rfl (Jvm.hb hby at_138) rfl rfl k) ?_
        obtain ⟨cq82, kq82, q82a, q82b, q82c⟩ := isOf hZ ej133 E_b68
        obtain ⟨_, _, ⟨T82, La82, ka82, na82⟩, -, X82, ⟨Lc82, hQ82, l82, y82, z82⟩, st82⟩ := Xj133.virtualBack hx (y := (⟨"com/example/netloom/netloom/embed/NodeSet", "size", "()I"⟩ : MethodName)) (z := (⟨"com/example/netloom/netloom/embed/NodeSet", "size", "()I"⟩ : MethodName)) hown (mvT hZ (own_w hw 25 rfl)) (mvT hZ (own_w hw 26 rfl)) (notFace_of_selects (args := #[]) (mvT hZ (own_w hw 28 rfl))) (mvT hZ (own_w hw 28 rfl)) (mvT hZ (own_w hw 27 rfl)) (by decide) (backOf (W := 0) (rm_size1 l Z a0 hw [] b68 b70 b71 (own_lw vn).toNatClampNeg (own_lw (own_lw vn)).toNatClampNeg (own_lw vn) (own_lw (own_lw vn)) (own_w2 x y) (own_w2 (x / (64 : Int32)) (x / (64 : Int32))) (x / (64 : Int32)) (-1 : Int32) T73.heap n0 Zs E_b68 F_b68_words F_b68_occupied V_b70 V_b71 (own_B x x vn hx0 (Int.le_refl _) (by omega) hvnr).1 (own_B x x vn hx0 (Int.le_refl _) (by omega) hvnr).2.1 (own_B x x vn hx0 (Int.le_refl _) (by omega) hvnr).2.2.1 (own_B x x vn hx0 (Int.le_refl _) (by omega) hvnr).2.2.2.1 l1 l2 l3 l4 l5 l6 (own_B2 x x vn hx0 (Int.le_refl _) (by omega) hvnr).2 (by decide)) hZ (own_w hw 29 rfl) (own_w hw 3 rfl) (by decide) (by decide)) q82a q82c (g := (mkF m 140 #[.val (.int p1), .val (.int p2), .val (.int p3), .val (.int p4), .val (.int vn), .val (.int va), .val (.int vb), .val (.int vc), .val (.ref b68), .val (.int (1 : Int32)), .unset, .unset] [(.ref b68)])) rfl (by rw [hml]; rfl) (Steps.refl _) (argsL := []) (rest := []) (lenOf pd_6 rfl) rfl (by show 2 * 0 + _ ≤ _; exact Nat.le_of_eq rfl) (Jvm.hb hby at_140) (fun _ _ => ⟨rfl, ej133, (by decide : 3 + 0 ≤ _), (by decide : 132 + 0 ≤ _)⟩)
        dsimp only [Pt.U, Pt.locs, Pt.cells, Pt.slots] at X82 l82 y82 z82 st82 hQ82
        subst l82 y82 z82
        obtain ⟨rfl, N82q, e82⟩ := hQ82
        have N82 := Fr.app Nj133 N82q
        refine own_go (B := T82.setTop (mkF m 143 #[.val (.int p1), .val (.int p2), .val (.int p3), .val (.int p4), .val (.int vn), .val (.int va), .val (.int vb), .val (.int vc), .val (.ref b68), .val (.int (1 : Int32)), .unset, .unset] [(.int ((0 : Int32) + (own_bc ((own_w2 x y) (x / (64 : Int32)).toNatClampNeg))))])) (fun t k => own_st st82 k) ?_
        refine own_go (B := T82.setTop (mkF m 145 #[.val (.int p1), .val (.int p2), .val (.int p3), .val (.int p4), .val (.int vn), .val (.int va), .val (.int vb), .val (.int vc), .val (.ref b68), .val (.int (1 : Int32)), .unset, .unset] [(.int va), (.int ((0 : Int32) + (own_bc ((own_w2 x y) (x / (64 : Int32)).toNatClampNeg))))])) (fun t k => XS.iload X82.here hx rfl (Jvm.hb hby at_143) rfl k) ?_
        refine own_go (B := T82.setTop (mkF m 147 #[.val (.int p1), .val (.int p2), .val (.int p3), .val (.int p4), .val (.int vn), .val (.int va), .val (.int vb), .val (.int vc), .val (.ref b68), .val (.int (1 : Int32)), .unset, .unset] [(.int vb), (.int va), (.int ((0 : Int32) + (own_bc ((own_w2 x y) (x / (64 : Int32)).toNatClampNeg))))])) (fun t k => XS.iload X82.here hx rfl (Jvm.hb hby at_145) rfl k) ?_
        refine own_go (B := T82.setTop (mkF m 154 #[.val (.int p1), .val (.int p2), .val (.int p3), .val (.int p4), .val (.int vn), .val (.int va), .val (.int vb), .val (.int vc), .val (.ref b68), .val (.int (1 : Int32)), .unset, .unset] [(.int ((0 : Int32) + (own_bc ((own_w2 x y) (x / (64 : Int32)).toNatClampNeg))))])) (fun t k => XS.icmpYes X82.here hx rfl (pc0 := 147) (pc' := 154) rfl (Jvm.hb hby at_147) rfl (feq (fun z => s1 (by rcases hor with ⟨h, h'⟩ | ⟨h, h'⟩; rw [h, h', z]; rw [h, h', z]))).2 (by decide) (by decide) k) ?_
        refine own_go (B := T82.setTop (mkF m 155 #[.val (.int p1), .val (.int p2), .val (.int p3), .val (.int p4), .val (.int vn), .val (.int va), .val (.int vb), .val (.int vc), .val (.ref b68), .val (.int (1 : Int32)), .unset, .unset] [(.int (2 : Int32)), (.int ((0 : Int32) + (own_bc ((own_w2 x y) (x / (64 : Int32)).toNatClampNeg))))])) (fun t k => XS.iconst X82.here hx rfl (Jvm.hb hby at_154) k) ?_
        refine own_go (B := T82.setTop (mkF m 158 #[.val (.int p1), .val (.int p2), .val (.int p3), .val (.int p4), .val (.int vn), .val (.int va), .val (.int vb), .val (.int vc), .val (.ref b68), .val (.int (1 : Int32)), .unset, .unset] [])) (fun t k => XS.icmpNo X82.here hx rfl (Jvm.hb hby at_155) rfl (teq (own_s2 x y hx0 (by omega) s1 s2)).2 k) ?_
        refine own_go (B := T82.setTop (mkF m 159 #[.val (.int p1), .val (.int p2), .val (.int p3), .val (.int p4), .val (.int vn), .val (.int va), .val (.int vb), .val (.int vc), .val (.ref b68), .val (.int (1 : Int32)), .unset, .unset] [(.int (1 : Int32))])) (fun t k => XS.iconst X82.here hx rfl (Jvm.hb hby at_158) k) ?_
        refine own_go (B := T82.setTop (mkF m 163 #[.val (.int p1), .val (.int p2), .val (.int p3), .val (.int p4), .val (.int vn), .val (.int va), .val (.int vb), .val (.int vc), .val (.ref b68), .val (.int (1 : Int32)), .unset, .unset] [(.int (1 : Int32))])) (fun t k => XS.goto X82.here hx rfl (pc0 := 159) (pc' := 163) rfl (Jvm.hb hby at_159) (by decide) (by decide) k) ?_
        refine own_go (B := T82.setTop (mkF m 165 #[.val (.int p1), .val (.int p2), .val (.int p3), .val (.int p4), .val (.int vn), .val (.int va), .val (.int vb), .val (.int vc), .val (.ref b68), .val (.int (1 : Int32)), .unset, .unset] [])) (fun t k => XS.istore X82.here hx rfl (Jvm.hb hby at_163) rfl (l' := #[.val (.int p1), .val (.int p2), .val (.int p3), .val (.int p4), .val (.int vn), .val (.int va), .val (.int vb), .val (.int vc), .val (.ref b68), .val (.int (1 : Int32)), .unset, .unset]) rfl k) ?_
        refine own_go (B := T82.setTop (mkF m 167 #[.val (.int p1), .val (.int p2), .val (.int p3), .val (.int p4), .val (.int vn), .val (.int va), .val (.int vb), .val (.int vc), .val (.ref b68), .val (.int (1 : Int32)), .unset, .unset] [(.int va)])) (fun t k => XS.iload X82.here hx rfl (Jvm.hb hby at_165) rfl k) ?_
        refine own_go (B := T82.setTop (mkF m 169 #[.val (.int p1), .val (.int p2), .val (.int p3), .val (.int p4), .val (.int vn), .val (.int va), .val (.int vb), .val (.int vc), .val (.ref b68), .val (.int (1 : Int32)), .unset, .unset] [(.int vb), (.int va)])) (fun t k => XS.iload X82.here hx rfl (Jvm.hb hby at_167) rfl k) ?_
        obtain ⟨_, _, ⟨T83, La83, ka83, na83⟩, -, X83, ⟨Lc83, hQ83, l83, y83, z83⟩, st83⟩ := Jvm.LawKit.callS X82 hx (y := (⟨"java/lang/Math", "min", "(II)I"⟩ : MethodName)) hown (mvT hZ (own_w hw 49 rfl)) (mvT hZ (own_w hw 50 rfl)) (mvT hZ (own_w hw 51 rfl)) (mvT hZ (own_w hw 52 rfl)) (by decide) (backOf (W := 0) (rm10 l Z a0 hw [] va vb T73.heap n0 Zs) hZ (own_w hw 52 rfl) (own_w hw 51 rfl) (by decide) (by decide)) (g := (mkF m 169 #[.val (.int p1), .val (.int p2), .val (.int p3), .val (.int p4), .val (.int vn), .val (.int va), .val (.int vb), .val (.int vc), .val (.ref b68), .val (.int (1 : Int32)), .unset, .unset] [(.int vb), (.int va)])) rfl (by rw [hml]; rfl) (argsL := [(.int va), (.int vb)]) (rest := []) (lenOf pd_7 rfl) rfl (by show 2 * 0 + _ ≤ _; exact Nat.le_of_eq rfl) (Jvm.hb hby at_169) (fun _ _ => ⟨rfl, e82, (by decide : 3 + 0 ≤ _), (by decide : 132 + 0 ≤ _)⟩)
        dsimp only [Pt.U, Pt.locs, Pt.cells, Pt.slots] at X83 l83 y83 z83 st83 hQ83
        subst l83 y83 z83
        obtain ⟨rfl, N83q, e83⟩ := hQ83
        have N83 := Fr.app N82 N83q
        refine own_go (B := T83.setTop (mkF m 172 #[.val (.int p1), .val (.int p2), .val (.int p3), .val (.int p4), .val (.int vn), .val (.int va), .val (.int vb), .val (.int vc), .val (.ref b68), .val (.int (1 : Int32)), .unset, .unset] [(.int (own_f10 va vb))])) (fun t k => st83 _ k) ?_
        rw [hmn]
        refine own_go (B := T83.setTop (mkF m 174 #[.val (.int p1), .val (.int p2), .val (.int p3), .val (.int p4), .val (.int vn), .val (.int va), .val (.int vb), .val (.int vc), .val (.ref b68), .val (.int (1 : Int32)), .val (.int x), .unset] [])) (fun t k => XS.istore X83.here hx rfl (Jvm.hb hby at_172) rfl (l' := #[.val (.int p1), .val (.int p2), .val (.int p3), .val (.int p4), .val (.int vn), .val (.int va), .val (.int vb), .val (.int vc), .val (.ref b68), .val (.int (1 : Int32)), .val (.int x), .unset]) rfl k) ?_
        refine own_go (B := T83.setTop (mkF m 176 #[.val (.int p1), .val (.int p2), .val (.int p3), .val (.int p4), .val (.int vn), .val (.int va), .val (.int vb), .val (.int vc), .val (.ref b68), .val (.int (1 : Int32)), .val (.int x), .unset] [(.int va)])) (fun t k => XS.iload X83.here hx rfl (Jvm.hb hby at_174) rfl k) ?_
        refine own_go (B := T83.setTop (mkF m 178 #[.val (.int p1), .val (.int p2), .val (.int p3), .val (.int p4), .val (.int vn), .val (.int va), .val (.int vb), .val (.int vc), .val (.ref b68), .val (.int (1 : Int32)), .val (.int x), .unset] [(.int vb), (.int va)])) (fun t k => XS.iload X83.here hx rfl (Jvm.hb hby at_176) rfl k) ?_
        obtain ⟨_, _, ⟨T84, La84, ka84, na84⟩, -, X84, ⟨Lc84, hQ84, l84, y84, z84⟩, st84⟩ := Jvm.LawKit.callS X83 hx (y := (⟨"java/lang/Math", "max", "(II)I"⟩ : MethodName)) hown (mvT hZ (own_w hw 53 rfl)) (mvT hZ (own_w hw 54 rfl)) (mvT hZ (own_w hw 51 rfl)) (mvT hZ (own_w hw 55 rfl)) (by decide) (backOf (W := 0) (rm11 l Z a0 hw [] va vb T73.heap n0 Zs) hZ (own_w hw 55 rfl) (own_w hw 51 rfl) (by decide) (by decide)) (g := (mkF m 178 #[.val (.int p1), .val (.int p2), .val (.int p3), .val (.int p4), .val (.int vn), .val (.int va), .val (.int vb), .val (.int vc), .val (.ref b68), .val (.int (1 : Int32)), .val (.int x), .unset] [(.int vb), (.int va)])) rfl (by rw [hml]; rfl) (argsL := [(.int va), (.int vb)]) (rest := []) (lenOf pd_7 rfl) rfl (by show 2 * 0 + _ ≤ _; exact Nat.le_of_eq rfl) (Jvm.hb hby at_178) (fun _ _ => ⟨rfl, e83, (by decide : 3 + 0 ≤ _), (by decide : 132 + 0 ≤ _)⟩)
        dsimp only [Pt.U, Pt.locs, Pt.cells, Pt.slots] at X84 l84 y84 z84 st84 hQ84
        subst l84 y84 z84
        obtain ⟨rfl, N84q, e84⟩ := hQ84
        have N84 := Fr.app N83 N84q
        refine own_go (B := T84.setTop (mkF m 181 #[.val (.int p1), .val (.int p2), .val (.int p3), .val (.int p4), .val (.int vn), .val (.int va), .val (.int vb), .val (.int vc), .val (.ref b68), .val (.int (1 : Int32)), .val (.int x), .unset] [(.int (own_f11 va vb))])) (fun t k => st84 _ k) ?_
        rw [hmx]
        refine own_go (B := T84.setTop (mkF m 183 #[.val (.int p1), .val (.int p2), .val (.int p3), .val (.int p4), .val (.int vn), .val (.int va), .val (.int vb), .val (.int vc), .val (.ref b68), .val (.int (1 : Int32)), .val (.int x), .val (.int y)] [])) (fun t k => XS.istore X84.here hx rfl (Jvm.hb hby at_181) rfl (l' := #[.val (.int p1), .val (.int p2), .val (.int p3), .val (.int p4), .val (.int vn), .val (.int va), .val (.int vb), .val (.int vc), .val (.ref b68), .val (.int (1 : Int32)), .val (.int x), .val (.int y)]) rfl k) ?_
        refine own_go (B := T84.setTop (mkF m 185 #[.val (.int p1), .val (.int p2), .val (.int p3), .val (.int p4), .val (.int vn), .val (.int va), .val (.int vb), .val (.int vc), .val (.ref b68), .val (.int (1 : Int32)), .val (.int x), .val (.int y)] [(.int (1 : Int32))])) (fun t k => XS.iload X84.here hx rfl (Jvm.hb hby at_183) rfl k) ?_
        refine own_go (B := T84.setTop (mkF m 188 #[.val (.int p1), .val (.int p2), .val (.int p3), .val (.int p4), .val (.int vn), .val (.int va), .val (.int vb), .val (.int vc), .val (.ref b68), .val (.int (1 : Int32)), .val (.int x), .val (.int y)] [])) (fun t k => XS.ifNo X84.here hx rfl (Jvm.hb hby at_185) rfl ((if0 _ _).trans (feq (by decide : ¬ ((1 : Int32) = (0 : Int32)))).1) k) ?_
        refine own_go (B := T84.setTop (mkF m 190 #[.val (.int p1), .val (.int p2), .val (.int p3), .val (.int p4), .val (.int vn), .val (.int va), .val (.int vb), .val (.int vc), .val (.ref b68), .val (.int (1 : Int32)), .val (.int x), .val (.int y)] [(.ref b68)])) (fun t k => XS.aload X84.here hx rfl (Jvm.hb hby at_188) rfl rfl k) ?_
        refine own_go (B := T84.setTop (mkF m 191 #[.val (.int p1), .val (.int p2), .val (.int p3), .val (.int p4), .val (.int vn), .val (.int va), .val (.int vb), .val (.int vc), .val (.ref b68), .val (.int (1 : Int32)), .val (.int x), .val (.int y)] [(.int (0 : Int32)), (.ref b68)])) (fun t k => XS.iconst X84.here hx rfl (Jvm.hb hby at_190) k) ?_
        obtain ⟨cq85, kq85, q85a, q85b, q85c⟩ := isOf hZ e84 E_b68
        obtain ⟨_, _, ⟨T85, La85, ka85, na85⟩, -, X85, ⟨Lc85, hQ85, l85, y85, z85⟩, st85⟩ := X84.virtualBack hx (y := (⟨"com/example/netloom/netloom/embed/NodeSet", "take", "(I)I"⟩ : MethodName)) (z := (⟨"com/example/netloom/netloom/embed/NodeSet", "take", "(I)I"⟩ : MethodName)) hown (mvT hZ (own_w hw 56 rfl)) (mvT hZ (own_w hw 57 rfl)) (notFace_of_selects (args := #[]) (mvT hZ (own_w hw 59 rfl))) (mvT hZ (own_w hw 59 rfl)) (mvT hZ (own_w hw 58 rfl)) (by decide) (backOf (W := 0) (rm_take1 l Z a0 hw [] b68 b70 b71 (own_lw vn).toNatClampNeg (own_lw (own_lw vn)).toNatClampNeg (own_lw vn) (own_lw (own_lw vn)) (own_w2 x y) (own_w2 (x / (64 : Int32)) (x / (64 : Int32))) (x / (64 : Int32)) T73.heap n0 Zs E_b68 F_b68_words F_b68_occupied V_b70 V_b71 g_b70 g_b71 ne_b68_b70 ne_b68_b71 ne_b70_b71 (own_B x x vn hx0 (Int.le_refl _) (by omega) hvnr).1 (own_B x x vn hx0 (Int.le_refl _) (by omega) hvnr).2.1 (own_B x x vn hx0 (Int.le_refl _) (by omega) hvnr).2.2.1 (own_B x x vn hx0 (Int.le_refl _) (by omega) hvnr).2.2.2.1 l1 l2 l3 l4 l5 l6 (own_B x x vn hx0 (Int.le_refl _) (by omega) hvnr).2.2.2.2) hZ (own_w hw 60 rfl) (own_w hw 3 rfl) (by decide) (by decide)) q85a q85c (g := (mkF m 191 #[.val (.int p1), .val (.int p2), .val (.int p3), .val (.int p4), .val (.int vn), .val (.int va), .val (.int vb), .val (.int vc), .val (.ref b68), .val (.int (1 : Int32)), .val (.int x), .val (.int y)] [(.int (0 : Int32)), (.ref b68)])) rfl (by rw [hml]; rfl) (Steps.refl _) (argsL := [(.int (0 : Int32))]) (rest := []) (lenOf pd_0 rfl) rfl (by show 2 * 0 + _ ≤ _; exact Nat.le_of_eq rfl) (Jvm.hb hby at_191) (fun _ _ => ⟨rfl, e84, (by decide : 3 + 0 ≤ _), (by decide : 132 + 0 ≤ _)⟩)
        dsimp only [Pt.U, Pt.locs, Pt.cells, Pt.slots] at X85 l85 y85 z85 st85 hQ85
        subst l85 y85 z85
        obtain ⟨rfl, N85q, Kc85, V_b70_q, V_b71_q⟩ := hQ85
        have N85 := Fr.app N84 N85q
        have E_b68 := E_b68.keep Kc85
        have F_b68_words := F_b68_words.keep Kc85 (ninS ne_b68_b70 (ninS ne_b68_b71 nin0))
        have F_b68_occupied := F_b68_occupied.keep Kc85 (ninS ne_b68_b70 (ninS ne_b68_b71 nin0))
        have Zs := Nat.le_trans Zs Kc85.1
        have V_b70 := V_b70_q
        have V_b71 := V_b71_q
        refine own_go (B := T85.setTop (mkF m 194 #[.val (.int p1), .val (.int p2), .val (.int p3), .val (.int p4), .val (.int vn), .val (.int va), .val (.int vb), .val (.int vc), .val (.ref b68), .val (.int (1 : Int32)), .val (.int x), .val (.int y)] [(.int (((64 : Int32) * (x / (64 : Int32))) + (own_f7 (own_f13 ((own_w2 x y) (x / (64 : Int32)).toNatClampNeg)))))])) (fun t k => own_st st85 k) ?_
        have V_b70 : own_LA Z T85.heap b70 (own_lw vn).toNatClampNeg (own_w2 y y) := V_b70.cong (fun i _ => own_tw2 x y hx0 hlt i)
        have V_b71 : own_LA Z T85.heap b71 (own_lw (own_lw vn)).toNatClampNeg (own_w2 (y / (64 : Int32)) (y / (64 : Int32))) := V_b71.cong (fun i _ => own_tg2 x y hx0 hlt s2 i)
        refine own_go (B := T85.setTop (mkF m 196 #[.val (.int p1), .val (.int p2), .val (.int p3), .val (.int p4), .val (.int vn), .val (.int va), .val (.int vb), .val (.int vc), .val (.ref b68), .val (.int (1 : Int32)), .val (.int x), .val (.int y)] [(.int x), (.int (((64 : Int32) * (x / (64 : Int32))) + (own_f7 (own_f13 ((own_w2 x y) (x / (64 : Int32)).toNatClampNeg)))))])) (fun t k => XS.iload X85.here hx rfl (Jvm.hb hby at_194) rfl k) ?_
        refine own_go (B := T85.setTop (mkF m 199 #[.val (.int p1), .val (.int p2), .val (.int p3), .val (.int p4), .val (.int vn), .val (.int va), .val (.int vb), .val (.int vc), .val (.ref b68), .val (.int (1 : Int32)), .val (.int x), .val (.int y)] [])) (fun t k => XS.icmpNo X85.here hx rfl (Jvm.hb hby at_196) rfl (teq (own_tv x y hx0 hxy (by omega))).2 k) ?_
        refine own_go (B := T85.setTop (mkF m 200 #[.val (.int p1), .val (.int p2), .val (.int p3), .val (.int p4), .val (.int vn), .val (.int va), .val (.int vb), .val (.int vc), .val (.ref b68), .val (.int (1 : Int32)), .val (.int x), .val (.int y)] [(.int (1 : Int32))])) (fun t k => XS.iconst X85.here hx rfl (Jvm.hb hby at_199) k) ?_
        refine own_go (B := T85.setTop (mkF m 204 #[.val (.int p1), .val (.int p2), .val (.int p3), .val (.int p4), .val (.int vn), .val (.int va), .val (.int vb), .val (.int vc), .val (.ref b68), .val (.int (1 : Int32)), .val (.int x), .val (.int y)] [(.int (1 : Int32))])) (fun t k => XS.goto X85.here hx rfl (pc0 := 200) (pc' := 204) rfl (Jvm.hb hby at_200) (by decide) (by decide) k) ?_
        refine own_go (B := T85.setTop (mkF m 206 #[.val (.int p1), .val (.int p2), .val (.int p3), .val (.int p4), .val (.int vn), .val (.int va), .val (.int vb), .val (.int vc), .val (.ref b68), .val (.int (1 : Int32)), .val (.int x), .val (.int y)] [])) (fun t k => XS.istore X85.here hx rfl (Jvm.hb hby at_204) rfl (l' := #[.val (.int p1), .val (.int p2), .val (.int p3), .val (.int p4), .val (.int vn), .val (.int va), .val (.int vb), .val (.int vc), .val (.ref b68), .val (.int (1 : Int32)), .val (.int x), .val (.int y)]) rfl k) ?_
        refine own_go (B := T85.setTop (mkF m 208 #[.val (.int p1), .val (.int p2), .val (.int p3), .val (.int p4), .val (.int vn), .val (.int va), .val (.int vb), .val (.int vc), .val (.ref b68), .val (.int (1 : Int32)), .val (.int x), .val (.int y)] [(.int va)])) (fun t k => XS.iload X85.here hx rfl (Jvm.hb hby at_206) rfl k) ?_
        refine own_go (B := T85.setTop (mkF m 210 #[.val (.int p1), .val (.int p2), .val (.int p3), .val (.int p4), .val (.int vn), .val (.int va), .val (.int vb), .val (.int vc), .val (.ref b68), .val (.int (1 : Int32)), .val (.int x), .val (.int y)] [(.int vb), (.int va)])) (fun t k => XS.iload X85.here hx rfl (Jvm.hb hby at_208) rfl k) ?_
        refine own_go (B := T85.setTop (mkF m 213 #[.val (.int p1), .val (.int p2), .val (.int p3), .val (.int p4), .val (.int vn), .val (.int va), .val (.int vb), .val (.int vc), .val (.ref b68), .val (.int (1 : Int32)), .val (.int x), .val (.int y)] [])) (fun t k => XS.icmpNo X85.here hx rfl (Jvm.hb hby at_210) rfl (feq (fun z => s1 (by rcases hor with ⟨h, h'⟩ | ⟨h, h'⟩; rw [h, h', z]; rw [h, h', z]))).1 k) ?_
        refine own_go (B := T85.setTop (mkF m 215 #[.val (.int p1), .val (.int p2), .val (.int p3), .val (.int p4), .val (.int vn), .val (.int va), .val (.int vb), .val (.int vc), .val (.ref b68), .val (.int (1 : Int32)), .val (.int x), .val (.int y)] [(.int (1 : Int32))])) (fun t k => XS.iload X85.here hx rfl (Jvm.hb hby at_213) rfl k) ?_
        refine own_go (B := T85.setTop (mkF m 218 #[.val (.int p1), .val (.int p2), .val (.int p3), .val (.int p4), .val (.int vn), .val (.int va), .val (.int vb), .val (.int vc), .val (.ref b68), .val (.int (1 : Int32)), .val (.int x), .val (.int y)] [])) (fun t k => XS.ifNo X85.here hx rfl (Jvm.hb hby at_215) rfl ((if0 _ _).trans (feq (by decide : ¬ ((1 : Int32) = (0 : Int32)))).1) k) ?_
        refine own_go (B := T85.setTop (mkF m 220 #[.val (.int p1), .val (.int p2), .val (.int p3), .val (.int p4), .val (.int vn), .val (.int va), .val (.int vb), .val (.int vc), .val (.ref b68), .val (.int (1 : Int32)), .val (.int x), .val (.int y)] [(.ref b68)])) (fun t k => XS.aload X85.here hx rfl (Jvm.hb hby at_218) rfl rfl k) ?_
        refine own_go (B := T85.setTop (mkF m 221 #[.val (.int p1), .val (.int p2), .val (.int p3), .val (.int p4), .val (.int vn), .val (.int va), .val (.int vb), .val (.int vc), .val (.ref b68), .val (.int (1 : Int32)), .val (.int x), .val (.int y)] [(.int (0 : Int32)), (.ref b68)])) (fun t k => XS.iconst X85.here hx rfl (Jvm.hb hby at_220) k) ?_
        obtain ⟨cq86, kq86, q86a, q86b, q86c⟩ := isOf hZ rfl E_b68
        obtain ⟨_, _, ⟨T86, La86, ka86, na86⟩, -, X86, ⟨Lc86, hQ86, l86, y86, z86⟩, st86⟩ := X85.virtualBack hx (y := (⟨"com/example/netloom/netloom/embed/NodeSet", "take", "(I)I"⟩ : MethodName)) (z := (⟨"com/example/netloom/netloom/embed/NodeSet", "take", "(I)I"⟩ : MethodName)) hown (mvT hZ (own_w hw 56 rfl)) (mvT hZ (own_w hw 57 rfl)) (notFace_of_selects (args := #[]) (mvT hZ (own_w hw 59 rfl))) (mvT hZ (own_w hw 59 rfl)) (mvT hZ (own_w hw 58 rfl)) (by decide) (backOf (W := 0) (rm_take1 l Z a0 hw [] b68 b70 b71 (own_lw vn).toNatClampNeg (own_lw (own_lw vn)).toNatClampNeg (own_lw vn) (own_lw (own_lw vn)) (own_w2 y y) (own_w2 (y / (64 : Int32)) (y / (64 : Int32))) (y / (64 : Int32)) T85.heap n0 Zs E_b68 F_b68_words F_b68_occupied V_b70 V_b71 g_b70 g_b71 ne_b68_b70 ne_b68_b71 ne_b70_b71 (own_B y y vn (by omega) (Int.le_refl _) hyn hvnr).1 (own_B y y vn (by omega) (Int.le_refl _) hyn hvnr).2.1 (own_B y y vn (by omega) (Int.le_refl _) hyn hvnr).2.2.1 (own_B y y vn (by omega) (Int.le_refl _) hyn hvnr).2.2.2.1 l1 l2 l3 l4 l5 l6 (own_B y y vn (by omega) (Int.le_refl _) hyn hvnr).2.2.2.2) hZ (own_w hw 60 rfl) (own_w hw 3 rfl) (by decide) (by decide)) q86a q86c (g := (mkF m 221 #[.val (.int p1), .val (.int p2), .val (.int p3), .val (.int p4), .val (.int vn), .val (.int va), .val (.int vb), .val (.int vc), .val (.ref b68), .val (.int (1 : Int32)), .val (.int x), .val (.int y)] [(.int (0 : Int32)), (.ref b68)])) rfl (by rw [hml]; rfl) (Steps.refl _) (argsL := [(.int (0 : Int32))]) (rest := []) (lenOf pd_0 rfl) rfl (by show 2 * 0 + _ ≤ _; exact Nat.le_of_eq rfl) (Jvm.hb hby at_221) (fun _ _ => ⟨rfl, rfl, (by decide : 3 + 0 ≤ _), (by decide : 132 + 0 ≤ _)⟩)
        dsimp only [Pt.U, Pt.locs, Pt.cells, Pt.slots] at X86 l86 y86 z86 st86 hQ86
        subst l86 y86 z86
        obtain ⟨rfl, N86q, Kc86, V_b70_q, V_b71_q⟩ := hQ86
        have N86 := Fr.app N85 N86q
        have E_b68 := E_b68.keep Kc86
        have F_b68_words := F_b68_words.keep Kc86 (ninS ne_b68_b70 (ninS ne_b68_b71 nin0))
        have F_b68_occupied := F_b68_occupied.keep Kc86 (ninS ne_b68_b70 (ninS ne_b68_b71 nin0))
        have Zs := Nat.le_trans Zs Kc86.1
        have V_b70 := V_b70_q
        have V_b71 := V_b71_q
        refine own_go (B := T86.setTop (mkF m 224 #[.val (.int p1), .val (.int p2), .val (.int p3), .val (.int p4), .val (.int vn), .val (.int va), .val (.int vb), .val (.int vc), .val (.ref b68), .val (.int (1 : Int32)), .val (.int x), .val (.int y)] [(.int (((64 : Int32) * (y / (64 : Int32))) + (own_f7 (own_f13 ((own_w2 y y) (y / (64 : Int32)).toNatClampNeg)))))])) (fun t k => own_st st86 k) ?_
        have V_b70 : own_LA Z T86.heap b70 (own_lw vn).toNatClampNeg (fun _ => 0) := V_b70.cong (fun i _ => own_tw1 y (by omega) i)
        have V_b71 : own_LA Z T86.heap b71 (own_lw (own_lw vn)).toNatClampNeg (fun _ => 0) := V_b71.cong (fun i _ => own_tg1 y (by omega) i)
        refine own_go (B := T86.setTop (mkF m 226 #[.val (.int p1), .val (.int p2), .val (.int p3), .val (.int p4), .val (.int vn), .val (.int va), .val (.int vb), .val (.int vc), .val (.ref b68), .val (.int (1 : Int32)), .val (.int x), .val (.int y)] [(.int y), (.int (((64 : Int32) * (y / (64 : Int32))) + (own_f7 (own_f13 ((own_w2 y y) (y / (64 : Int32)).toNatClampNeg)))))])) (fun t k => XS.iload X86.here hx rfl (Jvm.hb hby at_224) rfl k) ?_
        refine own_go (B := T86.setTop (mkF m 229 #[.val (.int p1), .val (.int p2), .val (.int p3), .val (.int p4), .val (.int vn), .val (.int va), .val (.int vb), .val (.int vc), .val (.ref b68), .val (.int (1 : Int32)), .val (.int x), .val (.int y)] [])) (fun t k => XS.icmpNo X86.here hx rfl (Jvm.hb hby at_226) rfl (teq (own_tv y y (by omega) (Int.le_refl _) (by omega))).2 k) ?_
        refine own_go (B := T86.setTop (mkF m 230 #[.val (.int p1), .val (.int p2), .val (.int p3), .val (.int p4), .val (.int vn), .val (.int va), .val (.int vb), .val (.int vc), .val (.ref b68), .val (.int (1 : Int32)), .val (.int x), .val (.int y)] [(.int (1 : Int32))])) (fun t k => XS.iconst X86.here hx rfl (Jvm.hb hby at_229) k) ?_
        refine own_go (B := T86.setTop (mkF m 234 #[.val (.int p1), .val (.int p2), .val (.int p3), .val (.int p4), .val (.int vn), .val (.int va), .val (.int vb), .val (.int vc), .val (.ref b68), .val (.int (1 : Int32)), .val (.int x), .val (.int y)] [(.int (1 : Int32))])) (fun t k => XS.goto X86.here hx rfl (pc0 := 230) (pc' := 234) rfl (Jvm.hb hby at_230) (by decide) (by decide) k) ?_
        refine own_go (B := T86.setTop (mkF m 236 #[.val (.int p1), .val (.int p2), .val (.int p3), .val (.int p4), .val (.int vn), .val (.int va), .val (.int vb), .val (.int vc), .val (.ref b68), .val (.int (1 : Int32)), .val (.int x), .val (.int y)] [])) (fun t k => XS.istore X86.here hx rfl (Jvm.hb hby at_234) rfl (l' := #[.val (.int p1), .val (.int p2), .val (.int p3), .val (.int p4), .val (.int vn), .val (.int va), .val (.int vb), .val (.int vc), .val (.ref b68), .val (.int (1 : Int32)), .val (.int x), .val (.int y)]) rfl k) ?_
        refine own_go (B := T86.setTop (mkF m 238 #[.val (.int p1), .val (.int p2), .val (.int p3), .val (.int p4), .val (.int vn), .val (.int va), .val (.int vb), .val (.int vc), .val (.ref b68), .val (.int (1 : Int32)), .val (.int x), .val (.int y)] [(.int (1 : Int32))])) (fun t k => XS.iload X86.here hx rfl (Jvm.hb hby at_236) rfl k) ?_
        refine own_go (B := T86.setTop (mkF m 241 #[.val (.int p1), .val (.int p2), .val (.int p3), .val (.int p4), .val (.int vn), .val (.int va), .val (.int vb), .val (.int vc), .val (.ref b68), .val (.int (1 : Int32)), .val (.int x), .val (.int y)] [])) (fun t k => XS.ifNo X86.here hx rfl (Jvm.hb hby at_238) rfl ((if0 _ _).trans (feq (by decide : ¬ ((1 : Int32) = (0 : Int32)))).1) k) ?_
        refine own_go (B := T86.setTop (mkF m 243 #[.val (.int p1), .val (.int p2), .val (.int p3), .val (.int p4), .val (.int vn), .val (.int va), .val (.int vb), .val (.int vc), .val (.ref b68), .val (.int (1 : Int32)), .val (.int x), .val (.int y)] [(.ref b68)])) (fun t k => XS.aload X86.here hx rfl (Jvm.hb hby at_241) rfl rfl k) ?_
        refine own_go (B := T86.setTop (mkF m 244 #[.val (.int p1), .val (.int p2), .val (.int p3), .val (.int p4), .val (.int vn), .val (.int va), .val (.int vb), .val (.int vc), .val (.ref b68), .val (.int (1 : Int32)), .val (.int x), .val (.int y)] [(.int (0 : Int32)), (.ref b68)])) (fun t k => XS.iconst X86.here hx rfl (Jvm.hb hby at_243) k) ?_
        obtain ⟨cq87, kq87, q87a, q87b, q87c⟩ := isOf hZ rfl E_b68
        obtain ⟨_, _, ⟨T87, La87, ka87, na87⟩, -, X87, ⟨Lc87, hQ87, l87, y87, z87⟩, st87⟩ := X86.virtualBack hx (y := (⟨"com/example/netloom/netloom/embed/NodeSet", "take", "(I)I"⟩ : MethodName)) (z := (⟨"com/example/netloom/netloom/embed/NodeSet", "take", "(I)I"⟩ : MethodName)) hown (mvT hZ (own_w hw 56 rfl)) (mvT hZ (own_w hw 57 rfl)) (notFace_of_selects (args := #[]) (mvT hZ (own_w hw 59 rfl))) (mvT hZ (own_w hw 59 rfl)) (mvT hZ (own_w hw 58 rfl)) (by decide) (backOf (W := 0) (rm_take0 l Z a0 hw [] b68 b70 b71 (own_lw vn).toNatClampNeg (own_lw (own_lw vn)).toNatClampNeg (own_lw vn) (own_lw (own_lw vn)) (fun _ => 0) (fun _ => 0) T86.heap n0 Zs E_b68 F_b68_words F_b68_occupied V_b70 V_b71 (own_B0 vn hvnr) l1 l2 l3 l4 l5 l6) hZ (own_w hw 60 rfl) (own_w hw 3 rfl) (by decide) (by decide)) q87a q87c (g := (mkF m 244 #[.val (.int p1), .val (.int p2), .val (.int p3), .val (.int p4), .val (.int vn), .val (.int va), .val (.int vb), .val (.int vc), .val (.ref b68), .val (.int (1 : Int32)), .val (.int x), .val (.int y)] [(.int (0 : Int32)), (.ref b68)])) rfl (by rw [hml]; rfl) (Steps.refl _) (argsL := [(.int (0 : Int32))]) (rest := []) (lenOf pd_0 rfl) rfl (by show 2 * 0 + _ ≤ _; exact Nat.le_of_eq rfl) (Jvm.hb hby at_244) (fun _ _ => ⟨rfl, rfl, (by decide : 3 + 0 ≤ _), (by decide : 132 + 0 ≤ _)⟩)
        dsimp only [Pt.U, Pt.locs, Pt.cells, Pt.slots] at X87 l87 y87 z87 st87 hQ87
        subst l87 y87 z87
        obtain ⟨rfl, N87q, e87⟩ := hQ87
        have N87 := Fr.app N86 N87q
        refine own_go (B := T87.setTop (mkF m 247 #[.val (.int p1), .val (.int p2), .val (.int p3), .val (.int p4), .val (.int vn), .val (.int va), .val (.int vb), .val (.int vc), .val (.ref b68), .val (.int (1 : Int32)), .val (.int x), .val (.int y)] [(.int (-1 : Int32))])) (fun t k => own_st st87 k) ?_
        refine own_go (B := T87.setTop (mkF m 248 #[.val (.int p1), .val (.int p2), .val (.int p3), .val (.int p4), .val (.int vn), .val (.int va), .val (.int vb), .val (.int vc), .val (.ref b68), .val (.int (1 : Int32)), .val (.int x), .val (.int y)] [(.int (-1 : Int32)), (.int (-1 : Int32))])) (fun t k => XS.iconst X87.here hx rfl (Jvm.hb hby at_247) k) ?_
        refine own_go (B := T87.setTop (mkF m 251 #[.val (.int p1), .val (.int p2), .val (.int p3), .val (.int p4), .val (.int vn), .val (.int va), .val (.int vb), .val (.int vc), .val (.ref b68), .val (.int (1 : Int32)), .val (.int x), .val (.int y)] [])) (fun t k => XS.icmpNo X87.here hx rfl (Jvm.hb hby at_248) rfl (teq (by decide : (-1 : Int32) = (-1 : Int32))).2 k) ?_
        refine own_go (B := T87.setTop (mkF m 252 #[.val (.int p1), .val (.int p2), .val (.int p3), .val (.int p4), .val (.int vn), .val (.int va), .val (.int vb), .val (.int vc), .val (.ref b68), .val (.int (1 : Int32)), .val (.int x), .val (.int y)] [(.int (1 : Int32))])) (fun t k => XS.iconst X87.here hx rfl (Jvm.hb hby at_251) k) ?_
        refine own_go (B := T87.setTop (mkF m 256 #[.val (.int p1), .val (.int p2), .val (.int p3), .val (.int p4), .val (.int vn), .val (.int va), .val (.int vb), .val (.int vc), .val (.ref b68), .val (.int (1 : Int32)), .val (.int x), .val (.int y)] [(.int (1 : Int32))])) (fun t k => XS.goto X87.here hx rfl (pc0 := 252) (pc' := 256) rfl (Jvm.hb hby at_252) (by decide) (by decide) k) ?_
        refine own_go (B := T87.setTop (mkF m 258 #[.val (.int p1), .val (.int p2), .val (.int p3), .val (.int p4), .val (.int vn), .val (.int va), .val (.int vb), .val (.int vc), .val (.ref b68), .val (.int (1 : Int32)), .val (.int x), .val (.int y)] [])) (fun t k => XS.istore X87.here hx rfl (Jvm.hb hby at_256) rfl (l' := #[.val (.int p1), .val (.int p2), .val (.int p3), .val (.int p4), .val (.int vn), .val (.int va), .val (.int vb), .val (.int vc), .val (.ref b68), .val (.int (1 : Int32)), .val (.int x), .val (.int y)]) rfl k) ?_
        refine own_go (B := T87.setTop (mkF m 260 #[.val (.int p1), .val (.int p2), .val (.int p3), .val (.int p4), .val (.int vn), .val (.int va), .val (.int vb), .val (.int vc), .val (.ref b68), .val (.int (1 : Int32)), .val (.int x), .val (.int y)] [(.int (1 : Int32))])) (fun t k => XS.iload X87.here hx rfl (Jvm.hb hby at_258) rfl k) ?_
        refine own_out X87 (v := (some (.int (1 : Int32)))) (fun h => by rw [Bd.returns] at h; cases h) Bd.notSynchronized (fun fs hr => retOut X87 hx (t := .boolean) Bd.returns rfl (by first | exact Or.inl ⟨rfl, by simp, _, rfl⟩) (Jvm.hb hby at_260) hr) ?_ (by decide) (by decide)
        show own_Q0 Z p1 p2 p3 p4 h0 n0 (some (.int (1 : Int32))) T87.heap _
        rw [e87]
        exact ⟨rfl, N87⟩
      · have hlt : x.toInt < y.toInt := by have : ¬ (x.toInt = y.toInt) := fun z => s1 (Int32.toInt_inj.mp z); omega
        refine own_go (B := Tj133.setTop (mkF m 140 #[.val (.int p1), .val (.int p2), .val (.int p3), .val (.int p4), .val (.int vn), .val (.int va), .val (.int vb), .val (.int vc), .val (.ref b68), .val (.int (1 : Int32)), .unset, .unset] [(.ref b68)])) (fun t k => XS.aload Xj133.here hx rfl (Jvm.hb hby at_138) rfl rfl k) ?_
        obtain ⟨cq88, kq88, q88a, q88b, q88c⟩ := isOf hZ ej133 E_b68
        obtain ⟨_, _, ⟨T88, La88, ka88, na88⟩, -, X88, ⟨Lc88, hQ88, l88, y88, z88⟩, st88⟩ := Xj133.virtualBack hx (y := (⟨"com/example/netloom/netloom/embed/NodeSet", "size", "()I"⟩ : MethodName)) (z := (⟨"com/example/netloom/netloom/embed/NodeSet", "size", "()I"⟩ : MethodName)) hown (mvT hZ (own_w hw 25 rfl)) (mvT hZ (own_w hw 26 rfl)) (notFace_of_selects (args := #[]) (mvT hZ (own_w hw 28 rfl))) (mvT hZ (own_w hw 28 rfl)) (mvT hZ (own_w hw 27 rfl)) (by decide) (backOf (W := 0) (rm_size2 l Z a0 hw [] b68 b70 b71 (own_lw vn).toNatClampNeg (own_lw (own_lw vn)).toNatClampNeg (own_lw vn) (own_lw (own_lw vn)) (own_w2 x y) (own_w2 (x / (64 : Int32)) (y / (64 : Int32))) (x / (64 : Int32)) (y / (64 : Int32)) T73.heap n0 Zs E_b68 F_b68_words F_b68_occupied V_b70 V_b71 (own_B x y vn hx0 hxy hyn hvnr).1 (own_B x y vn hx0 hxy hyn hvnr).2.1 (own_B x y vn hx0 hxy hyn hvnr).2.2.1 (own_B x y vn hx0 hxy hyn hvnr).2.2.2.1 l1 l2 l3 l4 l5 l6 ((own_B2 x y vn hx0 hxy hyn hvnr).1 s2) (own_B y y vn (by omega) (Int.le_refl _) hyn hvnr).2.1 (own_B y y vn (by omega) (Int.le_refl _) hyn hvnr).2.2.1 (own_B y y vn (by omega) (Int.le_refl _) hyn hvnr).2.2.2.1 (own_B2 x y vn hx0 hxy hyn hvnr).2) hZ (own_w hw 29 rfl) (own_w hw 3 rfl) (by decide) (by decide)) q88a q88c (g := (mkF m 140 #[.val (.int p1), .val (.int p2), .val (.int p3), .val (.int p4), .val (.int vn), .val (.int va), .val (.int vb), .val (.int vc), .val (.ref b68), .val (.int (1 : Int32)), .unset, .unset] [(.ref b68)])) rfl (by rw [hml]; rfl) (Steps.refl _) (argsL := []) (rest := []) (lenOf pd_6 rfl) rfl (by show 2 * 0 + _ ≤ _; exact Nat.le_of_eq rfl) (Jvm.hb hby at_140) (fun _ _ => ⟨rfl, ej133, (by decide : 3 + 0 ≤ _), (by decide : 132 + 0 ≤ _)⟩)
        dsimp only [Pt.U, Pt.locs, Pt.cells, Pt.slots] at X88 l88 y88 z88 st88 hQ88
        subst l88 y88 z88
        obtain ⟨rfl, N88q, e88⟩ := hQ88
        have N88 := Fr.app Nj133 N88q
        refine own_go (B := T88.setTop (mkF m 143 #[.val (.int p1), .val (.int p2), .val (.int p3), .val (.int p4), .val (.int vn), .val (.int va), .val (.int vb), .val (.int vc), .val (.ref b68), .val (.int (1 : Int32)), .unset, .unset] [(.int (((0 : Int32) + (own_bc ((own_w2 x y) (x / (64 : Int32)).toNatClampNeg))) + (own_bc ((own_w2 x y) (y / (64 : Int32)).toNatClampNeg))))])) (fun t k => own_st st88 k) ?_
        refine own_go (B := T88.setTop (mkF m 145 #[.val (.int p1), .val (.int p2), .val (.int p3), .val (.int p4), .val (.int vn), .val (.int va), .val (.int vb), .val (.int vc), .val (.ref b68), .val (.int (1 : Int32)), .unset, .unset] [(.int va), (.int (((0 : Int32) + (own_bc ((own_w2 x y) (x / (64 : Int32)).toNatClampNeg))) + (own_bc ((own_w2 x y) (y / (64 : Int32)).toNatClampNeg))))])) (fun t k => XS.iload X88.here hx rfl (Jvm.hb hby at_143) rfl k) ?_
        refine own_go (B := T88.setTop (mkF m 147 #[.val (.int p1), .val (.int p2), .val (.int p3), .val (.int p4), .val (.int vn), .val (.int va), .val (.int vb), .val (.int vc), .val (.ref b68), .val (.int (1 : Int32)), .unset, .unset] [(.int vb), (.int va), (.int (((0 : Int32) + (own_bc ((own_w2 x y) (x / (64 : Int32)).toNatClampNeg))) + (own_bc ((own_w2 x y) (y / (64 : Int32)).toNatClampNeg))))])) (fun t k => XS.iload X88.here hx rfl (Jvm.hb hby at_145) rfl k) ?_
        refine own_go (B := T88.setTop (mkF m 154 #[.val (.int p1), .val (.int p2), .val (.int p3), .val (.int p4), .val (.int vn), .val (.int va), .val (.int vb), .val (.int vc), .val (.ref b68), .val (.int (1 : Int32)), .unset, .unset] [(.int (((0 : Int32) + (own_bc ((own_w2 x y) (x / (64 : Int32)).toNatClampNeg))) + (own_bc ((own_w2 x y) (y / (64 : Int32)).toNatClampNeg))))])) (fun t k => XS.icmpYes X88.here hx rfl (pc0 := 147) (pc' := 154) rfl (Jvm.hb hby at_147) rfl (feq (fun z => s1 (by rcases hor with ⟨h, h'⟩ | ⟨h, h'⟩; rw [h, h', z]; rw [h, h', z]))).2 (by decide) (by decide) k) ?_
        refine own_go (B := T88.setTop (mkF m 155 #[.val (.int p1), .val (.int p2), .val (.int p3), .val (.int p4), .val (.int vn), .val (.int va), .val (.int vb), .val (.int vc), .val (.ref b68), .val (.int (1 : Int32)), .unset, .unset] [(.int (2 : Int32)), (.int (((0 : Int32) + (own_bc ((own_w2 x y) (x / (64 : Int32)).toNatClampNeg))) + (own_bc ((own_w2 x y) (y / (64 : Int32)).toNatClampNeg))))])) (fun t k => XS.iconst X88.here hx rfl (Jvm.hb hby at_154) k) ?_
        refine own_go (B := T88.setTop (mkF m 158 #[.val (.int p1), .val (.int p2), .val (.int p3), .val (.int p4), .val (.int vn), .val (.int va), .val (.int vb), .val (.int vc), .val (.ref b68), .val (.int (1 : Int32)), .unset, .unset] [])) (fun t k => XS.icmpNo X88.here hx rfl (Jvm.hb hby at_155) rfl (teq (own_s3 x y hx0 (by omega) s2)).2 k) ?_
        refine own_go (B := T88.setTop (mkF m 159 #[.val (.int p1), .val (.int p2), .val (.int p3), .val (.int p4), .val (.int vn), .val (.int va), .val (.int vb), .val (.int vc), .val (.ref b68), .val (.int (1 : Int32)), .unset, .unset] [(.int (1 : Int32))])) (fun t k => XS.iconst X88.here hx rfl (Jvm.hb hby at_158) k) ?_
        refine own_go (B := T88.setTop (mkF m 163 #[.val (.int p1), .val (.int p2), .val (.int p3), .val (.int p4), .val (.int vn), .val (.int va), .val (.int vb), .val (.int vc), .val (.ref b68), .val (.int (1 : Int32)), .unset, .unset] [(.int (1 : Int32))])) (fun t k => XS.goto X88.here hx rfl (pc0 := 159) (pc' := 163) rfl (Jvm.hb hby at_159) (by decide) (by decide) k) ?_
        refine own_go (B := T88.setTop (mkF m 165 #[.val (.int p1), .val (.int p2), .val (.int p3), .val (.int p4), .val (.int vn), .val (.int va), .val (.int vb), .val (.int vc), .val (.ref b68), .val (.int (1 : Int32)), .unset, .unset] [])) (fun t k => XS.istore X88.here hx rfl (Jvm.hb hby at_163) rfl (l' := #[.val (.int p1), .val (.int p2), .val (.int p3), .val (.int p4), .val (.int vn), .val (.int va), .val (.int vb), .val (.int vc), .val (.ref b68), .val (.int (1 : Int32)), .unset, .unset]) rfl k) ?_
        refine own_go (B := T88.setTop (mkF m 167 #[.val (.int p1), .val (.int p2), .val (.int p3), .val (.int p4), .val (.int vn), .val (.int va), .val (.int vb), .val (.int vc), .val (.ref b68), .val (.int (1 : Int32)), .unset, .unset] [(.int va)])) (fun t k => XS.iload X88.here hx rfl (Jvm.hb hby at_165) rfl k) ?_
        refine own_go (B := T88.setTop (mkF m 169 #[.val (.int p1), .val (.int p2), .val (.int p3), .val (.int p4), .val (.int vn), .val (.int va), .val (.int vb), .val (.int vc), .val (.ref b68), .val (.int (1 : Int32)), .unset, .unset] [(.int vb), (.int va)])) (fun t k => XS.iload X88.here hx rfl (Jvm.hb hby at_167) rfl k) ?_
        obtain ⟨_, _, ⟨T89, La89, ka89, na89⟩, -, X89, ⟨Lc89, hQ89, l89, y89, z89⟩, st89⟩ := Jvm.LawKit.callS X88 hx (y := (⟨"java/lang/Math", "min", "(II)I"⟩ : MethodName)) hown (mvT hZ (own_w hw 49 rfl)) (mvT hZ (own_w hw 50 rfl)) (mvT hZ (own_w hw 51 rfl)) (mvT hZ (own_w hw 52 rfl)) (by decide) (backOf (W := 0) (rm10 l Z a0 hw [] va vb T73.heap n0 Zs) hZ (own_w hw 52 rfl) (own_w hw 51 rfl) (by decide) (by decide)) (g := (mkF m 169 #[.val (.int p1), .val (.int p2), .val (.int p3), .val (.int p4), .val (.int vn), .val (.int va), .val (.int vb), .val (.int vc), .val (.ref b68), .val (.int (1 : Int32)), .unset, .unset] [(.int vb), (.int va)])) rfl (by rw [hml]; rfl) (argsL := [(.int va), (.int vb)]) (rest := []) (lenOf pd_7 rfl) rfl (by show 2 * 0 + _ ≤ _; exact Nat.le_of_eq rfl) (Jvm.hb hby at_169) (fun _ _ => ⟨rfl, e88, (by decide : 3 + 0 ≤ _), (by decide : 132 + 0 ≤ _)⟩)
        dsimp only [Pt.U, Pt.locs, Pt.cells, Pt.slots] at X89 l89 y89 z89 st89 hQ89
        subst l89 y89 z89
        obtain ⟨rfl, N89q, e89⟩ := hQ89
        have N89 := Fr.app N88 N89q
        refine own_go (B := T89.setTop (mkF m 172 #[.val (.int p1), .val (.int p2), .val (.int p3), .val (.int p4), .val (.int vn), .val (.int va), .val (.int vb), .val (.int vc), .val (.ref b68), .val (.int (1 : Int32)), .unset, .unset] [(.int (own_f10 va vb))])) (fun t k => st89 _ k) ?_
        rw [hmn]
        refine own_go (B := T89.setTop (mkF m 174 #[.val (.int p1), .val (.int p2), .val (.int p3), .val (.int p4), .val (.int vn), .val (.int va), .val (.int vb), .val (.int vc), .val (.ref b68), .val (.int (1 : Int32)), .val (.int x), .unset] [])) (fun t k => XS.istore X89.here hx rfl (Jvm.hb hby at_172) rfl (l' := #[.val (.int p1), .val (.int p2), .val (.int p3), .val (.int p4), .val (.int vn), .val (.int va), .val (.int vb), .val (.int vc), .val (.ref b68), .val (.int (1 : Int32)), .val (.int x), .unset]) rfl k) ?_
        refine own_go (B := T89.setTop (mkF m 176 #[.val (.int p1), .val (.int p2), .val (.int p3), .val (.int p4), .val (.int vn), .val (.int va), .val (.int vb), .val (.int vc), .val (.ref b68), .val (.int (1 : Int32)), .val (.int x), .unset] [(.int va)])) (fun t k => XS.iload X89.here hx rfl (Jvm.hb hby at_174) rfl k) ?_
        refine own_go (B := T89.setTop (mkF m 178 #[.val (.int p1), .val (.int p2), .val (.int p3), .val (.int p4), .val (.int vn), .val (.int va), .val (.int vb), .val (.int vc), .val (.ref b68), .val (.int (1 : Int32)), .val (.int x), .unset] [(.int vb), (.int va)])) (fun t k => XS.iload X89.here hx rfl (Jvm.hb hby at_176) rfl k) ?_
        obtain ⟨_, _, ⟨T90, La90, ka90, na90⟩, -, X90, ⟨Lc90, hQ90, l90, y90, z90⟩, st90⟩ := Jvm.LawKit.callS X89 hx (y := (⟨"java/lang/Math", "max", "(II)I"⟩ : MethodName)) hown (mvT hZ (own_w hw 53 rfl)) (mvT hZ (own_w hw 54 rfl)) (mvT hZ (own_w hw 51 rfl)) (mvT hZ (own_w hw 55 rfl)) (by decide) (backOf (W := 0) (rm11 l Z a0 hw [] va vb T73.heap n0 Zs) hZ (own_w hw 55 rfl) (own_w hw 51 rfl) (by decide) (by decide)) (g := (mkF m 178 #[.val (.int p1), .val (.int p2), .val (.int p3), .val (.int p4), .val (.int vn), .val (.int va), .val (.int vb), .val (.int vc), .val (.ref b68), .val (.int (1 : Int32)), .val (.int x), .unset] [(.int vb), (.int va)])) rfl (by rw [hml]; rfl) (argsL := [(.int va), (.int vb)]) (rest := []) (lenOf pd_7 rfl) rfl (by show 2 * 0 + _ ≤ _; exact Nat.le_of_eq rfl) (Jvm.hb hby at_178) (fun _ _ => ⟨rfl, e89, (by decide : 3 + 0 ≤ _), (by decide : 132 + 0 ≤ _)⟩)
        dsimp only [Pt.U, Pt.locs, Pt.cells, Pt.slots] at X90 l90 y90 z90 st90 hQ90
        subst l90 y90 z90
        obtain ⟨rfl, N90q, e90⟩ := hQ90
        have N90 := Fr.app N89 N90q
        refine own_go (B := T90.setTop (mkF m 181 #[.val (.int p1), .val (.int p2), .val (.int p3), .val (.int p4), .val (.int vn), .val (.int va), .val (.int vb), .val (.int vc), .val (.ref b68), .val (.int (1 : Int32)), .val (.int x), .unset] [(.int (own_f11 va vb))])) (fun t k => st90 _ k) ?_
        rw [hmx]
        refine own_go (B := T90.setTop (mkF m 183 #[.val (.int p1), .val (.int p2), .val (.int p3), .val (.int p4), .val (.int vn), .val (.int va), .val (.int vb), .val (.int vc), .val (.ref b68), .val (.int (1 : Int32)), .val (.int x), .val (.int y)] [])) (fun t k => XS.istore X90.here hx rfl (Jvm.hb hby at_181) rfl (l' := #[.val (.int p1), .val (.int p2), .val (.int p3), .val (.int p4), .val (.int vn), .val (.int va), .val (.int vb), .val (.int vc), .val (.ref b68), .val (.int (1 : Int32)), .val (.int x), .val (.int y)]) rfl k) ?_
        refine own_go (B := T90.setTop (mkF m 185 #[.val (.int p1), .val (.int p2), .val (.int p3), .val (.int p4), .val (.int vn), .val (.int va), .val (.int vb), .val (.int vc), .val (.ref b68), .val (.int (1 : Int32)), .val (.int x), .val (.int y)] [(.int (1 : Int32))])) (fun t k => XS.iload X90.here hx rfl (Jvm.hb hby at_183) rfl k) ?_
        refine own_go (B := T90.setTop (mkF m 188 #[.val (.int p1), .val (.int p2), .val (.int p3), .val (.int p4), .val (.int vn), .val (.int va), .val (.int vb), .val (.int vc), .val (.ref b68), .val (.int (1 : Int32)), .val (.int x), .val (.int y)] [])) (fun t k => XS.ifNo X90.here hx rfl (Jvm.hb hby at_185) rfl ((if0 _ _).trans (feq (by decide : ¬ ((1 : Int32) = (0 : Int32)))).1) k) ?_
        refine own_go (B := T90.setTop (mkF m 190 #[.val (.int p1), .val (.int p2), .val (.int p3), .val (.int p4), .val (.int vn), .val (.int va), .val (.int vb), .val (.int vc), .val (.ref b68), .val (.int (1 : Int32)), .val (.int x), .val (.int y)] [(.ref b68)])) (fun t k => XS.aload X90.here hx rfl (Jvm.hb hby at_188) rfl rfl k) ?_
        refine own_go (B := T90.setTop (mkF m 191 #[.val (.int p1), .val (.int p2), .val (.int p3), .val (.int p4), .val (.int vn), .val (.int va), .val (.int vb), .val (.int vc), .val (.ref b68), .val (.int (1 : Int32)), .val (.int x), .val (.int y)] [(.int (0 : Int32)), (.ref b68)])) (fun t k => XS.iconst X90.here hx rfl (Jvm.hb hby at_190) k) ?_
        obtain ⟨cq91, kq91, q91a, q91b, q91c⟩ := isOf hZ e90 E_b68
        obtain ⟨_, _, ⟨T91, La91, ka91, na91⟩, -, X91, ⟨Lc91, hQ91, l91, y91, z91⟩, st91⟩ := X90.virtualBack hx (y := (⟨"com/example/netloom/netloom/embed/NodeSet", "take", "(I)I"⟩ : MethodName)) (z := (⟨"com/example/netloom/netloom/embed/NodeSet", "take", "(I)I"⟩ : MethodName)) hown (mvT hZ (own_w hw 56 rfl)) (mvT hZ (own_w hw 57 rfl)) (notFace_of_selects (args := #[]) (mvT hZ (own_w hw 59 rfl))) (mvT hZ (own_w hw 59 rfl)) (mvT hZ (own_w hw 58 rfl)) (by decide) (backOf (W := 0) (rm_take1 l Z a0 hw [] b68 b70 b71 (own_lw vn).toNatClampNeg (own_lw (own_lw vn)).toNatClampNeg (own_lw vn) (own_lw (own_lw vn)) (own_w2 x y) (own_w2 (x / (64 : Int32)) (y / (64 : Int32))) (x / (64 : Int32)) T73.heap n0 Zs E_b68 F_b68_words F_b68_occupied V_b70 V_b71 g_b70 g_b71 ne_b68_b70 ne_b68_b71 ne_b70_b71 (own_B x y vn hx0 hxy hyn hvnr).1 (own_B x y vn hx0 hxy hyn hvnr).2.1 (own_B x y vn hx0 hxy hyn hvnr).2.2.1 (own_B x y vn hx0 hxy hyn hvnr).2.2.2.1 l1 l2 l3 l4 l5 l6 (own_B x y vn hx0 hxy hyn hvnr).2.2.2.2) hZ (own_w hw 60 rfl) (own_w hw 3 rfl) (by decide) (by decide)) q91a q91c (g := (mkF m 191 #[.val (.int p1), .val (.int p2), .val (.int p3), .val (.int p4), .val (.int vn), .val (.int va), .val (.int vb), .val (.int vc), .val (.ref b68), .val (.int (1 : Int32)), .val (.int x), .val (.int y)] [(.int (0 : Int32)), (.ref b68)])) rfl (by rw [hml]; rfl) (Steps.refl _) (argsL := [(.int (0 : Int32))]) (rest := []) (lenOf pd_0 rfl) rfl (by show 2 * 0 + _ ≤ _; exact Nat.le_of_eq rfl) (Jvm.hb hby at_191) (fun _ _ => ⟨rfl, e90, (by decide : 3 + 0 ≤ _), (by decide : 132 + 0 ≤ _)⟩)
        dsimp only [Pt.U, Pt.locs, Pt.cells, Pt.slots] at X91 l91 y91 z91 st91 hQ91
        subst l91 y91 z91
        obtain ⟨rfl, N91q, Kc91, V_b70_q, V_b71_q⟩ := hQ91
        have N91 := Fr.app N90 N91q
        have E_b68 := E_b68.keep Kc91
        have F_b68_words := F_b68_words.keep Kc91 (ninS ne_b68_b70 (ninS ne_b68_b71 nin0))
        have F_b68_occupied := F_b68_occupied.keep Kc91 (ninS ne_b68_b70 (ninS ne_b68_b71 nin0))
        have Zs := Nat.le_trans Zs Kc91.1
        have V_b70 := V_b70_q
        have V_b71 := V_b71_q
        refine own_go (B := T91.setTop (mkF m 194 #[.val (.int p1), .val (.int p2), .val (.int p3), .val (.int p4), .val (.int vn), .val (.int va), .val (.int vb), .val (.int vc), .val (.ref b68), .val (.int (1 : Int32)), .val (.int x), .val (.int y)] [(.int (((64 : Int32) * (x / (64 : Int32))) + (own_f7 (own_f13 ((own_w2 x y) (x / (64 : Int32)).toNatClampNeg)))))])) (fun t k => own_st st91 k) ?_
        have V_b70 : own_LA Z T91.heap b70 (own_lw vn).toNatClampNeg (own_w2 y y) := V_b70.cong (fun i _ => own_tw2 x y hx0 hlt i)
        have V_b71 : own_LA Z T91.heap b71 (own_lw (own_lw vn)).toNatClampNeg (own_w2 (y / (64 : Int32)) (y / (64 : Int32))) := V_b71.cong (fun i _ => own_tg3 x y hx0 hlt s2 i)
        refine own_go (B := T91.setTop (mkF m 196 #[.val (.int p1), .val (.int p2), .val (.int p3), .val (.int p4), .val (.int vn), .val (.int va), .val (.int vb), .val (.int vc), .val (.ref b68), .val (.int (1 : Int32)), .val (.int x), .val (.int y)] [(.int x), (.int (((64 : Int32) * (x / (64 : Int32))) + (own_f7 (own_f13 ((own_w2 x y) (x / (64 : Int32)).toNatClampNeg)))))])) (fun t k => XS.iload X91.here hx rfl (Jvm.hb hby at_194) rfl k) ?_
        refine own_go (B := T91.setTop (mkF m 199 #[.val (.int p1), .val (.int p2), .val (.int p3), .val (.int p4), .val (.int vn), .val (.int va), .val (.int vb), .val (.int vc), .val (.ref b68), .val (.int (1 : Int32)), .val (.int x), .val (.int y)] [])) (fun t k => XS.icmpNo X91.here hx rfl (Jvm.hb hby at_196) rfl (teq (own_tv x y hx0 hxy (by omega))).2 k) ?_
        refine own_go (B := T91.setTop (mkF m 200 #[.val (.int p1), .val (.int p2), .val (.int p3), .val (.int p4), .val (.int vn), .val (.int va), .val (.int vb), .val (.int vc), .val (.ref b68), .val (.int (1 : Int32)), .val (.int x), .val (.int y)] [(.int (1 : Int32))])) (fun t k => XS.iconst X91.here hx rfl (Jvm.hb hby at_199) k) ?_
        refine own_go (B := T91.setTop (mkF m 204 #[.val (.int p1), .val (.int p2), .val (.int p3), .val (.int p4), .val (.int vn), .val (.int va), .val (.int vb), .val (.int vc), .val (.ref b68), .val (.int (1 : Int32)), .val (.int x), .val (.int y)] [(.int (1 : Int32))])) (fun t k => XS.goto X91.here hx rfl (pc0 := 200) (pc' := 204) rfl (Jvm.hb hby at_200) (by decide) (by decide) k) ?_
        refine own_go (B := T91.setTop (mkF m 206 #[.val (.int p1), .val (.int p2), .val (.int p3), .val (.int p4), .val (.int vn), .val (.int va), .val (.int vb), .val (.int vc), .val (.ref b68), .val (.int (1 : Int32)), .val (.int x), .val (.int y)] [])) (fun t k => XS.istore X91.here hx rfl (Jvm.hb hby at_204) rfl (l' := #[.val (.int p1), .val (.int p2), .val (.int p3), .val (.int p4), .val (.int vn), .val (.int va), .val (.int vb), .val (.int vc), .val (.ref b68), .val (.int (1 : Int32)), .val (.int x), .val (.int y)]) rfl k) ?_
        refine own_go (B := T91.setTop (mkF m 208 #[.val (.int p1), .val (.int p2), .val (.int p3), .val (.int p4), .val (.int vn), .val (.int va), .val (.int vb), .val (.int vc), .val (.ref b68), .val (.int (1 : Int32)), .val (.int x), .val (.int y)] [(.int va)])) (fun t k => XS.iload X91.here hx rfl (Jvm.hb hby at_206) rfl k) ?_
        refine own_go (B := T91.setTop (mkF m 210 #[.val (.int p1), .val (.int p2), .val (.int p3), .val (.int p4), .val (.int vn), .val (.int va), .val (.int vb), .val (.int vc), .val (.ref b68), .val (.int (1 : Int32)), .val (.int x), .val (.int y)] [(.int vb), (.int va)])) (fun t k => XS.iload X91.here hx rfl (Jvm.hb hby at_208) rfl k) ?_
        refine own_go (B := T91.setTop (mkF m 213 #[.val (.int p1), .val (.int p2), .val (.int p3), .val (.int p4), .val (.int vn), .val (.int va), .val (.int vb), .val (.int vc), .val (.ref b68), .val (.int (1 : Int32)), .val (.int x), .val (.int y)] [])) (fun t k => XS.icmpNo X91.here hx rfl (Jvm.hb hby at_210) rfl (feq (fun z => s1 (by rcases hor with ⟨h, h'⟩ | ⟨h, h'⟩; rw [h, h', z]; rw [h, h', z]))).1 k) ?_
        refine own_go (B := T91.setTop (mkF m 215 #[.val (.int p1), .val (.int p2), .val (.int p3), .val (.int p4), .val (.int vn), .val (.int va), .val (.int vb), .val (.int vc), .val (.ref b68), .val (.int (1 : Int32)), .val (.int x), .val (.int y)] [(.int (1 : Int32))])) (fun t k => XS.iload X91.here hx rfl (Jvm.hb hby at_213) rfl k) ?_
        refine own_go (B := T91.setTop (mkF m 218 #[.val (.int p1), .val (.int p2), .val (.int p3), .val (.int p4), .val (.int vn), .val (.int va), .val (.int vb), .val (.int vc), .val (.ref b68), .val (.int (1 : Int32)), .val (.int x), .val (.int y)] [])) (fun t k => XS.ifNo X91.here hx rfl (Jvm.hb hby at_215) rfl ((if0 _ _).trans (feq (by decide : ¬ ((1 : Int32) = (0 : Int32)))).1) k) ?_
        refine own_go (B := T91.setTop (mkF m 220 #[.val (.int p1), .val (.int p2), .val (.int p3), .val (.int p4), .val (.int vn), .val (.int va), .val (.int vb), .val (.int vc), .val (.ref b68), .val (.int (1 : Int32)), .val (.int x), .val (.int y)] [(.ref b68)])) (fun t k => XS.aload X91.here hx rfl (Jvm.hb hby at_218) rfl rfl k) ?_
        refine own_go (B := T91.setTop (mkF m 221 #[.val (.int p1), .val (.int p2), .val (.int p3), .val (.int p4), .val (.int vn), .val (.int va), .val (.int vb), .val (.int vc), .val (.ref b68), .val (.int (1 : Int32)), .val (.int x), .val (.int y)] [(.int (0 : Int32)), (.ref b68)])) (fun t k => XS.iconst X91.here hx rfl (Jvm.hb hby at_220) k) ?_
        obtain ⟨cq92, kq92, q92a, q92b, q92c⟩ := isOf hZ rfl E_b68
        obtain ⟨_, _, ⟨T92, La92, ka92, na92⟩, -, X92, ⟨Lc92, hQ92, l92, y92, z92⟩, st92⟩ := X91.virtualBack hx (y := (⟨"com/example/netloom/netloom/embed/NodeSet", "take", "(I)I"⟩ : MethodName)) (z := (⟨"com/example/netloom/netloom/embed/NodeSet", "take", "(I)I"⟩ : MethodName)) hown (mvT hZ (own_w hw 56 rfl)) (mvT hZ (own_w hw 57 rfl)) (notFace_of_selects (args := #[]) (mvT hZ (own_w hw 59 rfl))) (mvT hZ (own_w hw 59 rfl)) (mvT hZ (own_w hw 58 rfl)) (by decide) (backOf (W := 0) (rm_take1 l Z a0 hw [] b68 b70 b71 (own_lw vn).toNatClampNeg (own_lw (own_lw vn)).toNatClampNeg (own_lw vn) (own_lw (own_lw vn)) (own_w2 y y) (own_w2 (y / (64 : Int32)) (y / (64 : Int32))) (y / (64 : Int32)) T91.heap n0 Zs E_b68 F_b68_words F_b68_occupied V_b70 V_b71 g_b70 g_b71 ne_b68_b70 ne_b68_b71 ne_b70_b71 (own_B y y vn (by omega) (Int.le_refl _) hyn hvnr).1 (own_B y y vn (by omega) (Int.le_refl _) hyn hvnr).2.1 (own_B y y vn (by omega) (Int.le_refl _) hyn hvnr).2.2.1 (own_B y y vn (by omega) (Int.le_refl _) hyn hvnr).2.2.2.1 l1 l2 l3 l4 l5 l6 (own_B y y vn (by omega) (Int.le_refl _) hyn hvnr).2.2.2.2) hZ (own_w hw 60 rfl) (own_w hw 3 rfl) (by decide) (by decide)) q92a q92c (g := (mkF m 221 #[.val (.int p1), .val (.int p2), .val (.int p3), .val (.int p4), .val (.int vn), .val (.int va), .val (.int vb), .val (.int vc), .val (.ref b68), .val (.int (1 : Int32)), .val (.int x), .val (.int y)] [(.int (0 : Int32)), (.ref b68)])) rfl (by rw [hml]; rfl) (Steps.refl _) (argsL := [(.int (0 : Int32))]) (rest := []) (lenOf pd_0 rfl) rfl (by show 2 * 0 + _ ≤ _; exact Nat.le_of_eq rfl) (Jvm.hb hby at_221) (fun _ _ => ⟨rfl, rfl, (by decide : 3 + 0 ≤ _), (by decide : 132 + 0 ≤ _)⟩)
        dsimp only [Pt.U, Pt.locs, Pt.cells, Pt.slots] at X92 l92 y92 z92 st92 hQ92
        subst l92 y92 z92
        obtain ⟨rfl, N92q, Kc92, V_b70_q, V_b71_q⟩ := hQ92
        have N92 := Fr.app N91 N92q
        have E_b68 := E_b68.keep Kc92
        have F_b68_words := F_b68_words.keep Kc92 (ninS ne_b68_b70 (ninS ne_b68_b71 nin0))
        have F_b68_occupied := F_b68_occupied.keep Kc92 (ninS ne_b68_b70 (ninS ne_b68_b71 nin0))
        have Zs := Nat.le_trans Zs Kc92.1
        have V_b70 := V_b70_q
        have V_b71 := V_b71_q
        refine own_go (B := T92.setTop (mkF m 224 #[.val (.int p1), .val (.int p2), .val (.int p3), .val (.int p4), .val (.int vn), .val (.int va), .val (.int vb), .val (.int vc), .val (.ref b68), .val (.int (1 : Int32)), .val (.int x), .val (.int y)] [(.int (((64 : Int32) * (y / (64 : Int32))) + (own_f7 (own_f13 ((own_w2 y y) (y / (64 : Int32)).toNatClampNeg)))))])) (fun t k => own_st st92 k) ?_
        have V_b70 : own_LA Z T92.heap b70 (own_lw vn).toNatClampNeg (fun _ => 0) := V_b70.cong (fun i _ => own_tw1 y (by omega) i)
        have V_b71 : own_LA Z T92.heap b71 (own_lw (own_lw vn)).toNatClampNeg (fun _ => 0) := V_b71.cong (fun i _ => own_tg1 y (by omega) i)
        refine own_go (B := T92.setTop (mkF m 226 #[.val (.int p1), .val (.int p2), .val (.int p3), .val (.int p4), .val (.int vn), .val (.int va), .val (.int vb), .val (.int vc), .val (.ref b68), .val (.int (1 : Int32)), .val (.int x), .val (.int y)] [(.int y), (.int (((64 : Int32) * (y / (64 : Int32))) + (own_f7 (own_f13 ((own_w2 y y) (y / (64 : Int32)).toNatClampNeg)))))])) (fun t k => XS.iload X92.here hx rfl (Jvm.hb hby at_224) rfl k) ?_
        refine own_go (B := T92.setTop (mkF m 229 #[.val (.int p1), .val (.int p2), .val (.int p3), .val (.int p4), .val (.int vn), .val (.int va), .val (.int vb), .val (.int vc), .val (.ref b68), .val (.int (1 : Int32)), .val (.int x), .val (.int y)] [])) (fun t k => XS.icmpNo X92.here hx rfl (Jvm.hb hby at_226) rfl (teq (own_tv y y (by omega) (Int.le_refl _) (by omega))).2 k) ?_
        refine own_go (B := T92.setTop (mkF m 230 #[.val (.int p1), .val (.int p2), .val (.int p3), .val (.int p4), .val (.int vn), .val (.int va), .val (.int vb), .val (.int vc), .val (.ref b68), .val (.int (1 : Int32)), .val (.int x), .val (.int y)] [(.int (1 : Int32))])) (fun t k => XS.iconst X92.here hx rfl (Jvm.hb hby at_229) k) ?_
        refine own_go (B := T92.setTop (mkF m 234 #[.val (.int p1), .val (.int p2), .val (.int p3), .val (.int p4), .val (.int vn), .val (.int va), .val (.int vb), .val (.int vc), .val (.ref b68), .val (.int (1 : Int32)), .val (.int x), .val (.int y)] [(.int (1 : Int32))])) (fun t k => XS.goto X92.here hx rfl (pc0 := 230) (pc' := 234) rfl (Jvm.hb hby at_230) (by decide) (by decide) k) ?_
        refine own_go (B := T92.setTop (mkF m 236 #[.val (.int p1), .val (.int p2), .val (.int p3), .val (.int p4), .val (.int vn), .val (.int va), .val (.int vb), .val (.int vc), .val (.ref b68), .val (.int (1 : Int32)), .val (.int x), .val (.int y)] [])) (fun t k => XS.istore X92.here hx rfl (Jvm.hb hby at_234) rfl (l' := #[.val (.int p1), .val (.int p2), .val (.int p3), .val (.int p4), .val (.int vn), .val (.int va), .val (.int vb), .val (.int vc), .val (.ref b68), .val (.int (1 : Int32)), .val (.int x), .val (.int y)]) rfl k) ?_
        refine own_go (B := T92.setTop (mkF m 238 #[.val (.int p1), .val (.int p2), .val (.int p3), .val (.int p4), .val (.int vn), .val (.int va), .val (.int vb), .val (.int vc), .val (.ref b68), .val (.int (1 : Int32)), .val (.int x), .val (.int y)] [(.int (1 : Int32))])) (fun t k => XS.iload X92.here hx rfl (Jvm.hb hby at_236) rfl k) ?_
        refine own_go (B := T92.setTop (mkF m 241 #[.val (.int p1), .val (.int p2), .val (.int p3), .val (.int p4), .val (.int vn), .val (.int va), .val (.int vb), .val (.int vc), .val (.ref b68), .val (.int (1 : Int32)), .val (.int x), .val (.int y)] [])) (fun t k => XS.ifNo X92.here hx rfl (Jvm.hb hby at_238) rfl ((if0 _ _).trans (feq (by decide : ¬ ((1 : Int32) = (0 : Int32)))).1) k) ?_
        refine own_go (B := T92.setTop (mkF m 243 #[.val (.int p1), .val (.int p2), .val (.int p3), .val (.int p4), .val (.int vn), .val (.int va), .val (.int vb), .val (.int vc), .val (.ref b68), .val (.int (1 : Int32)), .val (.int x), .val (.int y)] [(.ref b68)])) (fun t k => XS.aload X92.here hx rfl (Jvm.hb hby at_241) rfl rfl k) ?_
        refine own_go (B := T92.setTop (mkF m 244 #[.val (.int p1), .val (.int p2), .val (.int p3), .val (.int p4), .val (.int vn), .val (.int va), .val (.int vb), .val (.int vc), .val (.ref b68), .val (.int (1 : Int32)), .val (.int x), .val (.int y)] [(.int (0 : Int32)), (.ref b68)])) (fun t k => XS.iconst X92.here hx rfl (Jvm.hb hby at_243) k) ?_
        obtain ⟨cq93, kq93, q93a, q93b, q93c⟩ := isOf hZ rfl E_b68
        obtain ⟨_, _, ⟨T93, La93, ka93, na93⟩, -, X93, ⟨Lc93, hQ93, l93, y93, z93⟩, st93⟩ := X92.virtualBack hx (y := (⟨"com/example/netloom/netloom/embed/NodeSet", "take", "(I)I"⟩ : MethodName)) (z := (⟨"com/example/netloom/netloom/embed/NodeSet", "take", "(I)I"⟩ : MethodName)) hown (mvT hZ (own_w hw 56 rfl)) (mvT hZ (own_w hw 57 rfl)) (notFace_of_selects (args := #[]) (mvT hZ (own_w hw 59 rfl))) (mvT hZ (own_w hw 59 rfl)) (mvT hZ (own_w hw 58 rfl)) (by decide) (backOf (W := 0) (rm_take0 l Z a0 hw [] b68 b70 b71 (own_lw vn).toNatClampNeg (own_lw (own_lw vn)).toNatClampNeg (own_lw vn) (own_lw (own_lw vn)) (fun _ => 0) (fun _ => 0) T92.heap n0 Zs E_b68 F_b68_words F_b68_occupied V_b70 V_b71 (own_B0 vn hvnr) l1 l2 l3 l4 l5 l6) hZ (own_w hw 60 rfl) (own_w hw 3 rfl) (by decide) (by decide)) q93a q93c (g := (mkF m 244 #[.val (.int p1), .val (.int p2), .val (.int p3), .val (.int p4), .val (.int vn), .val (.int va), .val (.int vb), .val (.int vc), .val (.ref b68), .val (.int (1 : Int32)), .val (.int x), .val (.int y)] [(.int (0 : Int32)), (.ref b68)])) rfl (by rw [hml]; rfl) (Steps.refl _) (argsL := [(.int (0 : Int32))]) (rest := []) (lenOf pd_0 rfl) rfl (by show 2 * 0 + _ ≤ _; exact Nat.le_of_eq rfl) (Jvm.hb hby at_244) (fun _ _ => ⟨rfl, rfl, (by decide : 3 + 0 ≤ _), (by decide : 132 + 0 ≤ _)⟩)
        dsimp only [Pt.U, Pt.locs, Pt.cells, Pt.slots] at X93 l93 y93 z93 st93 hQ93
        subst l93 y93 z93
        obtain ⟨rfl, N93q, e93⟩ := hQ93
        have N93 := Fr.app N92 N93q
        refine own_go (B := T93.setTop (mkF m 247 #[.val (.int p1), .val (.int p2), .val (.int p3), .val (.int p4), .val (.int vn), .val (.int va), .val (.int vb), .val (.int vc), .val (.ref b68), .val (.int (1 : Int32)), .val (.int x), .val (.int y)] [(.int (-1 : Int32))])) (fun t k => own_st st93 k) ?_
        refine own_go (B := T93.setTop (mkF m 248 #[.val (.int p1), .val (.int p2), .val (.int p3), .val (.int p4), .val (.int vn), .val (.int va), .val (.int vb), .val (.int vc), .val (.ref b68), .val (.int (1 : Int32)), .val (.int x), .val (.int y)] [(.int (-1 : Int32)), (.int (-1 : Int32))])) (fun t k => XS.iconst X93.here hx rfl (Jvm.hb hby at_247) k) ?_
        refine own_go (B := T93.setTop (mkF m 251 #[.val (.int p1), .val (.int p2), .val (.int p3), .val (.int p4), .val (.int vn), .val (.int va), .val (.int vb), .val (.int vc), .val (.ref b68), .val (.int (1 : Int32)), .val (.int x), .val (.int y)] [])) (fun t k => XS.icmpNo X93.here hx rfl (Jvm.hb hby at_248) rfl (teq (by decide : (-1 : Int32) = (-1 : Int32))).2 k) ?_
        refine own_go (B := T93.setTop (mkF m 252 #[.val (.int p1), .val (.int p2), .val (.int p3), .val (.int p4), .val (.int vn), .val (.int va), .val (.int vb), .val (.int vc), .val (.ref b68), .val (.int (1 : Int32)), .val (.int x), .val (.int y)] [(.int (1 : Int32))])) (fun t k => XS.iconst X93.here hx rfl (Jvm.hb hby at_251) k) ?_
        refine own_go (B := T93.setTop (mkF m 256 #[.val (.int p1), .val (.int p2), .val (.int p3), .val (.int p4), .val (.int vn), .val (.int va), .val (.int vb), .val (.int vc), .val (.ref b68), .val (.int (1 : Int32)), .val (.int x), .val (.int y)] [(.int (1 : Int32))])) (fun t k => XS.goto X93.here hx rfl (pc0 := 252) (pc' := 256) rfl (Jvm.hb hby at_252) (by decide) (by decide) k) ?_
        refine own_go (B := T93.setTop (mkF m 258 #[.val (.int p1), .val (.int p2), .val (.int p3), .val (.int p4), .val (.int vn), .val (.int va), .val (.int vb), .val (.int vc), .val (.ref b68), .val (.int (1 : Int32)), .val (.int x), .val (.int y)] [])) (fun t k => XS.istore X93.here hx rfl (Jvm.hb hby at_256) rfl (l' := #[.val (.int p1), .val (.int p2), .val (.int p3), .val (.int p4), .val (.int vn), .val (.int va), .val (.int vb), .val (.int vc), .val (.ref b68), .val (.int (1 : Int32)), .val (.int x), .val (.int y)]) rfl k) ?_
        refine own_go (B := T93.setTop (mkF m 260 #[.val (.int p1), .val (.int p2), .val (.int p3), .val (.int p4), .val (.int vn), .val (.int va), .val (.int vb), .val (.int vc), .val (.ref b68), .val (.int (1 : Int32)), .val (.int x), .val (.int y)] [(.int (1 : Int32))])) (fun t k => XS.iload X93.here hx rfl (Jvm.hb hby at_258) rfl k) ?_
        refine own_out X93 (v := (some (.int (1 : Int32)))) (fun h => by rw [Bd.returns] at h; cases h) Bd.notSynchronized (fun fs hr => retOut X93 hx (t := .boolean) Bd.returns rfl (by first | exact Or.inl ⟨rfl, by simp, _, rfl⟩) (Jvm.hb hby at_260) hr) ?_ (by decide) (by decide)
        show own_Q0 Z p1 p2 p3 p4 h0 n0 (some (.int (1 : Int32))) T93.heap _
        rw [e93]
        exact ⟨rfl, N93⟩
  refine own_go (B := T76.setTop (mkF m 106 #[.val (.int p1), .val (.int p2), .val (.int p3), .val (.int p4), .val (.int vn), .val (.int va), .val (.int vb), .val (.int vc), .val (.ref b68), .val (.int (1 : Int32)), .unset, .unset] [(.int vc), (.int (own_con (own_w2 x y) vc))])) (fun t k => XS.iload X76.here hx rfl (Jvm.hb hby at_104) rfl k) ?_
  refine own_go (B := T76.setTop (mkF m 108 #[.val (.int p1), .val (.int p2), .val (.int p3), .val (.int p4), .val (.int vn), .val (.int va), .val (.int vb), .val (.int vc), .val (.ref b68), .val (.int (1 : Int32)), .unset, .unset] [(.int va), (.int vc), (.int (own_con (own_w2 x y) vc))])) (fun t k => XS.iload X76.here hx rfl (Jvm.hb hby at_106) rfl k) ?_
  by_cases hc108_94 : vc = va
  · refine own_go (B := T76.setTop (mkF m 118 #[.val (.int p1), .val (.int p2), .val (.int p3), .val (.int p4), .val (.int vn), .val (.int va), .val (.int vb), .val (.int vc), .val (.ref b68), .val (.int (1 : Int32)), .unset, .unset] [(.int (own_con (own_w2 x y) vc))])) (fun t k => XS.icmpYes X76.here hx rfl (pc0 := 108) (pc' := 118) rfl (Jvm.hb hby at_108) rfl (teq hc108_94).1 (by decide) (by decide) k) ?_
    refine own_go (B := T76.setTop (mkF m 119 #[.val (.int p1), .val (.int p2), .val (.int p3), .val (.int p4), .val (.int vn), .val (.int va), .val (.int vb), .val (.int vc), .val (.ref b68), .val (.int (1 : Int32)), .unset, .unset] [(.int (1 : Int32)), (.int (own_con (own_w2 x y) vc))])) (fun t k => XS.iconst X76.here hx rfl (Jvm.hb hby at_118) k) ?_
    refine own_go (B := T76.setTop (mkF m 123 #[.val (.int p1), .val (.int p2), .val (.int p3), .val (.int p4), .val (.int vn), .val (.int va), .val (.int vb), .val (.int vc), .val (.ref b68), .val (.int (1 : Int32)), .unset, .unset] [(.int (1 : Int32)), (.int (own_con (own_w2 x y) vc))])) (fun t k => XS.goto X76.here hx rfl (pc0 := 119) (pc' := 123) rfl (Jvm.hb hby at_119) (by decide) (by decide) k) ?_
    refine own_go (B := T76.setTop (mkF m 126 #[.val (.int p1), .val (.int p2), .val (.int p3), .val (.int p4), .val (.int vn), .val (.int va), .val (.int vb), .val (.int vc), .val (.ref b68), .val (.int (1 : Int32)), .unset, .unset] [])) (fun t k => XS.icmpNo X76.here hx rfl (Jvm.hb hby at_123) rfl (teq ((own_conv _ vc).2 ((own_hasw x y vc hx0 (by omega) hvcr.1).mpr (by rw [hc108_94]; rcases hor with ⟨h, h'⟩ | ⟨h, h'⟩; exact Or.inl h.symm; exact Or.inr h'.symm)))).2 k) ?_
    refine own_go (B := T76.setTop (mkF m 127 #[.val (.int p1), .val (.int p2), .val (.int p3), .val (.int p4), .val (.int vn), .val (.int va), .val (.int vb), .val (.int vc), .val (.ref b68), .val (.int (1 : Int32)), .unset, .unset] [(.int (1 : Int32))])) (fun t k => XS.iconst X76.here hx rfl (Jvm.hb hby at_126) k) ?_
    refine own_go (B := T76.setTop (mkF m 131 #[.val (.int p1), .val (.int p2), .val (.int p3), .val (.int p4), .val (.int vn), .val (.int va), .val (.int vb), .val (.int vc), .val (.ref b68), .val (.int (1 : Int32)), .unset, .unset] [(.int (1 : Int32))])) (fun t k => XS.goto X76.here hx rfl (pc0 := 127) (pc' := 131) rfl (Jvm.hb hby at_127) (by decide) (by decide) k) ?_
    refine own_go (B := T76.setTop (mkF m 133 #[.val (.int p1), .val (.int p2), .val (.int p3), .val (.int p4), .val (.int vn), .val (.int va), .val (.int vb), .val (.int vc), .val (.ref b68), .val (.int (1 : Int32)), .unset, .unset] [])) (fun t k => XS.istore X76.here hx rfl (Jvm.hb hby at_131) rfl (l' := #[.val (.int p1), .val (.int p2), .val (.int p3), .val (.int p4), .val (.int vn), .val (.int va), .val (.int vb), .val (.int vc), .val (.ref b68), .val (.int (1 : Int32)), .unset, .unset]) rfl k) ?_
    exact J133 T76 _ X76 e76 N76 
  · refine own_go (B := T76.setTop (mkF m 111 #[.val (.int p1), .val (.int p2), .val (.int p3), .val (.int p4), .val (.int vn), .val (.int va), .val (.int vb), .val (.int vc), .val (.ref b68), .val (.int (1 : Int32)), .unset, .unset] [(.int (own_con (own_w2 x y) vc))])) (fun t k => XS.icmpNo X76.here hx rfl (Jvm.hb hby at_108) rfl (feq hc108_94).1 k) ?_
    refine own_go (B := T76.setTop (mkF m 113 #[.val (.int p1), .val (.int p2), .val (.int p3), .val (.int p4), .val (.int vn), .val (.int va), .val (.int vb), .val (.int vc), .val (.ref b68), .val (.int (1 : Int32)), .unset, .unset] [(.int vc), (.int (own_con (own_w2 x y) vc))])) (fun t k => XS.iload X76.here hx rfl (Jvm.hb hby at_111) rfl k) ?_
    refine own_go (B := T76.setTop (mkF m 115 #[.val (.int p1), .val (.int p2), .val (.int p3), .val (.int p4), .val (.int vn), .val (.int va), .val (.int vb), .val (.int vc), .val (.ref b68), .val (.int (1 : Int32)), .unset, .unset] [(.int vb), (.int vc), (.int (own_con (own_w2 x y) vc))])) (fun t k => XS.iload X76.here hx rfl (Jvm.hb hby at_113) rfl k) ?_
    by_cases hc115_95 : vc = vb
    · refine own_go (B := T76.setTop (mkF m 118 #[.val (.int p1), .val (.int p2), .val (.int p3), .val (.int p4), .val (.int vn), .val (.int va), .val (.int vb), .val (.int vc), .val (.ref b68), .val (.int (1 : Int32)), .unset, .unset] [(.int (own_con (own_w2 x y) vc))])) (fun t k => XS.icmpNo X76.here hx rfl (Jvm.hb hby at_115) rfl (teq hc115_95).2 k) ?_
      refine own_go (B := T76.setTop (mkF m 119 #[.val (.int p1), .val (.int p2), .val (.int p3), .val (.int p4), .val (.int vn), .val (.int va), .val (.int vb), .val (.int vc), .val (.ref b68), .val (.int (1 : Int32)), .unset, .unset] [(.int (1 : Int32)), (.int (own_con (own_w2 x y) vc))])) (fun t k => XS.iconst X76.here hx rfl (Jvm.hb hby at_118) k) ?_
      refine own_go (B := T76.setTop (mkF m 123 #[.val (.int p1), .val (.int p2), .val (.int p3), .val (.int p4), .val (.int vn), .val (.int va), .val (.int vb), .val (.int vc), .val (.ref b68), .val (.int (1 : Int32)), .unset, .unset] [(.int (1 : Int32)), (.int (own_con (own_w2 x y) vc))])) (fun t k => XS.goto X76.here hx rfl (pc0 := 119) (pc' := 123) rfl (Jvm.hb hby at_119) (by decide) (by decide) k) ?_
      refine own_go (B := T76.setTop (mkF m 126 #[.val (.int p1), .val (.int p2), .val (.int p3), .val (.int p4), .val (.int vn), .val (.int va), .val (.int vb), .val (.int vc), .val (.ref b68), .val (.int (1 : Int32)), .unset, .unset] [])) (fun t k => XS.icmpNo X76.here hx rfl (Jvm.hb hby at_123) rfl (teq ((own_conv _ vc).2 ((own_hasw x y vc hx0 (by omega) hvcr.1).mpr (by rw [hc115_95]; rcases hor with ⟨h, h'⟩ | ⟨h, h'⟩; exact Or.inr h'.symm; exact Or.inl h.symm)))).2 k) ?_
      refine own_go (B := T76.setTop (mkF m 127 #[.val (.int p1), .val (.int p2), .val (.int p3), .val (.int p4), .val (.int vn), .val (.int va), .val (.int vb), .val (.int vc), .val (.ref b68), .val (.int (1 : Int32)), .unset, .unset] [(.int (1 : Int32))])) (fun t k => XS.iconst X76.here hx rfl (Jvm.hb hby at_126) k) ?_
      refine own_go (B := T76.setTop (mkF m 131 #[.val (.int p1), .val (.int p2), .val (.int p3), .val (.int p4), .val (.int vn), .val (.int va), .val (.int vb), .val (.int vc), .val (.ref b68), .val (.int (1 : Int32)), .unset, .unset] [(.int (1 : Int32))])) (fun t k => XS.goto X76.here hx rfl (pc0 := 127) (pc' := 131) rfl (Jvm.hb hby at_127) (by decide) (by decide) k) ?_
      refine own_go (B := T76.setTop (mkF m 133 #[.val (.int p1), .val (.int p2), .val (.int p3), .val (.int p4), .val (.int vn), .val (.int va), .val (.int vb), .val (.int vc), .val (.ref b68), .val (.int (1 : Int32)), .unset, .unset] [])) (fun t k => XS.istore X76.here hx rfl (Jvm.hb hby at_131) rfl (l' := #[.val (.int p1), .val (.int p2), .val (.int p3), .val (.int p4), .val (.int vn), .val (.int va), .val (.int vb), .val (.int vc), .val (.ref b68), .val (.int (1 : Int32)), .unset, .unset]) rfl k) ?_
      exact J133 T76 _ X76 e76 N76 
    · refine own_go (B := T76.setTop (mkF m 122 #[.val (.int p1), .val (.int p2), .val (.int p3), .val (.int p4), .val (.int vn), .val (.int va), .val (.int vb), .val (.int vc), .val (.ref b68), .val (.int (1 : Int32)), .unset, .unset] [(.int (own_con (own_w2 x y) vc))])) (fun t k => XS.icmpYes X76.here hx rfl (pc0 := 115) (pc' := 122) rfl (Jvm.hb hby at_115) rfl (feq hc115_95).2 (by decide) (by decide) k) ?_
      refine own_go (B := T76.setTop (mkF m 123 #[.val (.int p1), .val (.int p2), .val (.int p3), .val (.int p4), .val (.int vn), .val (.int va), .val (.int vb), .val (.int vc), .val (.ref b68), .val (.int (1 : Int32)), .unset, .unset] [(.int (0 : Int32)), (.int (own_con (own_w2 x y) vc))])) (fun t k => XS.iconst X76.here hx rfl (Jvm.hb hby at_122) k) ?_
      refine own_go (B := T76.setTop (mkF m 126 #[.val (.int p1), .val (.int p2), .val (.int p3), .val (.int p4), .val (.int vn), .val (.int va), .val (.int vb), .val (.int vc), .val (.ref b68), .val (.int (1 : Int32)), .unset, .unset] [])) (fun t k => XS.icmpNo X76.here hx rfl (Jvm.hb hby at_123) rfl (teq ((own_conv _ vc).1.mpr (fun z => by have q := (own_hasw x y vc hx0 (by omega) hvcr.1).mp z; rcases hor with ⟨h, h'⟩ | ⟨h, h'⟩ <;> rw [h, h'] at q <;> rcases q with q | q; exact hc108_94 q; exact hc115_95 q; exact hc115_95 q; exact hc108_94 q))).2 k) ?_
      refine own_go (B := T76.setTop (mkF m 127 #[.val (.int p1), .val (.int p2), .val (.int p3), .val (.int p4), .val (.int vn), .val (.int va), .val (.int vb), .val (.int vc), .val (.ref b68), .val (.int (1 : Int32)), .unset, .unset] [(.int (1 : Int32))])) (fun t k => XS.iconst X76.here hx rfl (Jvm.hb hby at_126) k) ?_
      refine own_go (B := T76.setTop (mkF m 131 #[.val (.int p1), .val (.int p2), .val (.int p3), .val (.int p4), .val (.int vn), .val (.int va), .val (.int vb), .val (.int vc), .val (.ref b68), .val (.int (1 : Int32)), .unset, .unset] [(.int (1 : Int32))])) (fun t k => XS.goto X76.here hx rfl (pc0 := 127) (pc' := 131) rfl (Jvm.hb hby at_127) (by decide) (by decide) k) ?_
      refine own_go (B := T76.setTop (mkF m 133 #[.val (.int p1), .val (.int p2), .val (.int p3), .val (.int p4), .val (.int vn), .val (.int va), .val (.int vb), .val (.int vc), .val (.ref b68), .val (.int (1 : Int32)), .unset, .unset] [])) (fun t k => XS.istore X76.here hx rfl (Jvm.hb hby at_131) rfl (l' := #[.val (.int p1), .val (.int p2), .val (.int p3), .val (.int p4), .val (.int vn), .val (.int va), .val (.int vb), .val (.int vc), .val (.ref b68), .val (.int (1 : Int32)), .unset, .unset]) rfl k) ?_
      exact J133 T76 _ X76 e76 N76 
set_option maxRecDepth 65536 in
set_option maxHeartbeats 40000000 in
theorem comes_1 {Post : Tables → Env → Array Value → State → Outcome → State → Prop} (hpost : ∀ tb e args s v u, (limb_1_1.after args s (.returned v) u = true ∧ limb_1_2.after args s (.returned v) u = true ∧ True) → FrameEnd s (.returned v) u (Jvm.fieldLocs frame_1_writes args s ++ Jvm.arrayLocs frame_1_arrays args s ++ Jvm.staticLocs frame_1_statics s) 16 384 → Post tb e args s (.returned v) u) :
    ArmFor flags0 classFile x code maxLocals ret World_1 tables_1 room_1 Calls_1 rest_1 Pre_1 Post := by
  intro l hfl _ _ p e ha hc hk s m args below hf hA hF happ hP
  obtain ⟨hcalls, hrest, hpre⟩ := hP
  obtain ⟨-, -, -, hnamed, -, -, -, hat⟩ := (Spec.applies_iff hf).mp happ
  obtain ⟨hg, hn⟩ := and_e (Cond.before_iff.mp (show (Jvm.Cond.and given_1 narrow_1).before args s = true from hpre))
  obtain ⟨g1a, g1b⟩ := and_e hg
  obtain ⟨g2a, g2b⟩ := and_e g1b
  obtain ⟨g3a, g3b⟩ := and_e g2b
  obtain ⟨g4a, g4b⟩ := and_e g3b
  obtain ⟨w0, w1, w2, w3, rfl⟩ : ∃ w0 w1 w2 w3 : Value, args = #[w0, w1, w2, w3] := by
    have hs : args.size = 4 := by simpa [Cond.value, given_1] using g1a
    obtain ⟨L⟩ := args
    match L, hs with
    | [w0, w1, w2, w3], _ => exact ⟨w0, w1, w2, w3, rfl⟩
  have hw := fun d (hd : d ∈ tables_1) => atoms_spec (ws := Jvm.Cond.code x code maxLocals ret :: tables_1) hat d (List.mem_cons_of_mem _ hd)
  obtain ⟨i0, ei0⟩ := is_v g2a
  obtain rfl : w0 = (.int i0) := Option.some.inj ei0
  obtain ⟨i1, ei1⟩ := is_v g3a
  obtain rfl : w1 = (.int i1) := Option.some.inj ei1
  obtain ⟨i2, ei2⟩ := is_v g4a
  obtain rfl : w2 = (.int i2) := Option.some.inj ei2
  obtain ⟨i3, ei3⟩ := is_v g4b
  obtain rfl : w3 = (.int i3) := Option.some.inj ei3
  obtain ⟨n, o, h1, h2, h3, _, L, rfl, ⟨rfl, N⟩, hq⟩ := rm0 l s _ hw tables_1 i0 i1 i2 i3 s.heap s.heap.size (Nat.le_refl _) p e ha hc hk s m _ below hf ((Spec.applies_iff_loose hf).mp happ).1 ⟨rfl, State.Warmed39.refl s, rfl⟩ trivial
  refine ⟨n, _, h1, h2, h3, hpost _ _ _ _ _ _ ⟨Cond.after_iff.mpr rfl, Cond.after_iff.mpr (eq_i res_at (Term.int_eval (1)) rfl), trivial⟩ ⟨hq.1, hq.2.1, (hq.2.2.sift fun y hy => Or.inr (N y hy)).mono (by decide) (by decide)⟩⟩
theorem main_1_1 : Claimed_1_1 := comes_1 fun _ _ _ _ _ _ h hF => ⟨h.1, hF⟩
theorem main_1_2 : Claimed_1_2 := comes_1 fun _ _ _ _ _ _ h hF => ⟨h.2.1, hF⟩
end Jvm.Pilot.@@N@@
namespace Jvm.Pilot.@@N@@
open Jvm Jvm.ClassFile Sem Op Lib Jvm.Free Jvm.Stand Jvm.Pilot.@@N@@.Jvm.D
/-! MADE BY PROGRAM (witnessworld.py) out of the Statement's table words and the real class files: 18 classes; the members and pool entries that the words name. The judged class is class 1, her method 1. -/
namespace start1
open Jvm.ClassFile
def u (s : String) : CpInfo := .utf8 (stringToUtf16 s)
/-- a pool by its gaps: so many unusable entries, then the entry; so many at the end -/
def gap : Nat → List CpInfo → List CpInfo
  | 0, r => r
  | n + 1, r => .unusable :: gap n r
def poolList (es : List (Nat × CpInfo)) (last : Nat) : List CpInfo := es.foldr (fun e r => gap e.1 (e.2 :: r)) (gap last [])
def pool (es : List (Nat × CpInfo)) (last : Nat) : Array CpInfo := ⟨poolList es last⟩
def fileOf (pool : Array CpInfo) (this : Nat) (attrs : Array Attribute := #[]) (ms : Array MethodInfo := #[]) (fl : Nat := 33) (sup : Nat := 0) (ifs : Array Nat := #[]) (fds : Array FieldInfo := #[]) : ClassFile where
  minorVersion := 0
  majorVersion := 65
  constantPool := pool
  accessFlags := fl
  thisClass := this
  superClass := sup
  interfaces := ifs
  fields := fds
  methods := ms
  attributes := attrs
def plain (name : String) (sup : Option ClassId) : Class where
  name := name
  kind := .ordinary
  loader := none
  accessFlags := 33
  super := sup
  interfaces := #[]
  cf := none
  fields := #[]
  methods := #[]
  instanceTypes := #[]
  staticTypes := #[]
  resolved := #[]
  callSites := []
  init := .initialized
  statics := none
  mirror := none

def pool0 : Array CpInfo := pool [(5, u "<init>"), (0, u "()V"), (1, .class_ 10), (1, u "java/lang/Object")] 113

def k0c0 : Code := { maxStack := 0, maxLocals := 1, code := object_method_1_code, exceptionTable := #[], attributes := #[] }
def k0m0 : Method := { name := "<init>", desc := "()V", sig := { parameters := [], returnType := none }, accessFlags := 1, code := some k0c0 }
/-- java/lang/Object -/
def k0 : Class := { plain "java/lang/Object" none with
  accessFlags := 33
  interfaces := #[]
  cf := some (fileOf pool0 8 #[] #[{ accessFlags := 1, nameIndex := 5, descriptorIndex := 6, attributes := #[] }] 33 0 #[] #[])
  fields := #[]
  methods := #[k0m0]
  instanceTypes := #[]
  staticTypes := #[]
  resolved := Array.replicate 124 none
  statics := none }

def pool1 : Array CpInfo := pool [(2, .class_ 4), (1, u "java/lang/Object"), (0, u "<init>"), (0, u "()V"), (0, .integer 2147483647), (0, .class_ 9), (0, u "com/example/netloom/netloom/embed/NodeSet"), (0, .methodref 8 11), (0, .nameAndType 5 12), (0, u "(I)V"), (0, .methodref 8 14), (0, .nameAndType 15 12), (0, u "add"), (0, .methodref 8 17), (0, .nameAndType 18 19), (0, u "contains"), (0, u "(I)Z"), (0, .methodref 8 21), (0, .nameAndType 22 23), (0, u "size"), (0, u "()I"), (0, .methodref 25 26), (0, .class_ 27), (0, .nameAndType 28 29), (0, u "java/lang/Math"), (0, u "min"), (0, u "(II)I"), (0, .methodref 25 31), (0, .nameAndType 32 29), (0, u "max"), (0, .methodref 8 34), (0, .nameAndType 35 36), (0, u "take"), (0, u "(I)I"), (0, .class_ 38), (0, u "com/example/netloom/netloom/embed/NodeSetAddPinLaw"), (2, u "law"), (0, u "(IIII)Z")] 3

def k1m0 : Method := { name := "<init>", desc := "()V", sig := { parameters := [], returnType := none }, accessFlags := 1, code := none }
def k1c1 : Code := { maxStack := 3, maxLocals := 12, code := code, exceptionTable := #[], attributes := #[] }
def k1m1 : Method := { name := "law", desc := "(IIII)Z", sig := { parameters := [.int, .int, .int, .int], returnType := some .boolean }, accessFlags := 9, code := some k1c1 }
/-- com/example/netloom/netloom/embed/NodeSetAddPinLaw -/
def k1 : Class := { plain "com/example/netloom/netloom/embed/NodeSetAddPinLaw" (some 0) with
  accessFlags := 49
  interfaces := #[]
  cf := some (fileOf pool1 37 #[] #[{ accessFlags := 1, nameIndex := 5, descriptorIndex := 6, attributes := #[] }, { accessFlags := 9, nameIndex := 41, descriptorIndex := 42, attributes := #[] }] 49 2 #[] #[])
  fields := #[]
  methods := #[k1m0, k1m1]
  instanceTypes := #[]
  staticTypes := #[]
  resolved := Array.replicate 46 none
  statics := none }

def pool2 : Array CpInfo := pool [(1, .methodref 2 3), (0, .class_ 4), (0, .nameAndType 5 6), (0, u "java/lang/Object"), (0, u "<init>"), (0, u "()V"), (0, .fieldref 8 9), (0, .class_ 10), (0, .nameAndType 11 12), (0, u "com/example/netloom/netloom/embed/NodeSet"), (0, u "words"), (0, u "[J"), (0, .fieldref 8 14), (0, .nameAndType 15 12), (0, u "occupied"), (0, .methodref 8 17), (0, .nameAndType 18 19), (0, u "drop"), (0, u "(IJ)V"), (0, .methodref 21 22), (0, .class_ 23), (0, .nameAndType 24 25), (0, u "java/lang/Long"), (0, u "numberOfTrailingZeros"), (0, u "(J)I"), (0, .methodref 8 27), (0, .nameAndType 28 29), (0, u "nextWord"), (0, u "(I)I"), (10, .methodref 21 41), (0, .nameAndType 42 25), (0, u "bitCount"), (12, u "(J)J"), (0, .long 18446744073709551615), (4, .methodref 21 62), (0, .nameAndType 63 55), (0, u "lowestOneBit"), (0, u "(I)V"), (2, u "contains"), (0, u "(I)Z"), (1, u "add"), (8, u "size"), (0, u "()I"), (0, u "take")] 2

def k2c0 : Code := { maxStack := 3, maxLocals := 2, code := prog_34_method_1_code, exceptionTable := #[], attributes := #[] }
def k2m0 : Method := { name := "<init>", desc := "(I)V", sig := { parameters := [.int], returnType := none }, accessFlags := 0, code := some k2c0 }
def k2c1 : Code := { maxStack := 5, maxLocals := 2, code := prog_34_method_2_code, exceptionTable := #[], attributes := #[] }
def k2m1 : Method := { name := "contains", desc := "(I)Z", sig := { parameters := [.int], returnType := some .boolean }, accessFlags := 0, code := some k2c1 }
def k2c2 : Code := { maxStack := 7, maxLocals := 3, code := prog_34_method_3_code, exceptionTable := #[], attributes := #[] }
def k2m2 : Method := { name := "add", desc := "(I)V", sig := { parameters := [.int], returnType := none }, accessFlags := 0, code := some k2c2 }
def k2c3 : Code := { maxStack := 3, maxLocals := 3, code := prog_34_method_10_code, exceptionTable := #[], attributes := #[] }
def k2m3 : Method := { name := "size", desc := "()I", sig := { parameters := [], returnType := some .int }, accessFlags := 0, code := some k2c3 }
def k2c4 : Code := { maxStack := 6, maxLocals := 8, code := prog_34_method_11_code, exceptionTable := #[], attributes := #[] }
def k2m4 : Method := { name := "take", desc := "(I)I", sig := { parameters := [.int], returnType := some .int }, accessFlags := 0, code := some k2c4 }
def k2c5 : Code := { maxStack := 8, maxLocals := 4, code := prog_34_method_13_code, exceptionTable := #[], attributes := #[] }
def k2m5 : Method := { name := "drop", desc := "(IJ)V", sig := { parameters := [.int, .long], returnType := none }, accessFlags := 2, code := some k2c5 }
def k2c6 : Code := { maxStack := 5, maxLocals := 5, code := prog_34_method_15_code, exceptionTable := #[], attributes := #[] }
def k2m6 : Method := { name := "nextWord", desc := "(I)I", sig := { parameters := [.int], returnType := some .int }, accessFlags := 2, code := some k2c6 }
/-- com/example/netloom/netloom/embed/NodeSet -/
def k2 : Class := { plain "com/example/netloom/netloom/embed/NodeSet" (some 0) with
  accessFlags := 48
  interfaces := #[]
  cf := some (fileOf pool2 8 #[] #[{ accessFlags := 0, nameIndex := 5, descriptorIndex := 64, attributes := #[] }, { accessFlags := 0, nameIndex := 67, descriptorIndex := 68, attributes := #[] }, { accessFlags := 0, nameIndex := 70, descriptorIndex := 64, attributes := #[] }, { accessFlags := 0, nameIndex := 79, descriptorIndex := 80, attributes := #[] }, { accessFlags := 0, nameIndex := 81, descriptorIndex := 29, attributes := #[] }, { accessFlags := 2, nameIndex := 18, descriptorIndex := 19, attributes := #[] }, { accessFlags := 2, nameIndex := 28, descriptorIndex := 29, attributes := #[] }] 48 2 #[] #[{ accessFlags := 18, nameIndex := 11, descriptorIndex := 12, attributes := #[] }, { accessFlags := 18, nameIndex := 15, descriptorIndex := 12, attributes := #[] }])
  fields := #[{ name := "words", type := (.array .long), accessFlags := 18, slot := 0, constantValue := 0 }, { name := "occupied", type := (.array .long), accessFlags := 18, slot := 1, constantValue := 0 }]
  methods := #[k2m0, k2m1, k2m2, k2m3, k2m4, k2m5, k2m6]
  instanceTypes := #[(.array .long), (.array .long)]
  staticTypes := #[]
  resolved := Array.replicate 84 none
  statics := none }

def pool3 : Array CpInfo := pool [(1, .class_ 2), (0, u "java/io/Serializable"), (0, .class_ 4), (0, u "java/lang/Object")] 2

/-- java/io/Serializable -/
def k3 : Class := { plain "java/io/Serializable" (some 0) with
  accessFlags := 1537
  interfaces := #[]
  cf := some (fileOf pool3 1 #[] #[] 1537 3 #[] #[])
  fields := #[]
  methods := #[]
  instanceTypes := #[]
  staticTypes := #[]
  resolved := Array.replicate 7 none
  statics := none }

def pool4 : Array CpInfo := pool [(2, .class_ 4), (1, u "java/lang/Object"), (0, u "<init>"), (0, u "()V"), (1, .class_ 10), (1, u "java/lang/Number"), (2, .class_ 14), (0, u "java/io/Serializable"), (0, u "serialVersionUID"), (0, u "J")] 20

def k4m0 : Method := { name := "<init>", desc := "()V", sig := { parameters := [], returnType := none }, accessFlags := 1, code := none }
/-- java/lang/Number -/
def k4 : Class := { plain "java/lang/Number" (some 0) with
  accessFlags := 1057
  interfaces := #[3]
  cf := some (fileOf pool4 8 #[] #[{ accessFlags := 1, nameIndex := 5, descriptorIndex := 6, attributes := #[] }] 1057 2 #[13] #[{ accessFlags := 26, nameIndex := 15, descriptorIndex := 16, attributes := #[] }])
  fields := #[{ name := "serialVersionUID", type := .long, accessFlags := 26, slot := 0, constantValue := 0 }]
  methods := #[k4m0]
  instanceTypes := #[]
  staticTypes := #[.long]
  resolved := Array.replicate 37 none
  statics := none }

def pool5 : Array CpInfo := pool [(1, .class_ 2), (0, u "java/lang/Comparable"), (0, .class_ 4), (0, u "java/lang/Object")] 7

/-- java/lang/Comparable -/
def k5 : Class := { plain "java/lang/Comparable" (some 0) with
  accessFlags := 1537
  interfaces := #[]
  cf := some (fileOf pool5 1 #[] #[] 1537 3 #[] #[])
  fields := #[]
  methods := #[]
  instanceTypes := #[]
  staticTypes := #[]
  resolved := Array.replicate 12 none
  statics := none }

def pool6 : Array CpInfo := pool [(1, .class_ 2), (0, u "java/lang/constant/Constable"), (0, .class_ 4), (0, u "java/lang/Object")] 6

/-- java/lang/constant/Constable -/
def k6 : Class := { plain "java/lang/constant/Constable" (some 0) with
  accessFlags := 1537
  interfaces := #[]
  cf := some (fileOf pool6 1 #[] #[] 1537 3 #[] #[])
  fields := #[]
  methods := #[]
  instanceTypes := #[]
  staticTypes := #[]
  resolved := Array.replicate 11 none
  statics := none }

def pool7 : Array CpInfo := pool [(1, .class_ 2), (0, u "java/lang/constant/ConstantDesc"), (0, .class_ 4), (0, u "java/lang/Object")] 32

/-- java/lang/constant/ConstantDesc -/
def k7 : Class := { plain "java/lang/constant/ConstantDesc" (some 0) with
  accessFlags := 1537
  interfaces := #[]
  cf := some (fileOf pool7 1 #[] #[] 1537 3 #[] #[])
  fields := #[]
  methods := #[]
  instanceTypes := #[]
  staticTypes := #[]
  resolved := Array.replicate 37 none
  statics := none }

def pool8 : Array CpInfo := pool [(1, .class_ 2), (0, u "java/lang/Long"), (15, .class_ 20), (1, u "java/lang/Integer"), (80, u "(J)I"), (133, .class_ 237), (1, u "java/lang/Long$LongCache"), (33, .class_ 272), (0, u "java/lang/Number"), (2, u "value"), (0, u "J"), (33, u "(I)I"), (0, .methodref 18 312), (0, .nameAndType 313 310), (0, u "numberOfTrailingZeros"), (0, .long 6148914691236517205), (1, .long 3689348814741910323), (1, .long 1085102592571150095), (4, u "(J)J"), (37, u "TYPE"), (0, u "Ljava/lang/Class;"), (0, .class_ 364), (0, u "java/lang/Comparable"), (0, .class_ 366), (0, u "java/lang/constant/Constable"), (0, .class_ 368), (0, u "java/lang/constant/ConstantDesc"), (0, u "MIN_VALUE"), (1, u "MAX_VALUE"), (4, u "SIZE"), (0, u "I"), (1, u "BYTES"), (1, u "serialVersionUID"), (93, u "lowestOneBit"), (0, u "bitCount")] 47

def k8c0 : Code := { maxStack := 4, maxLocals := 2, code := jdk_35_method_47_code, exceptionTable := #[], attributes := #[] }
def k8m0 : Method := { name := "lowestOneBit", desc := "(J)J", sig := { parameters := [.long], returnType := some .long }, accessFlags := 9, code := some k8c0 }
def k8c1 : Code := { maxStack := 4, maxLocals := 3, code := jdk_35_method_49_code, exceptionTable := #[], attributes := #[] }
def k8m1 : Method := { name := "numberOfTrailingZeros", desc := "(J)I", sig := { parameters := [.long], returnType := some .int }, accessFlags := 9, code := some k8c1 }
def k8c2 : Code := { maxStack := 6, maxLocals := 2, code := jdk_35_method_50_code, exceptionTable := #[], attributes := #[] }
def k8m2 : Method := { name := "bitCount", desc := "(J)I", sig := { parameters := [.long], returnType := some .int }, accessFlags := 9, code := some k8c2 }
/-- java/lang/Long -/
def k8 : Class := { plain "java/lang/Long" (some 4) with
  accessFlags := 49
  interfaces := #[5, 6, 7]
  cf := some (fileOf pool8 1 #[.nestMembers #[235]] #[{ accessFlags := 9, nameIndex := 475, descriptorIndex := 323, attributes := #[] }, { accessFlags := 9, nameIndex := 313, descriptorIndex := 101, attributes := #[] }, { accessFlags := 9, nameIndex := 476, descriptorIndex := 101, attributes := #[] }] 49 271 #[363, 365, 367] #[{ accessFlags := 25, nameIndex := 369, descriptorIndex := 276, attributes := #[] }, { accessFlags := 25, nameIndex := 371, descriptorIndex := 276, attributes := #[] }, { accessFlags := 25, nameIndex := 361, descriptorIndex := 362, attributes := #[] }, { accessFlags := 18, nameIndex := 275, descriptorIndex := 276, attributes := #[] }, { accessFlags := 25, nameIndex := 376, descriptorIndex := 377, attributes := #[] }, { accessFlags := 25, nameIndex := 379, descriptorIndex := 377, attributes := #[] }, { accessFlags := 26, nameIndex := 381, descriptorIndex := 276, attributes := #[] }])
  fields := #[{ name := "MIN_VALUE", type := .long, accessFlags := 25, slot := 0, constantValue := 0 }, { name := "MAX_VALUE", type := .long, accessFlags := 25, slot := 1, constantValue := 0 }, { name := "TYPE", type := (.object "java/lang/Class"), accessFlags := 25, slot := 2, constantValue := 0 }, { name := "value", type := .long, accessFlags := 18, slot := 0, constantValue := 0 }, { name := "SIZE", type := .int, accessFlags := 25, slot := 3, constantValue := 0 }, { name := "BYTES", type := .int, accessFlags := 25, slot := 4, constantValue := 0 }, { name := "serialVersionUID", type := .long, accessFlags := 26, slot := 5, constantValue := 0 }]
  methods := #[k8m0, k8m1, k8m2]
  instanceTypes := #[.long]
  staticTypes := #[.long, .long, (.object "java/lang/Class"), .int, .int, .long]
  resolved := Array.replicate 524 none
  statics := none }

def pool9 : Array CpInfo := pool [(1, .class_ 2), (0, u "java/lang/Integer"), (16, u "digits"), (0, u "[C"), (33, u "(I)I"), (30, u "DigitOnes"), (0, u "[B"), (2, u "DigitTens"), (99, .class_ 190), (0, u "java/lang/Integer$IntegerCache"), (3, u "I"), (8, .class_ 204), (0, u "java/lang/Number"), (2, u "value"), (56, .integer 65536), (37, u "TYPE"), (0, u "Ljava/lang/Class;"), (0, .class_ 305), (0, u "java/lang/Comparable"), (0, .class_ 307), (0, u "java/lang/constant/Constable"), (0, .class_ 309), (0, u "java/lang/constant/ConstantDesc"), (0, u "MIN_VALUE"), (1, u "MAX_VALUE"), (3, u "SIZE"), (1, u "BYTES"), (1, u "serialVersionUID"), (0, u "J"), (84, u "numberOfTrailingZeros")] 46

def k9c0 : Code := { maxStack := 3, maxLocals := 2, code := jdk_33_method_48_code, exceptionTable := #[], attributes := #[] }
def k9m0 : Method := { name := "numberOfTrailingZeros", desc := "(I)I", sig := { parameters := [.int], returnType := some .int }, accessFlags := 9, code := some k9c0 }
/-- java/lang/Integer -/
def k9 : Class := { plain "java/lang/Integer" (some 4) with
  accessFlags := 49
  interfaces := #[5, 6, 7]
  cf := some (fileOf pool9 1 #[.nestMembers #[189]] #[{ accessFlags := 9, nameIndex := 406, descriptorIndex := 54, attributes := #[] }] 49 203 #[304, 306, 308] #[{ accessFlags := 25, nameIndex := 310, descriptorIndex := 194, attributes := #[] }, { accessFlags := 25, nameIndex := 312, descriptorIndex := 194, attributes := #[] }, { accessFlags := 25, nameIndex := 302, descriptorIndex := 303, attributes := #[] }, { accessFlags := 24, nameIndex := 19, descriptorIndex := 20, attributes := #[] }, { accessFlags := 24, nameIndex := 89, descriptorIndex := 86, attributes := #[] }, { accessFlags := 24, nameIndex := 85, descriptorIndex := 86, attributes := #[] }, { accessFlags := 18, nameIndex := 207, descriptorIndex := 194, attributes := #[] }, { accessFlags := 25, nameIndex := 316, descriptorIndex := 194, attributes := #[] }, { accessFlags := 25, nameIndex := 318, descriptorIndex := 194, attributes := #[] }, { accessFlags := 26, nameIndex := 320, descriptorIndex := 321, attributes := #[] }])
  fields := #[{ name := "MIN_VALUE", type := .int, accessFlags := 25, slot := 0, constantValue := 0 }, { name := "MAX_VALUE", type := .int, accessFlags := 25, slot := 1, constantValue := 0 }, { name := "TYPE", type := (.object "java/lang/Class"), accessFlags := 25, slot := 2, constantValue := 0 }, { name := "digits", type := (.array .char), accessFlags := 24, slot := 3, constantValue := 0 }, { name := "DigitTens", type := (.array .byte), accessFlags := 24, slot := 4, constantValue := 0 }, { name := "DigitOnes", type := (.array .byte), accessFlags := 24, slot := 5, constantValue := 0 }, { name := "value", type := .int, accessFlags := 18, slot := 0, constantValue := 0 }, { name := "SIZE", type := .int, accessFlags := 25, slot := 6, constantValue := 0 }, { name := "BYTES", type := .int, accessFlags := 25, slot := 7, constantValue := 0 }, { name := "serialVersionUID", type := .long, accessFlags := 26, slot := 8, constantValue := 0 }]
  methods := #[k9m0]
  instanceTypes := #[.int]
  staticTypes := #[.int, .int, (.object "java/lang/Class"), (.array .char), (.array .byte), (.array .byte), .int, .int, .long]
  resolved := Array.replicate 453 none
  statics := none }

def pool10 : Array CpInfo := pool [(1, .class_ 2), (0, u "java/lang/Math"), (1, .class_ 6), (1, u "java/lang/Object"), (0, u "<init>"), (0, u "()V"), (89, .class_ 100), (1, u "java/lang/Math$RandomNumberGeneratorHolder"), (71, u "negativeZeroFloatBits"), (0, u "J"), (2, u "negativeZeroDoubleBits"), (21, u "max"), (2, u "min"), (43, u "$assertionsDisabled"), (0, u "Z"), (88, u "(II)I"), (2, u "twoToTheDoubleScaleDown"), (0, u "D"), (4, u "twoToTheDoubleScaleUp"), (9, u "E"), (3, u "PI"), (2, u "TAU"), (2, u "DEGREES_TO_RADIANS"), (0, u "RADIANS_TO_DEGREES")] 94

def k10m0 : Method := { name := "<init>", desc := "()V", sig := { parameters := [], returnType := none }, accessFlags := 2, code := none }
def k10c1 : Code := { maxStack := 2, maxLocals := 2, code := jdk_29_method_65_code, exceptionTable := #[], attributes := #[] }
def k10m1 : Method := { name := "max", desc := "(II)I", sig := { parameters := [.int, .int], returnType := some .int }, accessFlags := 9, code := some k10c1 }
def k10c2 : Code := { maxStack := 2, maxLocals := 2, code := jdk_29_method_69_code, exceptionTable := #[], attributes := #[] }
def k10m2 : Method := { name := "min", desc := "(II)I", sig := { parameters := [.int, .int], returnType := some .int }, accessFlags := 9, code := some k10c2 }
/-- java/lang/Math -/
def k10 : Class := { plain "java/lang/Math" (some 0) with
  accessFlags := 49
  interfaces := #[]
  cf := some (fileOf pool10 1 #[.nestMembers #[98]] #[{ accessFlags := 2, nameIndex := 7, descriptorIndex := 8, attributes := #[] }, { accessFlags := 9, nameIndex := 198, descriptorIndex := 335, attributes := #[] }, { accessFlags := 9, nameIndex := 201, descriptorIndex := 335, attributes := #[] }] 49 4 #[] #[{ accessFlags := 25, nameIndex := 354, descriptorIndex := 339, attributes := #[] }, { accessFlags := 25, nameIndex := 358, descriptorIndex := 339, attributes := #[] }, { accessFlags := 25, nameIndex := 361, descriptorIndex := 339, attributes := #[] }, { accessFlags := 26, nameIndex := 364, descriptorIndex := 339, attributes := #[] }, { accessFlags := 26, nameIndex := 365, descriptorIndex := 339, attributes := #[] }, { accessFlags := 26, nameIndex := 172, descriptorIndex := 173, attributes := #[] }, { accessFlags := 26, nameIndex := 176, descriptorIndex := 173, attributes := #[] }, { accessFlags := 8, nameIndex := 344, descriptorIndex := 339, attributes := #[] }, { accessFlags := 8, nameIndex := 338, descriptorIndex := 339, attributes := #[] }, { accessFlags := 4120, nameIndex := 245, descriptorIndex := 246, attributes := #[] }])
  fields := #[{ name := "E", type := .double, accessFlags := 25, slot := 0, constantValue := 0 }, { name := "PI", type := .double, accessFlags := 25, slot := 1, constantValue := 0 }, { name := "TAU", type := .double, accessFlags := 25, slot := 2, constantValue := 0 }, { name := "DEGREES_TO_RADIANS", type := .double, accessFlags := 26, slot := 3, constantValue := 0 }, { name := "RADIANS_TO_DEGREES", type := .double, accessFlags := 26, slot := 4, constantValue := 0 }, { name := "negativeZeroFloatBits", type := .long, accessFlags := 26, slot := 5, constantValue := 0 }, { name := "negativeZeroDoubleBits", type := .long, accessFlags := 26, slot := 6, constantValue := 0 }, { name := "twoToTheDoubleScaleUp", type := .double, accessFlags := 8, slot := 7, constantValue := 0 }, { name := "twoToTheDoubleScaleDown", type := .double, accessFlags := 8, slot := 8, constantValue := 0 }, { name := "$assertionsDisabled", type := .boolean, accessFlags := 4120, slot := 9, constantValue := 0 }]
  methods := #[k10m0, k10m1, k10m2]
  instanceTypes := #[]
  staticTypes := #[.double, .double, .double, .double, .double, .long, .long, .double, .double, .boolean]
  resolved := Array.replicate 460 none
  statics := none }

def pool11 : Array CpInfo := pool [(1, u "java/lang/Cloneable"), (0, .class_ 1), (0, u "java/lang/Object"), (0, .class_ 3)] 3

/-- java/lang/Cloneable -/
def k11 : Class := { plain "java/lang/Cloneable" (some 0) with
  accessFlags := 1537
  interfaces := #[]
  cf := some (fileOf pool11 2 #[] #[] 1537 4 #[] #[])
  fields := #[]
  methods := #[]
  instanceTypes := #[]
  staticTypes := #[]
  resolved := Array.replicate 8 none
  statics := none }

/-- the primitive byte -/
def k12 : Class := { plain "byte" none with kind := .primitive 'B', accessFlags := 0x411 }
/-- [B -/
def k13 : Class := { plain "[B" (some 0) with kind := .array 12 .byte, interfaces := #[11, 3], accessFlags := 1041 }

/-- the primitive int -/
def k14 : Class := { plain "int" none with kind := .primitive 'I', accessFlags := 0x411 }
/-- [I -/
def k15 : Class := { plain "[I" (some 0) with kind := .array 14 .int, interfaces := #[11, 3], accessFlags := 1041 }

/-- the primitive long -/
def k16 : Class := { plain "long" none with kind := .primitive 'J', accessFlags := 0x411 }
/-- [J -/
def k17 : Class := { plain "[J" (some 0) with kind := .array 16 .long, interfaces := #[11, 3], accessFlags := 1041 }

def heap : Heap := #[]
def classes : Array Class := #[k0, k1, k2, k3, k4, k5, k6, k7, k8, k9, k10, k11, k12, k13, k14, k15, k16, k17]
def interned : List (Array UInt16 × Addr) := []
def slotsUsed : Nat := 0
def theMethod : MethodId := ⟨1, 1⟩
def args0 : Array Value := #[.int 5, .int 5, .int 5, .int 5]
def aboutOver (below : List Frame) : State where
  vm := { classes := classes, interned := interned.toArray }
  heap := heap
  slotsUsed := slotsUsed
  threads := #[{ frames := .invoking theMethod args0 :: below }]
def below0 : List Frame := [.native { method := ⟨0, 0⟩, args := #[] }]
def about1 : State := aboutOver below0
def p0 : Program := .bare "" "" ""
def e0 : Env := launch0.env 0 0 0
theorem w_frames : about1.frames = Frame.invoking theMethod args0 :: below0 := rfl
set_option maxRecDepth 65536 in
theorem w_args : argsFit about1.vm theMethod args0 = true := by decide +kernel
set_option maxRecDepth 65536 in
theorem w_heap : heapFits about1 = true := by decide +kernel
set_option maxRecDepth 65536 in
theorem w_runnable : about1.curStatus? = some .runnable := by decide +kernel
set_option maxRecDepth 65536 in
theorem w_alone : about1.alone = true := by decide +kernel
set_option maxRecDepth 65536 in
theorem w_named : about1.methodNamed? x = some theMethod := by decide +kernel
set_option maxRecDepth 65536 in
theorem w_hears : about1.hears theMethod below0 = true := by decide +kernel
set_option maxRecDepth 65536 in
theorem w_ripe : about1.ripe theMethod args0 below0 = true := by decide +kernel
theorem w_running : about1.status = .running := rfl
set_option maxRecDepth 65536 in
theorem w_room : about1.hasRoom e0.platform room_1 = true :=
  launch0.hasRoom_least _ room_1 (by decide +kernel) (by decide +kernel) (by decide +kernel) (by decide +kernel) (by decide +kernel) (by decide +kernel)
theorem allAtoms_all (ts : List Jvm.Cond) (a : Array Jvm.Value) (st : Jvm.State) : (allAtoms ts).before a st = ts.all (fun c => c.before a st) := by
  induction ts with
  | nil => rfl
  | cons c t ih =>
    show (Jvm.Cond.and c (allAtoms t)).before a st = _
    rw [Jvm.Cond.before_and, ih, List.all_cons]
def words1 : List Jvm.Cond := Jvm.Cond.code x code maxLocals ret :: tables_1
/-- a 'code' word, met by the world's own term for the bytes: nothing is compared byte by byte -/
theorem code_word {y : MethodName} {bytes : ByteArray} {mx : Nat} {rt : Option FieldType} {a : Array Value} {s : State} {m : MethodId} {meth : Method} {c : Code} (h1 : s.methodNamed? y = some m) (h2 : s.vm.method? m = some meth) (h3 : meth.code = some c) (h4 : c.code = bytes)
    (h5 : (c.maxLocals == mx && c.exceptionTable.isEmpty && decide (c.maxStack ≤ mostOperands) && decide (meth.sig.returnType = rt) && !meth.locks && decide (parseMethodDescriptor y.desc = some meth.sig)) = true) : (Jvm.Cond.code y bytes mx rt).before a s = true := by
  simp only [Bool.and_eq_true, beq_iff_eq, Bool.not_eq_true', decide_eq_true_eq] at h5
  obtain ⟨⟨⟨⟨⟨g1, g2⟩, g3⟩, g4⟩, g5⟩, g6⟩ := h5
  simp [Cond.before, Cond.holds, Cond.value, h1, h2, h3, h4, g1, g2, g3, g4, g5, g6]
def isCode : Jvm.Cond → Bool
  | .code _ _ _ _ => true
  | _ => false
theorem all_split {L : List Jvm.Cond} {P : Jvm.Cond → Bool} (h1 : L.all (fun c => isCode c || P c) = true) (h2 : ∀ c ∈ L.filter isCode, P c = true) : L.all P = true := by
  refine List.all_eq_true.mpr fun c hc => ?_
  have h := List.all_eq_true.mp h1 c hc
  rcases Bool.eq_false_or_eq_true (isCode c) with hi | hi
  · exact h2 c (List.mem_filter.mpr ⟨hc, hi⟩)
  · simpa [hi] using h
set_option maxRecDepth 65536 in
theorem w_c0 : (Jvm.Cond.code x code maxLocals ret).before args0 about1 = true := code_word (m := ⟨1, 1⟩) (meth := k1m1) (c := k1c1) (by decide +kernel) rfl rfl rfl (by decide +kernel)
set_option maxRecDepth 65536 in
theorem w_c1 : (Jvm.Cond.code ({ cls := "com/example/netloom/netloom/embed/NodeSet", name := "<init>", desc := "(I)V" } : Jvm.MethodName) prog_34_method_1_code (2 : Nat) (Option.none : Option Jvm.ClassFile.FieldType)).before args0 about1 = true := code_word (m := ⟨2, 0⟩) (meth := k2m0) (c := k2c0) (by decide +kernel) rfl rfl rfl (by decide +kernel)
set_option maxRecDepth 65536 in
theorem w_c2 : (Jvm.Cond.code ({ cls := "java/lang/Object", name := "<init>", desc := "()V" } : Jvm.MethodName) object_method_1_code (1 : Nat) (Option.none : Option Jvm.ClassFile.FieldType)).before args0 about1 = true := code_word (m := ⟨0, 0⟩) (meth := k0m0) (c := k0c0) (by decide +kernel) rfl rfl rfl (by decide +kernel)
set_option maxRecDepth 65536 in
theorem w_c3 : (Jvm.Cond.code ({ cls := "com/example/netloom/netloom/embed/NodeSet", name := "add", desc := "(I)V" } : Jvm.MethodName) prog_34_method_3_code (3 : Nat) (Option.none : Option Jvm.ClassFile.FieldType)).before args0 about1 = true := code_word (m := ⟨2, 2⟩) (meth := k2m2) (c := k2c2) (by decide +kernel) rfl rfl rfl (by decide +kernel)
set_option maxRecDepth 65536 in
theorem w_c4 : (Jvm.Cond.code ({ cls := "com/example/netloom/netloom/embed/NodeSet", name := "contains", desc := "(I)Z" } : Jvm.MethodName) prog_34_method_2_code (2 : Nat) (Option.some Jvm.ClassFile.FieldType.boolean)).before args0 about1 = true := code_word (m := ⟨2, 1⟩) (meth := k2m1) (c := k2c1) (by decide +kernel) rfl rfl rfl (by decide +kernel)
set_option maxRecDepth 65536 in
theorem w_c5 : (Jvm.Cond.code ({ cls := "com/example/netloom/netloom/embed/NodeSet", name := "size", desc := "()I" } : Jvm.MethodName) prog_34_method_10_code (3 : Nat) (Option.some Jvm.ClassFile.FieldType.int)).before args0 about1 = true := code_word (m := ⟨2, 3⟩) (meth := k2m3) (c := k2c3) (by decide +kernel) rfl rfl rfl (by decide +kernel)
set_option maxRecDepth 65536 in
theorem w_c6 : (Jvm.Cond.code ({ cls := "com/example/netloom/netloom/embed/NodeSet", name := "nextWord", desc := "(I)I" } : Jvm.MethodName) prog_34_method_15_code (5 : Nat) (Option.some Jvm.ClassFile.FieldType.int)).before args0 about1 = true := code_word (m := ⟨2, 6⟩) (meth := k2m6) (c := k2c6) (by decide +kernel) rfl rfl rfl (by decide +kernel)
set_option maxRecDepth 65536 in
theorem w_c7 : (Jvm.Cond.code ({ cls := "java/lang/Long", name := "numberOfTrailingZeros", desc := "(J)I" } : Jvm.MethodName) jdk_35_method_49_code (3 : Nat) (Option.some Jvm.ClassFile.FieldType.int)).before args0 about1 = true := code_word (m := ⟨8, 1⟩) (meth := k8m1) (c := k8c1) (by decide +kernel) rfl rfl rfl (by decide +kernel)
set_option maxRecDepth 65536 in
theorem w_c8 : (Jvm.Cond.code ({ cls := "java/lang/Integer", name := "numberOfTrailingZeros", desc := "(I)I" } : Jvm.MethodName) jdk_33_method_48_code (2 : Nat) (Option.some Jvm.ClassFile.FieldType.int)).before args0 about1 = true := code_word (m := ⟨9, 0⟩) (meth := k9m0) (c := k9c0) (by decide +kernel) rfl rfl rfl (by decide +kernel)
set_option maxRecDepth 65536 in
theorem w_c9 : (Jvm.Cond.code ({ cls := "java/lang/Long", name := "bitCount", desc := "(J)I" } : Jvm.MethodName) jdk_35_method_50_code (2 : Nat) (Option.some Jvm.ClassFile.FieldType.int)).before args0 about1 = true := code_word (m := ⟨8, 2⟩) (meth := k8m2) (c := k8c2) (by decide +kernel) rfl rfl rfl (by decide +kernel)
set_option maxRecDepth 65536 in
theorem w_c10 : (Jvm.Cond.code ({ cls := "java/lang/Math", name := "min", desc := "(II)I" } : Jvm.MethodName) jdk_29_method_69_code (2 : Nat) (Option.some Jvm.ClassFile.FieldType.int)).before args0 about1 = true := code_word (m := ⟨10, 2⟩) (meth := k10m2) (c := k10c2) (by decide +kernel) rfl rfl rfl (by decide +kernel)
set_option maxRecDepth 65536 in
theorem w_c11 : (Jvm.Cond.code ({ cls := "java/lang/Math", name := "max", desc := "(II)I" } : Jvm.MethodName) jdk_29_method_65_code (2 : Nat) (Option.some Jvm.ClassFile.FieldType.int)).before args0 about1 = true := code_word (m := ⟨10, 1⟩) (meth := k10m1) (c := k10c1) (by decide +kernel) rfl rfl rfl (by decide +kernel)
set_option maxRecDepth 65536 in
theorem w_c12 : (Jvm.Cond.code ({ cls := "com/example/netloom/netloom/embed/NodeSet", name := "take", desc := "(I)I" } : Jvm.MethodName) prog_34_method_11_code (8 : Nat) (Option.some Jvm.ClassFile.FieldType.int)).before args0 about1 = true := code_word (m := ⟨2, 4⟩) (meth := k2m4) (c := k2c4) (by decide +kernel) rfl rfl rfl (by decide +kernel)
set_option maxRecDepth 65536 in
theorem w_c13 : (Jvm.Cond.code ({ cls := "java/lang/Long", name := "lowestOneBit", desc := "(J)J" } : Jvm.MethodName) jdk_35_method_47_code (2 : Nat) (Option.some Jvm.ClassFile.FieldType.long)).before args0 about1 = true := code_word (m := ⟨8, 0⟩) (meth := k8m0) (c := k8c0) (by decide +kernel) rfl rfl rfl (by decide +kernel)
set_option maxRecDepth 65536 in
theorem w_c14 : (Jvm.Cond.code ({ cls := "com/example/netloom/netloom/embed/NodeSet", name := "drop", desc := "(IJ)V" } : Jvm.MethodName) prog_34_method_13_code (4 : Nat) (Option.none : Option Jvm.ClassFile.FieldType)).before args0 about1 = true := code_word (m := ⟨2, 5⟩) (meth := k2m5) (c := k2c5) (by decide +kernel) rfl rfl rfl (by decide +kernel)
def codes1 : List Jvm.Cond := [Jvm.Cond.code x code maxLocals ret, Jvm.Cond.code ({ cls := "com/example/netloom/netloom/embed/NodeSet", name := "<init>", desc := "(I)V" } : Jvm.MethodName) prog_34_method_1_code (2 : Nat) (Option.none : Option Jvm.ClassFile.FieldType), Jvm.Cond.code ({ cls := "java/lang/Object", name := "<init>", desc := "()V" } : Jvm.MethodName) object_method_1_code (1 : Nat) (Option.none : Option Jvm.ClassFile.FieldType), Jvm.Cond.code ({ cls := "com/example/netloom/netloom/embed/NodeSet", name := "add", desc := "(I)V" } : Jvm.MethodName) prog_34_method_3_code (3 : Nat) (Option.none : Option Jvm.ClassFile.FieldType), Jvm.Cond.code ({ cls := "com/example/netloom/netloom/embed/NodeSet", name := "contains", desc := "(I)Z" } : Jvm.MethodName) prog_34_method_2_code (2 : Nat) (Option.some Jvm.ClassFile.FieldType.boolean), Jvm.Cond.code ({ cls := "com/example/netloom/netloom/embed/NodeSet", name := "size", desc := "()I" } : Jvm.MethodName) prog_34_method_10_code (3 : Nat) (Option.some Jvm.ClassFile.FieldType.int), Jvm.Cond.code ({ cls := "com/example/netloom/netloom/embed/NodeSet", name := "nextWord", desc := "(I)I" } : Jvm.MethodName) prog_34_method_15_code (5 : Nat) (Option.some Jvm.ClassFile.FieldType.int), Jvm.Cond.code ({ cls := "java/lang/Long", name := "numberOfTrailingZeros", desc := "(J)I" } : Jvm.MethodName) jdk_35_method_49_code (3 : Nat) (Option.some Jvm.ClassFile.FieldType.int), Jvm.Cond.code ({ cls := "java/lang/Integer", name := "numberOfTrailingZeros", desc := "(I)I" } : Jvm.MethodName) jdk_33_method_48_code (2 : Nat) (Option.some Jvm.ClassFile.FieldType.int), Jvm.Cond.code ({ cls := "java/lang/Long", name := "bitCount", desc := "(J)I" } : Jvm.MethodName) jdk_35_method_50_code (2 : Nat) (Option.some Jvm.ClassFile.FieldType.int), Jvm.Cond.code ({ cls := "java/lang/Math", name := "min", desc := "(II)I" } : Jvm.MethodName) jdk_29_method_69_code (2 : Nat) (Option.some Jvm.ClassFile.FieldType.int), Jvm.Cond.code ({ cls := "java/lang/Math", name := "max", desc := "(II)I" } : Jvm.MethodName) jdk_29_method_65_code (2 : Nat) (Option.some Jvm.ClassFile.FieldType.int), Jvm.Cond.code ({ cls := "com/example/netloom/netloom/embed/NodeSet", name := "take", desc := "(I)I" } : Jvm.MethodName) prog_34_method_11_code (8 : Nat) (Option.some Jvm.ClassFile.FieldType.int), Jvm.Cond.code ({ cls := "java/lang/Long", name := "lowestOneBit", desc := "(J)J" } : Jvm.MethodName) jdk_35_method_47_code (2 : Nat) (Option.some Jvm.ClassFile.FieldType.long), Jvm.Cond.code ({ cls := "com/example/netloom/netloom/embed/NodeSet", name := "drop", desc := "(IJ)V" } : Jvm.MethodName) prog_34_method_13_code (4 : Nat) (Option.none : Option Jvm.ClassFile.FieldType)]
set_option maxRecDepth 65536 in
theorem codes_eq : words1.filter isCode = codes1 := rfl
theorem w_codes : ∀ c ∈ words1.filter isCode, c.before args0 about1 = true := by
  rw [codes_eq]
  intro c hc
  simp only [codes1, List.mem_cons, List.not_mem_nil, or_false] at hc
  rcases hc with rfl | rfl | rfl | rfl | rfl | rfl | rfl | rfl | rfl | rfl | rfl | rfl | rfl | rfl | rfl
  · exact w_c0
  · exact w_c1
  · exact w_c2
  · exact w_c3
  · exact w_c4
  · exact w_c5
  · exact w_c6
  · exact w_c7
  · exact w_c8
  · exact w_c9
  · exact w_c10
  · exact w_c11
  · exact w_c12
  · exact w_c13
  · exact w_c14
set_option maxRecDepth 65536 in
theorem w_t1 : (words1.take 24).all (fun c => isCode c || c.before args0 about1) = true := by decide +kernel
set_option maxRecDepth 65536 in
theorem w_t2 : ((words1.drop 24).take 24).all (fun c => isCode c || c.before args0 about1) = true := by decide +kernel
set_option maxRecDepth 65536 in
theorem w_t3 : ((words1.drop 24).drop 24).all (fun c => isCode c || c.before args0 about1) = true := by decide +kernel
theorem w_tables : (allAtoms (Jvm.Cond.code x code maxLocals ret :: tables_1)).before args0 about1 = true := by
  rw [allAtoms_all]
  show words1.all (fun c => c.before args0 about1) = true
  refine all_split ?_ w_codes
  rw [← List.take_append_drop 24 words1, List.all_append, w_t1, ← List.take_append_drop 24 (words1.drop 24), List.all_append, w_t2, w_t3]
  rfl
set_option maxRecDepth 65536 in
theorem w_case : (Jvm.Cond.and given_1 narrow_1).before args0 about1 = true := by decide +kernel
theorem w_applies : (headSpec (Jvm.Cond.code x code maxLocals ret :: tables_1) room_1).applies x e0.platform about1 = true :=
  (Spec.applies_iff w_frames).mpr ⟨w_running, w_runnable, w_alone, w_named, w_hears, w_ripe, w_room, w_tables⟩
theorem atStart : AtStart classFile x code maxLocals ret World_1 tables_1 room_1 Calls_1 rest_1 Pre_1 launch0 p0 e0 about1 theMethod args0 below0 :=
  ⟨lists_1, trivial, launch0.admits_env _ _ _, launch0.least_env, fairChoices_fair.cas, fairChoices_fair.clock, w_frames, w_args, w_heap, w_applies, trivial, trivial, w_case⟩
end start1
theorem witness_1 : WitnessClaimed_1 := ⟨start1.p0, start1.e0, start1.about1, start1.theMethod, start1.args0, start1.below0, start1.atStart⟩
end Jvm.Pilot.@@N@@
