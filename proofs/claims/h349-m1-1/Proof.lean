import JvmDerived
import JvmDerived.Pilot.@@N@@Statement
import JvmDerived.Pilot.@@N@@Code
set_option linter.unusedVariables false
set_option linter.unusedSimpArgs false
namespace Jvm.Pilot.@@N@@
open Jvm Jvm.ClassFile Sem Op Lib Jvm.Free Jvm.Stand Jvm.LawKit Jvm.RoadKit Bundle Jvm.Pilot.@@N@@.Jvm.D
section Own
variable {p : Program} {l : Launch} {e : Env} {R : Room} {s : State} {m : MethodId} {args : Array Value} {below : List Frame} {meth : Method} {c : Code} {T : State} {locs : List Loc} {cells slots : Nat} {Z : State} {a0 : Array Value} {h h' : Heap}
/-- from S the walk comes to the method's end, where Q holds of what is returned, the heap and the written places -/
def OEnds (p : Program) (e : Env) (below : List Frame) (s : State) (Q : Option Value → Heap → List Loc → Prop) (K N : Nat) (S : State) : Prop :=
  ∃ s₂ o, Steps p.tables e below S s₂ ∧ s₂.status = .running ∧ Ended s₂ below o ∧ ∃ v L, o = .returned v ∧ Q v s₂.heap L ∧ FrameEnd s o s₂ L K N
variable {Q Q' : Option Value → Heap → List Loc → Prop} {K N : Nat} {S S' : State}
theorem own_by (st : ∀ t, Steps p.tables e below S' t → Steps p.tables e below S t) (k : OEnds p e below s Q K N S') : OEnds p e below s Q K N S := by
  obtain ⟨a, o, h1, h2⟩ := k
  exact ⟨a, o, st _ h1, h2⟩
theorem own_tr (st : Steps p.tables e below S S') (k : OEnds p e below s Q K N S') : OEnds p e below s Q K N S := by
  obtain ⟨a, o, h1, h2⟩ := k
  exact ⟨a, o, st.trans h1, h2⟩
theorem own_mono (f : ∀ v h L, Q' v h L → Q v h L) (k : OEnds p e below s Q' K N S) : OEnds p e below s Q K N S := by
  obtain ⟨a, o, h1, h2, h3, v, L, h4, h5, h6⟩ := k
  exact ⟨a, o, h1, h2, h3, v, L, h4, f _ _ _ h5, h6⟩
theorem own_fin (X : Stand p l e R s m args below meth c T locs cells slots) (hlk : meth.locks = false) {v : Option Value} (hv : meth.sig.returnType = none → v = none) (hQ : Q v T.heap locs) (hK : cells ≤ K) (hN : slots ≤ N)
    (hst : ∀ fs, (∀ (f : JFrame) (acts : List Action), f.method = m → f.locked = none → f.entered = [] → (doReturn e (T.setTop f) acts v).1 = T.setFrames fs) → Steps p.tables e below S (T.setFrames fs)) : OEnds p e below s Q K N S := by
  obtain ⟨fs, hr, hrun, hended, hW, hsame⟩ := X.leave hv hlk
  exact ⟨_, _, hst fs hr, hrun, hended, _, _, rfl, hQ, ⟨_, rfl⟩, hW, hsame.mono hK hN⟩
theorem own_retI (X : Stand p l e R s m args below meth c T locs cells slots) (hx : p.tables.exec = Jvm.exec) (hlk : meth.locks = false) {pc : Nat} {Ls : Array Slot} {z : Int32} {rest : List Value} (hret : meth.sig.returnType = some .int) (hd : decode c.code pc = .ok (.ireturn, 1))
    (hQ : Q (some (.int z)) T.heap locs) (hK : cells ≤ K) (hN : slots ≤ N) : OEnds p e below s Q K N (T.setTop (mkF m pc Ls (.int z :: rest))) :=
  own_fin X hlk (fun q => by rw [hret] at q; cases q) hQ hK hN fun _ hr => retOut X hx hret rfl (Or.inl ⟨rfl, Or.inl rfl, _, rfl⟩) hd hr
theorem own_retN (X : Stand p l e R s m args below meth c T locs cells slots) (hx : p.tables.exec = Jvm.exec) (hlk : meth.locks = false) (t : FieldType) (ht : t = .boolean ∨ t = .byte ∨ t = .char ∨ t = .short) {pc : Nat} {Ls : Array Slot} {z : Int32} {rest : List Value} (hret : meth.sig.returnType = some t) (hd : decode c.code pc = .ok (.ireturn, 1))
    (hQ : Q (some (.int (nar t z))) T.heap locs) (hK : cells ≤ K) (hN : slots ≤ N) : OEnds p e below s Q K N (T.setTop (mkF m pc Ls (.int z :: rest))) :=
  own_fin X hlk (fun q => by rw [hret] at q; cases q) hQ hK hN fun _ hr => retN X hx hret ht hd hr
theorem own_retJ (X : Stand p l e R s m args below meth c T locs cells slots) (hx : p.tables.exec = Jvm.exec) (hlk : meth.locks = false) {pc : Nat} {Ls : Array Slot} {z : Int64} {rest : List Value} (hret : meth.sig.returnType = some .long) (hd : decode c.code pc = .ok (.lreturn, 1))
    (hQ : Q (some (.long z)) T.heap locs) (hK : cells ≤ K) (hN : slots ≤ N) : OEnds p e below s Q K N (T.setTop (mkF m pc Ls (.long z :: rest))) :=
  own_fin X hlk (fun q => by rw [hret] at q; cases q) hQ hK hN fun _ hr => retOut X hx hret rfl (Or.inr (Or.inl ⟨rfl, rfl, _, rfl⟩)) hd hr
theorem own_retA (X : Stand p l e R s m args below meth c T locs cells slots) (hx : p.tables.exec = Jvm.exec) (hlk : meth.locks = false) {t : FieldType} (ht : t.isReference = true) {pc : Nat} {Ls : Array Slot} {a : Addr} {rest : List Value} (hret : meth.sig.returnType = some t) (hn : narrow t (.ref a) = .ref a) (hd : decode c.code pc = .ok (.areturn, 1))
    (hQ : Q (some (.ref a)) T.heap locs) (hK : cells ≤ K) (hN : slots ≤ N) : OEnds p e below s Q K N (T.setTop (mkF m pc Ls (.ref a :: rest))) :=
  own_fin X hlk (fun q => by rw [hret] at q; cases q) hQ hK hN fun _ hr => retOut X hx hret hn (Or.inr (Or.inr (Or.inr (Or.inr ⟨rfl, ht, rfl⟩)))) hd hr
theorem own_retV (X : Stand p l e R s m args below meth c T locs cells slots) (hx : p.tables.exec = Jvm.exec) (hlk : meth.locks = false) {pc : Nat} {Ls : Array Slot} (hret : meth.sig.returnType = none) (hd : decode c.code pc = .ok (.return_, 1))
    (hQ : Q none T.heap locs) (hK : cells ≤ K) (hN : slots ≤ N) : OEnds p e below s Q K N (T.setTop (mkF m pc Ls [])) :=
  own_fin X hlk (fun _ => rfl) hQ hK hN fun _ hr => X.returnOut hx hret hd hr
/-- what a plain method leaves: its value, nothing written, the heap as it was -/
def QP (r : Value) (h0 : Heap) (v : Option Value) (h : Heap) (L : List Loc) : Prop := v = some r ∧ L = [] ∧ h = h0
theorem own_eq {r r' : Value} {h0 : Heap} (q : r = r') (k : OEnds p e below s (QP r' h0) K N S) : OEnds p e below s (QP r h0) K N S := by subst q; exact k
theorem own_lrem {g : JFrame} {target : State} (X : Stand p l e R s m args below meth c T locs cells slots) (hx : p.tables.exec = Jvm.exec) (hg : g.method = m) {x y : Int64} {rest : List Value} (hd : decode c.code g.pc = .ok (.lrem, 1)) (hs : g.stack = .long y :: .long x :: rest) (hy : y ≠ 0)
    (hr : Steps p.tables e below (T.setTop { g with pc := g.pc + 1, stack := .long (x % y) :: rest }) target) : Steps p.tables e below (T.setTop g) target := by
  have q : x - x / y * y = x % y := lrem_mod x y
  exact XS.lrem X.here hx hg hd hs hy (by rw [q]; exact hr)
/-- a call of a plain static method by its contract -/
theorem own_callP (X : Stand p l e R s m args below meth c T locs cells slots) (hx : p.tables.exec = Jvm.exec) (hZ : Z.Warmed39 s.vm) {own : String} {index : Nat} {y : MethodName} {bytes : ByteArray} {maxL : Nat} {ret : Option FieldType} {fr lo : Nat} {r : Value} {argsL rest : List Value} {g : JFrame}
    (hown : s.vm.findClass own = some m.cls) (w1 : (Cond.methodLink own index y).before a0 Z = true) (w2 : (Cond.static y).before a0 Z = true) (w3 : (Cond.initialized y.cls).before a0 Z = true) (w4 : (Cond.code y bytes maxL ret).before a0 Z = true)
    (hy : y.cls ≠ "java/lang/invoke/MethodHandle" ∧ y.cls ≠ "java/lang/invoke/VarHandle")
    (hM : MetFree l y (head1 [Cond.code y bytes maxL ret] ({ frames := fr, cells := 0, slots := 0, locals := lo } : Room)) (fun a U => a = argsL.toArray ∧ Z.Warmed39 U.vm ∧ U.heap = h) (fun _ _ _ _ _ => True) (fun _ U o U' => ∃ v L, o = .returned v ∧ QP r h v U'.heap L ∧ FrameEnd U o U' L 0 0))
    (eT : T.heap = h) (hg : g.method = m) (hsize : g.locals.size = c.maxLocals) (hlen : ∀ sig, parseMethodDescriptor y.desc = some sig → argsL.length = sig.parameters.length) (hstack : g.stack = argsL.reverse ++ rest) {W : Nat} (hW : 2 * g.monitorRoom + (rest.map fun v => v.category).sum ≤ W)
    (hd : decode c.code g.pc = .ok (.invokestatic index, 3)) (hf : fr + 1 ≤ R.frames) (hl : W + (maxL + 11) + lo ≤ R.locals) (hc : cells ≤ R.cells) (hs : slots ≤ R.slots) :
    ∃ T', Stand p l e R s m args below meth c T' locs cells slots ∧ T'.heap = h ∧ ∀ target, Steps p.tables e below (T'.setTop { g with pc := g.pc + 3, stack := r :: rest }) target → Steps p.tables e below (T.setTop g) target := by
  obtain ⟨_, _, ⟨T1, L1, k1, n1⟩, -, X1, ⟨Lc, hQ, l1, y1, z1⟩, st⟩ := Jvm.LawKit.callS X hx (y := y) hown (mvT hZ w1) (mvT hZ w2) (mvT hZ w3) (mvT hZ w4) hy (backOf (rm := ({ frames := fr, cells := 0, slots := 0, locals := lo } : Room)) (W := W) hM hZ w4 w3 hf hl) (g := g) hg hsize (argsL := argsL) (rest := rest) hlen hstack hW hd (fun _ _ => ⟨rfl, eT, hc, hs⟩)
  dsimp only [Pt.U, Pt.locs, Pt.cells, Pt.slots] at X1 l1 y1 z1 st hQ
  subst l1 y1 z1
  obtain ⟨rfl, rfl, e1⟩ := hQ
  rw [List.append_nil] at X1
  exact ⟨T1, X1, e1, st⟩
end Own
section Own2
variable {p : Program} {l : Launch} {e : Env} {R : Room} {s : State} {m : MethodId} {args : Array Value} {below : List Frame} {meth : Method} {c : Code} {T : State} {locs : List Loc} {cells slots : Nat} {Z : State} {a0 : Array Value} {h h' : Heap}
  {a b : Addr} {C : String} {sch : List (String × String)} {vs : List Value} {ws : List Addr} {sl : Nat} {v : Value}
/-- the object at a is exactly a C, and its fields (in the order of sch) hold vs -/
def Obj (Z : State) (h : Heap) (a : Addr) (C : String) (sch : List (String × String)) (vs : List Value) : Prop :=
  Exa Z h a C ∧ ∀ (i : Nat) (n d : String) (v : Value), sch[i]? = some (n, d) → vs[i]? = some v → Fld Z h a C n d v
def SchOk (Z : State) (a0 : Array Value) (C : String) (sch : List (String × String)) : Prop :=
  (∀ q ∈ sch, Laid Z a0 C C q.1 q.2) ∧ (∀ q ∈ sch, (parseFieldDescriptor q.2).isSome = true) ∧ (sch.map (·.1)).Nodup
theorem Obj.exa (O : Obj Z h a C sch vs) : Exa Z h a C := O.1
theorem Obj.lt (O : Obj Z h a C sch vs) : a < h.size := O.1.lt
theorem Obj.fld (O : Obj Z h a C sch vs) (i : Nat) {n d : String} {v : Value} (h1 : sch[i]? = some (n, d)) (h2 : vs[i]? = some v) : Fld Z h a C n d v := O.2 i n d v h1 h2
theorem Obj.ext (O : Obj Z h a C sch vs) (E : Ext h h') : Obj Z h' a C sch vs := ⟨O.1.ext E, fun i n d v h1 h2 => (O.2 i n d v h1 h2).ext E⟩
theorem Obj.other (O : Obj Z h b C sch vs) (W : Wr h h' a sl v) (q : b ≠ a) : Obj Z h' b C sch vs := ⟨O.1.wr W, fun i n d v h1 h2 => (O.2 i n d v h1 h2).other W (Or.inl q)⟩
theorem Obj.keep (O : Obj Z h a C sch vs) (K : Keep h h' ws) (q : a ∉ ws) : Obj Z h' a C sch vs := ⟨O.1.keep K, fun i n d v h1 h2 => (O.2 i n d v h1 h2).keep K q⟩
theorem sch_ne (S : SchOk Z a0 C sch) {i j : Nat} {n d n' d' : String} (hi : sch[i]? = some (n, d)) (hj : sch[j]? = some (n', d')) (ne : i ≠ j) : n ≠ n' := by
  intro q
  have h3 := S.2.2
  rw [List.nodup_iff_pairwise_ne, List.pairwise_iff_getElem] at h3
  have e1 : (sch.map (·.1))[i]? = some n := by rw [List.getElem?_map, hi]; rfl
  have e2 : (sch.map (·.1))[j]? = some n' := by rw [List.getElem?_map, hj]; rfl
  obtain ⟨l1, f1⟩ := List.getElem?_eq_some_iff.mp e1
  obtain ⟨l2, f2⟩ := List.getElem?_eq_some_iff.mp e2
  rcases Nat.lt_or_gt_of_ne ne with k | k
  · exact h3 i j l1 l2 k (by rw [f1, f2, q])
  · exact h3 j i l2 l1 k (by rw [f1, f2, q])
theorem sch_ty (S : SchOk Z a0 C sch) {i : Nat} {n d : String} (hi : sch[i]? = some (n, d)) : ∃ t, parseFieldDescriptor d = some t :=
  Option.isSome_iff_exists.mp (S.2.1 _ (List.mem_of_getElem? hi))
theorem Obj.set (O : Obj Z h a C sch vs) (S : SchOk Z a0 C sch) {n d : String} (W : Wr h h' a (Jvm.RoadKit.slotOf Z C n d) v) (i : Nat) (hi : sch[i]? = some (n, d)) (hl : i < vs.length) : Obj Z h' a C sch (vs.set i v) := by
  refine ⟨O.1.wr W, fun j n' d' w h1 h2 => ?_⟩
  by_cases q : j = i
  · subst q
    cases hi.symm.trans h1
    rw [List.getElem?_set_self hl] at h2
    cases h2
    exact Fld.same W (O.2 j n d _ hi (List.getElem?_eq_getElem hl))
  · rw [List.getElem?_set_ne (Ne.symm q)] at h2
    obtain ⟨t, ht⟩ := sch_ty S hi
    obtain ⟨t', ht'⟩ := sch_ty S h1
    have L1 : Laid Z a0 C C n' d' := S.1 (n', d') (List.mem_of_getElem? h1)
    have L2 : Laid Z a0 C C n d := S.1 (n, d) (List.mem_of_getElem? hi)
    exact Fld.other W (O.2 j n' d' w h1 h2) (Or.inr (slot_ne L1 L2 (sch_ne S h1 hi q) ht' ht))
theorem Obj.new (S : SchOk Z a0 C sch) (A : Exa Z h a C) (D : ∀ {O nm d : String} {ty : FieldType}, Laid Z a0 C O nm d → parseFieldDescriptor d = some ty → Fld Z h a O nm d (defaultValue ty)) (tys : List FieldType) (ht : sch.map (fun q => parseFieldDescriptor q.2) = tys.map some) : Obj Z h a C sch (tys.map defaultValue) := by
  refine ⟨A, fun i n d v h1 h2 => ?_⟩
  rw [List.getElem?_map] at h2
  have e1 : (sch.map (fun q => parseFieldDescriptor q.2))[i]? = some (parseFieldDescriptor d) := by rw [List.getElem?_map, h1]; rfl
  rw [ht, List.getElem?_map] at e1
  cases hq : tys[i]? with
  | none => rw [hq] at e1; cases e1
  | some t =>
    rw [hq] at e1 h2
    cases h2
    exact D (S.1 _ (List.mem_of_getElem? h1)) (Option.some.inj e1).symm
/-- an array of n places whose i-th holds f i -/
def FA (Z : State) (h : Heap) (a : Addr) (ty : FieldType) (n : Nat) (f : Nat → Value) : Prop :=
  ∃ c : Cell, Arr Z h a c ty ∧ c.slots.size = n ∧ n < 2 ^ 31 ∧ ∀ i, i < n → c.slots[i]? = some (f i)
variable {ty ty' : FieldType} {n n' : Nat} {f f' : Nat → Value}
theorem FA.lt (F : FA Z h a ty n f) : a < h.size := by obtain ⟨c, A, -⟩ := F; exact A.lt
theorem FA.ext (F : FA Z h a ty n f) (E : Ext h h') : FA Z h' a ty n f := by obtain ⟨c, A, r⟩ := F; exact ⟨c, A.ext E, r⟩
theorem FA.other (F : FA Z h b ty n f) (W : Wr h h' a sl v) (q : b ≠ a) : FA Z h' b ty n f := by obtain ⟨c, A, r⟩ := F; exact ⟨c, A.other W q, r⟩
theorem FA.keep (F : FA Z h a ty n f) (K : Keep h h' ws) (q : a ∉ ws) : FA Z h' a ty n f := by obtain ⟨c, A, r⟩ := F; exact ⟨c, ⟨K.2.1 _ _ A.1 q, A.2⟩, r⟩
theorem FA.congr (F : FA Z h a ty n f) (q : ∀ i, i < n → f i = f' i) : FA Z h a ty n f' := by
  obtain ⟨c, A, r1, r2, r3⟩ := F
  exact ⟨c, A, r1, r2, fun i hi => by rw [r3 i hi, q i hi]⟩
theorem FA.new {k : ClassId} {z : Int32} (A : Arr Z h a (newA k ty z) ty) (q : ¬ z < 0) (hn : z.toNatClampNeg = n) {d : Value} (hd : defaultValue ty = d) : FA Z h a ty n (fun _ => d) := by
  subst hn hd
  refine ⟨_, A, sz_new _ _ _, (back32 q).2, fun i hi => ?_⟩
  show (Array.replicate z.toNatClampNeg (defaultValue ty))[i]? = _
  simp [hi]
theorem FA.set (F : FA Z h a ty n f) {k : Nat} (W : Wr h h' a k v) : FA Z h' a ty n (fun i => if i = k then v else f i) := by
  obtain ⟨c, A, r1, r2, r3⟩ := F
  refine ⟨c.setSlot k v, A.same W, by rw [sz_set]; exact r1, r2, fun i hi => ?_⟩
  show (c.slots.setIfInBounds k v)[i]? = _
  by_cases q : i = k
  · subst q; simp [r1, hi]
  · rw [Array.getElem?_setIfInBounds_ne (Ne.symm q), r3 i hi]; simp [q]
theorem FA.ne_ty (F : FA Z h a ty n f) (G : FA Z h b ty' n' f') (q : ty ≠ ty') : a ≠ b := fun e => by
  subst e
  obtain ⟨c, A, -⟩ := F
  obtain ⟨c', A', -⟩ := G
  cases A.1.symm.trans A'.1
  obtain ⟨-, k1, j1, comp, j2⟩ := A.2.1
  obtain ⟨-, k2, i1, comp', i2⟩ := A'.2.1
  cases j1.symm.trans i1
  rw [j2] at i2
  cases i2
  exact q rfl
theorem Obj.ne_fa {kk : Nat} (O : Obj Z h a C sch vs) (wi : (Cond.instantiable C kk).before a0 Z = true) (F : FA Z h b ty n f) : a ≠ b := by
  obtain ⟨c, A, -⟩ := F
  exact ne_arr O.1 wi A
theorem nat_at {j : Int32} {k : Nat} (hk : j.toInt = (k : Int)) : j.toNatClampNeg = k ∧ ¬ j < 0 := by
  refine ⟨by show j.toInt.toNat = k; rw [hk]; rfl, fun q => ?_⟩
  rw [Int32.lt_iff_toInt_lt, hk] at q
  have : (0 : Int32).toInt = 0 := by decide
  omega
theorem inb {j : Int32} {k : Nat} {c : Cell} (hk : j.toInt = (k : Int)) (hn : c.slots.size = n) (hl : k < n) : ¬ (j < 0 ∨ c.slots.size ≤ j.toNatClampNeg) := by
  obtain ⟨h1, h2⟩ := nat_at hk
  rw [h1, hn]
  rintro (q | q)
  · exact h2 q
  · omega
theorem own_laload (X : Stand p l e R s m args below meth c T locs cells slots) (hx : p.tables.exec = Jvm.exec) (hZ : Z.Warmed39 s.vm) (eT : T.heap = h) (F : FA Z h a .long n f) {j : Int32} (k : Nat) (hk : j.toInt = (k : Int)) (hl : k < n) (hv : f k = v)
    {g : JFrame} (hg : g.method = m) {rest : List Value} (hs : g.stack = .int j :: .ref a :: rest) (hd : decode c.code g.pc = .ok (.laload, 1)) : ∀ target, Steps p.tables e below (T.setTop { g with pc := g.pc + 1, stack := v :: rest }) target → Steps p.tables e below (T.setTop g) target := by
  obtain ⟨cl, A, r1, r2, r3⟩ := F
  exact fun t k' => X.laload hx (by rw [eT]; exact A.1) (State.isArrayOf_alike hZ.alike A.2.1) A.2.2 (inb hk r1 hl) (by rw [(nat_at hk).1, r3 k hl, hv]) hg hs hd t k'
theorem own_iaload (X : Stand p l e R s m args below meth c T locs cells slots) (hx : p.tables.exec = Jvm.exec) (hZ : Z.Warmed39 s.vm) (eT : T.heap = h) (F : FA Z h a .int n f) {j : Int32} (k : Nat) (hk : j.toInt = (k : Int)) (hl : k < n) (hv : f k = v)
    {g : JFrame} (hg : g.method = m) {rest : List Value} (hs : g.stack = .int j :: .ref a :: rest) (hd : decode c.code g.pc = .ok (.iaload, 1)) : ∀ target, Steps p.tables e below (T.setTop { g with pc := g.pc + 1, stack := v :: rest }) target → Steps p.tables e below (T.setTop g) target := by
  obtain ⟨cl, A, r1, r2, r3⟩ := F
  exact fun t k' => X.iaload hx (by rw [eT]; exact A.1) (State.isArrayOf_alike hZ.alike A.2.1) A.2.2 (inb hk r1 hl) (by rw [(nat_at hk).1, r3 k hl, hv]) hg hs hd t k'
theorem own_baload (X : Stand p l e R s m args below meth c T locs cells slots) (hx : p.tables.exec = Jvm.exec) (hZ : Z.Warmed39 s.vm) (eT : T.heap = h) (F : FA Z h a .byte n f) {j : Int32} (k : Nat) (hk : j.toInt = (k : Int)) (hl : k < n) (hv : f k = v)
    {g : JFrame} (hg : g.method = m) {rest : List Value} (hs : g.stack = .int j :: .ref a :: rest) (hd : decode c.code g.pc = .ok (.baload, 1)) : ∀ target, Steps p.tables e below (T.setTop { g with pc := g.pc + 1, stack := v :: rest }) target → Steps p.tables e below (T.setTop g) target := by
  obtain ⟨cl, A, r1, r2, r3⟩ := F
  exact fun t k' => X.baloadBytes hx (by rw [eT]; exact A.1) (State.isArrayOf_alike hZ.alike A.2.1) A.2.2 (inb hk r1 hl) (by rw [(nat_at hk).1, r3 k hl, hv]) hg hs hd t k'
theorem own_aaload (X : Stand p l e R s m args below meth c T locs cells slots) (hx : p.tables.exec = Jvm.exec) (hZ : Z.Warmed39 s.vm) (eT : T.heap = h) (F : FA Z h a ty n f) (hty : ty.isReference = true) {j : Int32} (k : Nat) (hk : j.toInt = (k : Int)) (hl : k < n) (hv : f k = v)
    {g : JFrame} (hg : g.method = m) {rest : List Value} (hs : g.stack = .int j :: .ref a :: rest) (hd : decode c.code g.pc = .ok (.aaload, 1)) : ∀ target, Steps p.tables e below (T.setTop { g with pc := g.pc + 1, stack := v :: rest }) target → Steps p.tables e below (T.setTop g) target := by
  obtain ⟨cl, A, r1, r2, r3⟩ := F
  exact fun t k' => X.aaload hx (by rw [eT]; exact A.1) (State.isArrayOf_alike hZ.alike A.2.1) hty A.2.2 (inb hk r1 hl) (by rw [(nat_at hk).1, r3 k hl, hv]) hg hs hd t k'
theorem own_len (X : Stand p l e R s m args below meth c T locs cells slots) (hx : p.tables.exec = Jvm.exec) (hZ : Z.Warmed39 s.vm) (eT : T.heap = h) (F : FA Z h a ty n f) {z : Int32} (hz : n.toInt32 = z)
    {g : JFrame} (hg : g.method = m) {rest : List Value} (hs : g.stack = .ref a :: rest) (hd : decode c.code g.pc = .ok (.arraylength, 1)) : ∀ target, Steps p.tables e below (T.setTop { g with pc := g.pc + 1, stack := .int z :: rest }) target → Steps p.tables e below (T.setTop g) target := by
  obtain ⟨cl, A, r1, r2, r3⟩ := F
  refine fun t k' => X.arraylength hx (by rw [eT]; exact A.1) (State.isArrayOf_alike hZ.alike A.2.1) hg hs hd t ?_
  rw [r1, hz]; exact k'
theorem own_iastore (X : Stand p l e R s m args below meth c T locs cells slots) (hx : p.tables.exec = Jvm.exec) (hZ : Z.Warmed39 s.vm) (eT : T.heap = h) (F : FA Z h a .int n f) {j x : Int32} (k : Nat) (hk : j.toInt = (k : Int)) (hl : k < n)
    {g : JFrame} (hg : g.method = m) {rest : List Value} (hs : g.stack = .int x :: .int j :: .ref a :: rest) (hd : decode c.code g.pc = .ok (.iastore, 1)) :
    ∃ T' h', Stand p l e R s m args below meth c T' (locs ++ [⟨a, k⟩]) cells slots ∧ T'.heap = h' ∧ Wr h h' a k (.int x) ∧ ∀ target, Steps p.tables e below (T'.setTop { g with pc := g.pc + 1, stack := rest }) target → Steps p.tables e below (T.setTop g) target := by
  obtain ⟨cl, A, r1, r2, r3⟩ := F
  have q := stI X hx hZ eT A (x := x) (inb hk r1 hl) hg hs hd
  rw [(nat_at hk).1] at q
  exact q
theorem own_lastore (X : Stand p l e R s m args below meth c T locs cells slots) (hx : p.tables.exec = Jvm.exec) (hZ : Z.Warmed39 s.vm) (eT : T.heap = h) (F : FA Z h a .long n f) {j : Int32} {x : Int64} (k : Nat) (hk : j.toInt = (k : Int)) (hl : k < n)
    {g : JFrame} (hg : g.method = m) {rest : List Value} (hs : g.stack = .long x :: .int j :: .ref a :: rest) (hd : decode c.code g.pc = .ok (.lastore, 1)) :
    ∃ T' h', Stand p l e R s m args below meth c T' (locs ++ [⟨a, k⟩]) cells slots ∧ T'.heap = h' ∧ Wr h h' a k (.long x) ∧ ∀ target, Steps p.tables e below (T'.setTop { g with pc := g.pc + 1, stack := rest }) target → Steps p.tables e below (T.setTop g) target := by
  obtain ⟨cl, A, r1, r2, r3⟩ := F
  have q := stJ X hx hZ eT A (x := x) (inb hk r1 hl) hg hs hd
  rw [(nat_at hk).1] at q
  exact q
theorem own_bastore (X : Stand p l e R s m args below meth c T locs cells slots) (hx : p.tables.exec = Jvm.exec) (hZ : Z.Warmed39 s.vm) (eT : T.heap = h) (F : FA Z h a .byte n f) {j x : Int32} (k : Nat) (hk : j.toInt = (k : Int)) (hl : k < n)
    {g : JFrame} (hg : g.method = m) {rest : List Value} (hs : g.stack = .int x :: .int j :: .ref a :: rest) (hd : decode c.code g.pc = .ok (.bastore, 1)) :
    ∃ T' h', Stand p l e R s m args below meth c T' (locs ++ [⟨a, k⟩]) cells slots ∧ T'.heap = h' ∧ Wr h h' a k (.int (nar .byte x)) ∧ ∀ target, Steps p.tables e below (T'.setTop { g with pc := g.pc + 1, stack := rest }) target → Steps p.tables e below (T.setTop g) target := by
  obtain ⟨cl, A, r1, r2, r3⟩ := F
  have q := stB X hx hZ eT A (x := x) (inb hk r1 hl) hg hs hd
  rw [(nat_at hk).1] at q
  exact q
/-- the typed updates -/
def updL (f : Nat → Int64) (k : Nat) (x : Int64) : Nat → Int64 := fun i => if i = k then x else f i
def updI (f : Nat → Int32) (k : Nat) (x : Int32) : Nat → Int32 := fun i => if i = k then x else f i
theorem FA.setL {f : Nat → Int64} {x : Int64} (F : FA Z h a ty n (fun i => .long (f i))) {k : Nat} (W : Wr h h' a k (.long x)) : FA Z h' a ty n (fun i => .long (updL f k x i)) :=
  (F.set W).congr fun i _ => by by_cases q : i = k <;> simp [updL, q]
theorem FA.setI {f : Nat → Int32} {x : Int32} (F : FA Z h a ty n (fun i => .int (f i))) {k : Nat} (W : Wr h h' a k (.int x)) : FA Z h' a ty n (fun i => .int (updI f k x i)) :=
  (F.set W).congr fun i _ => by by_cases q : i = k <;> simp [updI, q]
/-- a call by a contract, whatever it writes or makes: static, virtual, a constructor's -/
theorem own_callS (X : Stand p l e R s m args below meth c T locs cells slots) (hx : p.tables.exec = Jvm.exec) (hZ : Z.Warmed39 s.vm) {own : String} {index : Nat} {y : MethodName} {bytes : ByteArray} {maxL : Nat} {ret : Option FieldType} {rm : Room} {Q : Option Value → Heap → List Loc → Prop} {argsL rest : List Value} {g : JFrame}
    (hown : s.vm.findClass own = some m.cls) (w1 : (Cond.methodLink own index y).before a0 Z = true) (w2 : (Cond.static y).before a0 Z = true) (w3 : (Cond.initialized y.cls).before a0 Z = true) (w4 : (Cond.code y bytes maxL ret).before a0 Z = true)
    (hy : y.cls ≠ "java/lang/invoke/MethodHandle" ∧ y.cls ≠ "java/lang/invoke/VarHandle")
    (hM : MetFree l y (head1 [Cond.code y bytes maxL ret] rm) (fun a U => a = argsL.toArray ∧ Z.Warmed39 U.vm ∧ U.heap = h) (fun _ _ _ _ _ => True) (fun _ U o U' => ∃ v L, o = .returned v ∧ Q v U'.heap L ∧ FrameEnd U o U' L rm.cells rm.slots))
    (eT : T.heap = h) (hg : g.method = m) (hsize : g.locals.size = c.maxLocals) (hlen : ∀ sig, parseMethodDescriptor y.desc = some sig → argsL.length = sig.parameters.length) (hstack : g.stack = argsL.reverse ++ rest) {W : Nat} (hW : 2 * g.monitorRoom + (rest.map fun v => v.category).sum ≤ W)
    (hd : decode c.code g.pc = .ok (.invokestatic index, 3)) (hf : rm.frames + 1 ≤ R.frames) (hl : W + (maxL + 11) + rm.locals ≤ R.locals) (hc : cells + rm.cells ≤ R.cells) (hs : slots + rm.slots ≤ R.slots) :
    ∃ v T' L h', Stand p l e R s m args below meth c T' (locs ++ L) (cells + rm.cells) (slots + rm.slots) ∧ T'.heap = h' ∧ Q v h' L ∧ Steps p.tables e below (T.setTop g) (T'.setTop { g with pc := g.pc + 3, stack := v.toList ++ rest }) := by
  obtain ⟨v, _, ⟨T1, L1, k1, n1⟩, -, X1, ⟨Lc, hQ, l1, y1, z1⟩, st⟩ := Jvm.LawKit.callS X hx (y := y) hown (mvT hZ w1) (mvT hZ w2) (mvT hZ w3) (mvT hZ w4) hy (backOf (rm := rm) (W := W) hM hZ w4 w3 hf hl) (g := g) hg hsize (argsL := argsL) (rest := rest) hlen hstack hW hd (fun _ _ => ⟨rfl, eT, hc, hs⟩)
  dsimp only [Pt.U, Pt.locs, Pt.cells, Pt.slots] at X1 l1 y1 z1 st hQ
  subst l1 y1 z1
  exact ⟨v, T1, Lc, _, X1, rfl, hQ, st _ (Steps.refl _)⟩
theorem own_callV (X : Stand p l e R s m args below meth c T locs cells slots) (hx : p.tables.exec = Jvm.exec) (hZ : Z.Warmed39 s.vm) {own : String} {index : Nat} {y : MethodName} {bytes : ByteArray} {maxL : Nat} {ret : Option FieldType} {rm : Room} {Q : Option Value → Heap → List Loc → Prop} {argsL rest : List Value} {g : JFrame}
    (hown : s.vm.findClass own = some m.cls) (w1 : (Cond.methodLink own index y).before a0 Z = true) (w2 : (Cond.declares y).before a0 Z = true) (w3 : (Cond.selects C y y).before a0 Z = true) (w4 : (Cond.instanceMethod y).before a0 Z = true) (w5 : (Cond.code y bytes maxL ret).before a0 Z = true) (w6 : (Cond.initialized y.cls).before a0 Z = true)
    (hy : y.cls ≠ "java/lang/invoke/MethodHandle" ∧ y.cls ≠ "java/lang/invoke/VarHandle") (E : Exa Z h b C)
    (hM : MetFree l y (head1 [Cond.code y bytes maxL ret] rm) (fun a U => a = (.ref b :: argsL).toArray ∧ Z.Warmed39 U.vm ∧ U.heap = h) (fun _ _ _ _ _ => True) (fun _ U o U' => ∃ v L, o = .returned v ∧ Q v U'.heap L ∧ FrameEnd U o U' L rm.cells rm.slots))
    (eT : T.heap = h) (hg : g.method = m) (hsize : g.locals.size = c.maxLocals) (hlen : ∀ sig, parseMethodDescriptor y.desc = some sig → argsL.length = sig.parameters.length) (hstack : g.stack = argsL.reverse ++ .ref b :: rest) {W : Nat} (hW : 2 * g.monitorRoom + (rest.map fun v => v.category).sum ≤ W)
    (hd : decode c.code g.pc = .ok (.invokevirtual index, 3)) (hf : rm.frames + 1 ≤ R.frames) (hl : W + (maxL + 11) + rm.locals ≤ R.locals) (hc : cells + rm.cells ≤ R.cells) (hs : slots + rm.slots ≤ R.slots) :
    ∃ v T' L h', Stand p l e R s m args below meth c T' (locs ++ L) (cells + rm.cells) (slots + rm.slots) ∧ T'.heap = h' ∧ Q v h' L ∧ Steps p.tables e below (T.setTop g) (T'.setTop { g with pc := g.pc + 3, stack := v.toList ++ rest }) := by
  obtain ⟨cq, kq, qa, qb, qc⟩ := isOf hZ eT E
  obtain ⟨v, _, ⟨T1, L1, k1, n1⟩, -, X1, ⟨Lc, hQ, l1, y1, z1⟩, st⟩ := X.virtualBack hx (y := y) (z := y) hown (mvT hZ w1) (mvT hZ w2) (notFace_of_selects (args := #[]) (mvT hZ w3)) (mvT hZ w3) (mvT hZ w4) hy (backOf (rm := rm) (W := W) hM hZ w5 w6 hf hl) qa qc (g := g) hg hsize (Steps.refl _) (argsL := argsL) (rest := rest) hlen hstack hW hd (fun _ _ => ⟨rfl, eT, hc, hs⟩)
  dsimp only [Pt.U, Pt.locs, Pt.cells, Pt.slots] at X1 l1 y1 z1 st hQ
  subst l1 y1 z1
  exact ⟨v, T1, Lc, _, X1, rfl, hQ, st⟩
theorem own_callI (X : Stand p l e R s m args below meth c T locs cells slots) (hx : p.tables.exec = Jvm.exec) (hZ : Z.Warmed39 s.vm) {own : String} {index : Nat} {y : MethodName} {bytes : ByteArray} {maxL : Nat} {rm : Room} {Q : Option Value → Heap → List Loc → Prop} {argsL rest : List Value} {g : JFrame} (hy1 : y.name = "<init>")
    (hown : s.vm.findClass own = some m.cls) (w1 : (Cond.methodLink own index y).before a0 Z = true) (w2 : (Cond.instanceMethod y).before a0 Z = true) (w3 : (Cond.code y bytes maxL none).before a0 Z = true) (w4 : (Cond.initialized y.cls).before a0 Z = true)
    (hy : y.cls ≠ "java/lang/invoke/MethodHandle" ∧ y.cls ≠ "java/lang/invoke/VarHandle")
    (hM : MetFree l y (head1 [Cond.code y bytes maxL none] rm) (fun a U => a = (.ref b :: argsL).toArray ∧ Z.Warmed39 U.vm ∧ U.heap = h) (fun _ _ _ _ _ => True) (fun _ U o U' => ∃ v L, o = .returned v ∧ Q v U'.heap L ∧ FrameEnd U o U' L rm.cells rm.slots))
    (eT : T.heap = h) (hg : g.method = m) (hsize : g.locals.size = c.maxLocals) (hlen : ∀ sig, parseMethodDescriptor y.desc = some sig → argsL.length = sig.parameters.length) (hstack : g.stack = argsL.reverse ++ .ref b :: rest) {W : Nat} (hW : 2 * g.monitorRoom + (rest.map fun v => v.category).sum ≤ W)
    (hd : decode c.code g.pc = .ok (.invokespecial index, 3)) (hf : rm.frames + 1 ≤ R.frames) (hl : W + (maxL + 11) + rm.locals ≤ R.locals) (hc : cells + rm.cells ≤ R.cells) (hs : slots + rm.slots ≤ R.slots) :
    ∃ v T' L h', Stand p l e R s m args below meth c T' (locs ++ L) (cells + rm.cells) (slots + rm.slots) ∧ T'.heap = h' ∧ Q v h' L ∧ Steps p.tables e below (T.setTop g) (T'.setTop { g with pc := g.pc + 3, stack := v.toList ++ rest }) := by
  obtain ⟨v, _, ⟨T1, L1, k1, n1⟩, -, X1, ⟨Lc, hQ, l1, y1, z1⟩, st⟩ := X.specialBack hx (y := y) hy1 hown (mvT hZ w1) (mvT hZ w2) (mvT hZ w3) hy (backOf (rm := rm) (W := W) hM hZ w3 w4 hf hl) (g := g) hg hsize (Steps.refl _) (a := b) (argsL := argsL) (rest := rest) hlen hstack hW hd (fun _ _ => ⟨rfl, eT, hc, hs⟩)
  dsimp only [Pt.U, Pt.locs, Pt.cells, Pt.slots] at X1 l1 y1 z1 st hQ
  subst l1 y1 z1
  exact ⟨v, T1, Lc, _, X1, rfl, hQ, st⟩
end Own2
section Own3
variable {p : Program} {l : Launch} {e : Env} {R : Room} {s : State} {m : MethodId} {args : Array Value} {below : List Frame} {meth : Method} {c : Code} {T : State} {locs : List Loc} {cells slots : Nat} {Z : State} {a0 : Array Value} {h h' : Heap} {a b : Addr} {C : String}
/-- a call of an instance method that writes nothing -/
theorem own_callR (X : Stand p l e R s m args below meth c T locs cells slots) (hx : p.tables.exec = Jvm.exec) (hZ : Z.Warmed39 s.vm) {own : String} {index : Nat} {y : MethodName} {bytes : ByteArray} {maxL : Nat} {ret : Option FieldType} {fr lo : Nat} {r : Value} {argsL rest : List Value} {g : JFrame}
    (hown : s.vm.findClass own = some m.cls) (w1 : (Cond.methodLink own index y).before a0 Z = true) (w2 : (Cond.declares y).before a0 Z = true) (w3 : (Cond.selects C y y).before a0 Z = true) (w4 : (Cond.instanceMethod y).before a0 Z = true) (w5 : (Cond.code y bytes maxL ret).before a0 Z = true) (w6 : (Cond.initialized y.cls).before a0 Z = true)
    (hy : y.cls ≠ "java/lang/invoke/MethodHandle" ∧ y.cls ≠ "java/lang/invoke/VarHandle") (E : Exa Z h b C)
    (hM : MetFree l y (head1 [Cond.code y bytes maxL ret] ({ frames := fr, cells := 0, slots := 0, locals := lo } : Room)) (fun a U => a = (.ref b :: argsL).toArray ∧ Z.Warmed39 U.vm ∧ U.heap = h) (fun _ _ _ _ _ => True) (fun _ U o U' => ∃ v L, o = .returned v ∧ QP r h v U'.heap L ∧ FrameEnd U o U' L 0 0))
    (eT : T.heap = h) (hg : g.method = m) (hsize : g.locals.size = c.maxLocals) (hlen : ∀ sig, parseMethodDescriptor y.desc = some sig → argsL.length = sig.parameters.length) (hstack : g.stack = argsL.reverse ++ .ref b :: rest) {W : Nat} (hW : 2 * g.monitorRoom + (rest.map fun v => v.category).sum ≤ W)
    (hd : decode c.code g.pc = .ok (.invokevirtual index, 3)) (hf : fr + 1 ≤ R.frames) (hl : W + (maxL + 11) + lo ≤ R.locals) (hc : cells ≤ R.cells) (hs : slots ≤ R.slots) :
    ∃ T', Stand p l e R s m args below meth c T' locs cells slots ∧ T'.heap = h ∧ ∀ target, Steps p.tables e below (T'.setTop { g with pc := g.pc + 3, stack := r :: rest }) target → Steps p.tables e below (T.setTop g) target := by
  obtain ⟨v, T1, L1, h1, X1, e1, ⟨rfl, rfl, q⟩, st⟩ := own_callV X hx hZ hown w1 w2 w3 w4 w5 w6 hy E (rm := ({ frames := fr, cells := 0, slots := 0, locals := lo } : Room)) hM eT hg hsize hlen hstack hW hd hf hl hc hs
  rw [List.append_nil] at X1
  exact ⟨T1, X1, e1.trans q, fun t k => st.trans k⟩
/-- a call of a private instance method by its contract -/
theorem own_callX (X : Stand p l e R s m args below meth c T locs cells slots) (hx : p.tables.exec = Jvm.exec) (hZ : Z.Warmed39 s.vm) {own : String} {index : Nat} {y : MethodName} {bytes : ByteArray} {maxL kk : Nat} {ret : Option FieldType} {rm : Room} {Q : Option Value → Heap → List Loc → Prop} {argsL rest : List Value} {g : JFrame}
    (hown : s.vm.findClass own = some m.cls) (w1 : (Cond.methodLink own index y).before a0 Z = true) (w2 : (Cond.instanceMethod y).before a0 Z = true) (w3 : (Cond.privateMethod y).before a0 Z = true) (w4 : (Cond.code y bytes maxL ret).before a0 Z = true) (w5 : (Cond.initialized y.cls).before a0 Z = true) (w6 : (Cond.instantiable y.cls kk).before a0 Z = true)
    (hy : y.cls ≠ "java/lang/invoke/MethodHandle" ∧ y.cls ≠ "java/lang/invoke/VarHandle") (E : Exa Z h b C)
    (hM : MetFree l y (head1 [Cond.code y bytes maxL ret] rm) (fun a U => a = (.ref b :: argsL).toArray ∧ Z.Warmed39 U.vm ∧ U.heap = h) (fun _ _ _ _ _ => True) (fun _ U o U' => ∃ v L, o = .returned v ∧ Q v U'.heap L ∧ FrameEnd U o U' L rm.cells rm.slots))
    (eT : T.heap = h) (hg : g.method = m) (hsize : g.locals.size = c.maxLocals) (hlen : ∀ sig, parseMethodDescriptor y.desc = some sig → argsL.length = sig.parameters.length) (hstack : g.stack = argsL.reverse ++ .ref b :: rest) {W : Nat} (hW : 2 * g.monitorRoom + (rest.map fun v => v.category).sum ≤ W)
    (hd : decode c.code g.pc = .ok (.invokevirtual index, 3)) (hf : rm.frames + 1 ≤ R.frames) (hl : W + (maxL + 11) + rm.locals ≤ R.locals) (hc : cells + rm.cells ≤ R.cells) (hs : slots + rm.slots ≤ R.slots) :
    ∃ v T' L h', Stand p l e R s m args below meth c T' (locs ++ L) (cells + rm.cells) (slots + rm.slots) ∧ T'.heap = h' ∧ Q v h' L ∧ Steps p.tables e below (T.setTop g) (T'.setTop { g with pc := g.pc + 3, stack := v.toList ++ rest }) := by
  have v2 : (Cond.instanceMethod y).before args s = true := mvT hZ w2
  have v4 : (Cond.code y bytes maxL ret).before args s = true := mvT hZ w4
  have v6 : (Cond.instantiable y.cls kk).before args s = true := mv hZ w6
  obtain ⟨mk, me, n1, n2, n3, n4⟩ := Cond.instanceMethod_spec v2
  obtain ⟨me', cM, n5, -, -, -, -, -, -, n6⟩ := Cond.code_spec n1 v4
  cases n2.symm.trans n5
  obtain ⟨cI, kI, i1, i2, -, i4, -⟩ := Cond.instantiable_spec v6
  cases (findClass_of_methodNamed n1).symm.trans i1
  have ni : kI.isInterface = false := by simp only [Bool.or_eq_false_iff] at i4; exact i4.1
  obtain ⟨cell, c1, c2⟩ := E.cell
  have pr := Cond.privateMethod_at (mvP hZ w3 (args := args)) mk me n1 n2
  obtain ⟨vm₁, X₁, s₁⟩ := X.invokevirtual hx hown (mvT hZ w1) n1 n2 n3 i2 ni hy (a := b) (cell := cell) (by rw [eT]; exact c1) c2 (selectMethod_private n2 pr) n2 n4 i2 ni (g := g) hg (argsL := argsL) (rest := rest) (hlen _ n6) hstack hd
  obtain ⟨v, ⟨T1, L1, k1, n1'⟩, X1, ⟨Lc, hQ, l1, y1, z1⟩, st⟩ := backOf (rm := rm) (W := W) hM hZ w4 w5 hf hl m meth c ⟨T.setVm vm₁, locs, cells, slots⟩ { g with stack := rest } (.invokevirtual index) mk (.ref b :: argsL).toArray X₁ hg hsize hd hW (X₁.named n1) ⟨rfl, eT, hc, hs⟩
  dsimp only [Pt.U, Pt.locs, Pt.cells, Pt.slots] at X1 l1 y1 z1 st hQ
  subst l1 y1 z1
  exact ⟨v, T1, Lc, _, X1, rfl, hQ, (s₁ _ fun acts => by rw [doInvoke_state]; exact Steps.refl _).trans st⟩
theorem own_callXR (X : Stand p l e R s m args below meth c T locs cells slots) (hx : p.tables.exec = Jvm.exec) (hZ : Z.Warmed39 s.vm) {own : String} {index : Nat} {y : MethodName} {bytes : ByteArray} {maxL kk : Nat} {ret : Option FieldType} {fr lo : Nat} {r : Value} {argsL rest : List Value} {g : JFrame}
    (hown : s.vm.findClass own = some m.cls) (w1 : (Cond.methodLink own index y).before a0 Z = true) (w2 : (Cond.instanceMethod y).before a0 Z = true) (w3 : (Cond.privateMethod y).before a0 Z = true) (w4 : (Cond.code y bytes maxL ret).before a0 Z = true) (w5 : (Cond.initialized y.cls).before a0 Z = true) (w6 : (Cond.instantiable y.cls kk).before a0 Z = true)
    (hy : y.cls ≠ "java/lang/invoke/MethodHandle" ∧ y.cls ≠ "java/lang/invoke/VarHandle") (E : Exa Z h b C)
    (hM : MetFree l y (head1 [Cond.code y bytes maxL ret] ({ frames := fr, cells := 0, slots := 0, locals := lo } : Room)) (fun a U => a = (.ref b :: argsL).toArray ∧ Z.Warmed39 U.vm ∧ U.heap = h) (fun _ _ _ _ _ => True) (fun _ U o U' => ∃ v L, o = .returned v ∧ QP r h v U'.heap L ∧ FrameEnd U o U' L 0 0))
    (eT : T.heap = h) (hg : g.method = m) (hsize : g.locals.size = c.maxLocals) (hlen : ∀ sig, parseMethodDescriptor y.desc = some sig → argsL.length = sig.parameters.length) (hstack : g.stack = argsL.reverse ++ .ref b :: rest) {W : Nat} (hW : 2 * g.monitorRoom + (rest.map fun v => v.category).sum ≤ W)
    (hd : decode c.code g.pc = .ok (.invokevirtual index, 3)) (hf : fr + 1 ≤ R.frames) (hl : W + (maxL + 11) + lo ≤ R.locals) (hc : cells ≤ R.cells) (hs : slots ≤ R.slots) :
    ∃ T', Stand p l e R s m args below meth c T' locs cells slots ∧ T'.heap = h ∧ ∀ target, Steps p.tables e below (T'.setTop { g with pc := g.pc + 3, stack := r :: rest }) target → Steps p.tables e below (T.setTop g) target := by
  obtain ⟨v, T1, L1, h1, X1, e1, ⟨rfl, rfl, q⟩, st⟩ := own_callX X hx hZ hown w1 w2 w3 w4 w5 w6 hy E (rm := ({ frames := fr, cells := 0, slots := 0, locals := lo } : Room)) hM eT hg hsize hlen hstack hW hd hf hl hc hs
  rw [List.append_nil] at X1
  exact ⟨T1, X1, e1.trans q, fun t k => st.trans k⟩
end Own3
theorem pd_pJZrZ : parseMethodDescriptor "(JZ)Z" = some ⟨[.long, .boolean], some .boolean⟩ := by decide +kernel
theorem d1_0 : decode prog_82_method_18_code 0 = .ok (.lload_n 0, 1) := by decide +kernel
theorem d1_1 : decode prog_82_method_18_code 1 = .ok (.ldc2_w 336, 3) := by decide +kernel
theorem d1_4 : decode prog_82_method_18_code 4 = .ok (.lcmp, 1) := by decide +kernel
theorem d1_5 : decode prog_82_method_18_code 5 = .ok (.ifCond .ge 7, 3) := by decide +kernel
theorem d1_8 : decode prog_82_method_18_code 8 = .ok (.iconst 1, 1) := by decide +kernel
theorem d1_9 : decode prog_82_method_18_code 9 = .ok (.goto 4, 3) := by decide +kernel
theorem d1_12 : decode prog_82_method_18_code 12 = .ok (.iconst 0, 1) := by decide +kernel
theorem d1_13 : decode prog_82_method_18_code 13 = .ok (.istore_n 3, 1) := by decide +kernel
theorem d1_14 : decode prog_82_method_18_code 14 = .ok (.lload_n 0, 1) := by decide +kernel
theorem d1_15 : decode prog_82_method_18_code 15 = .ok (.ldc2_w 338, 3) := by decide +kernel
theorem d1_18 : decode prog_82_method_18_code 18 = .ok (.lcmp, 1) := by decide +kernel
theorem d1_19 : decode prog_82_method_18_code 19 = .ok (.ifCond .eq 19, 3) := by decide +kernel
theorem d1_22 : decode prog_82_method_18_code 22 = .ok (.lload_n 0, 1) := by decide +kernel
theorem d1_23 : decode prog_82_method_18_code 23 = .ok (.ldc2_w 340, 3) := by decide +kernel
theorem d1_26 : decode prog_82_method_18_code 26 = .ok (.lcmp, 1) := by decide +kernel
theorem d1_27 : decode prog_82_method_18_code 27 = .ok (.ifCond .eq 11, 3) := by decide +kernel
theorem d1_30 : decode prog_82_method_18_code 30 = .ok (.lload_n 0, 1) := by decide +kernel
theorem d1_31 : decode prog_82_method_18_code 31 = .ok (.ldc2_w 342, 3) := by decide +kernel
theorem d1_34 : decode prog_82_method_18_code 34 = .ok (.lcmp, 1) := by decide +kernel
theorem d1_35 : decode prog_82_method_18_code 35 = .ok (.ifCond .ne 7, 3) := by decide +kernel
theorem d1_38 : decode prog_82_method_18_code 38 = .ok (.iconst 1, 1) := by decide +kernel
theorem d1_39 : decode prog_82_method_18_code 39 = .ok (.goto 4, 3) := by decide +kernel
theorem d1_42 : decode prog_82_method_18_code 42 = .ok (.iconst 0, 1) := by decide +kernel
theorem d1_43 : decode prog_82_method_18_code 43 = .ok (.istore 4, 2) := by decide +kernel
theorem d1_45 : decode prog_82_method_18_code 45 = .ok (.iload_n 3, 1) := by decide +kernel
theorem d1_46 : decode prog_82_method_18_code 46 = .ok (.ifCond .eq 26, 3) := by decide +kernel
theorem d1_49 : decode prog_82_method_18_code 49 = .ok (.iload 4, 2) := by decide +kernel
theorem d1_51 : decode prog_82_method_18_code 51 = .ok (.ifCond .ne 13, 3) := by decide +kernel
theorem d1_54 : decode prog_82_method_18_code 54 = .ok (.iload_n 2, 1) := by decide +kernel
theorem d1_55 : decode prog_82_method_18_code 55 = .ok (.ifCond .eq 13, 3) := by decide +kernel
theorem d1_58 : decode prog_82_method_18_code 58 = .ok (.lload_n 0, 1) := by decide +kernel
theorem d1_59 : decode prog_82_method_18_code 59 = .ok (.lconst 0, 1) := by decide +kernel
theorem d1_60 : decode prog_82_method_18_code 60 = .ok (.lcmp, 1) := by decide +kernel
theorem d1_61 : decode prog_82_method_18_code 61 = .ok (.ifCond .le 7, 3) := by decide +kernel
theorem d1_64 : decode prog_82_method_18_code 64 = .ok (.iconst 1, 1) := by decide +kernel
theorem d1_65 : decode prog_82_method_18_code 65 = .ok (.goto 20, 3) := by decide +kernel
theorem d1_68 : decode prog_82_method_18_code 68 = .ok (.iconst 0, 1) := by decide +kernel
theorem d1_69 : decode prog_82_method_18_code 69 = .ok (.goto 16, 3) := by decide +kernel
theorem d1_72 : decode prog_82_method_18_code 72 = .ok (.lload_n 0, 1) := by decide +kernel
theorem d1_73 : decode prog_82_method_18_code 73 = .ok (.ldc2_w 344, 3) := by decide +kernel
theorem d1_76 : decode prog_82_method_18_code 76 = .ok (.lcmp, 1) := by decide +kernel
theorem d1_77 : decode prog_82_method_18_code 77 = .ok (.ifCond .gt 7, 3) := by decide +kernel
theorem d1_80 : decode prog_82_method_18_code 80 = .ok (.iconst 1, 1) := by decide +kernel
theorem d1_81 : decode prog_82_method_18_code 81 = .ok (.goto 4, 3) := by decide +kernel
theorem d1_84 : decode prog_82_method_18_code 84 = .ok (.iconst 0, 1) := by decide +kernel
theorem d1_85 : decode prog_82_method_18_code 85 = .ok (.istore 5, 2) := by decide +kernel
theorem d1_87 : decode prog_82_method_18_code 87 = .ok (.iload 5, 2) := by decide +kernel
theorem d1_89 : decode prog_82_method_18_code 89 = .ok (.ifCond .ne 35, 3) := by decide +kernel
theorem d1_92 : decode prog_82_method_18_code 92 = .ok (.lload_n 0, 1) := by decide +kernel
theorem d1_93 : decode prog_82_method_18_code 93 = .ok (.ldc2_w 346, 3) := by decide +kernel
theorem d1_96 : decode prog_82_method_18_code 96 = .ok (.lcmp, 1) := by decide +kernel
theorem d1_97 : decode prog_82_method_18_code 97 = .ok (.ifCond .lt 11, 3) := by decide +kernel
theorem d1_100 : decode prog_82_method_18_code 100 = .ok (.lload_n 0, 1) := by decide +kernel
theorem d1_101 : decode prog_82_method_18_code 101 = .ok (.ldc2_w 348, 3) := by decide +kernel
theorem d1_104 : decode prog_82_method_18_code 104 = .ok (.lcmp, 1) := by decide +kernel
theorem d1_105 : decode prog_82_method_18_code 105 = .ok (.ifCond .le 19, 3) := by decide +kernel
theorem d1_108 : decode prog_82_method_18_code 108 = .ok (.lload_n 0, 1) := by decide +kernel
theorem d1_109 : decode prog_82_method_18_code 109 = .ok (.ldc2_w 350, 3) := by decide +kernel
theorem d1_112 : decode prog_82_method_18_code 112 = .ok (.lcmp, 1) := by decide +kernel
theorem d1_113 : decode prog_82_method_18_code 113 = .ok (.ifCond .lt 15, 3) := by decide +kernel
theorem d1_116 : decode prog_82_method_18_code 116 = .ok (.lload_n 0, 1) := by decide +kernel
theorem d1_117 : decode prog_82_method_18_code 117 = .ok (.ldc2_w 354, 3) := by decide +kernel
theorem d1_120 : decode prog_82_method_18_code 120 = .ok (.lcmp, 1) := by decide +kernel
theorem d1_121 : decode prog_82_method_18_code 121 = .ok (.ifCond .gt 7, 3) := by decide +kernel
theorem d1_124 : decode prog_82_method_18_code 124 = .ok (.iconst 1, 1) := by decide +kernel
theorem d1_125 : decode prog_82_method_18_code 125 = .ok (.goto 4, 3) := by decide +kernel
theorem d1_128 : decode prog_82_method_18_code 128 = .ok (.iconst 0, 1) := by decide +kernel
theorem d1_129 : decode prog_82_method_18_code 129 = .ok (.ireturn, 1) := by decide +kernel
theorem pn_1 : plainName "com/example/boughcheck/boughcheck/DefaultReferences" = true := by first | (simp [plainName, overriddenIn]; done) | decide +kernel
theorem ef_1 (m : MethodId) (q0 : Int64) (q1 : Int32) : entryFrame m #[(.long q0), (.int q1)] 6 = mkF m 0 #[.val (.long q0), .second, .val (.int q1), .unset, .unset, .unset] [] := by first | (simp [entryFrame, mkF, argsToLocals, Value.category]; done) | rfl
def allowed_129 (v129_s0 : Int32) : Int32 := (nar .boolean v129_s0)
def allowed_128  : Int32 := (allowed_129 (0 : Int32))
def allowed_124  : Int32 := (allowed_129 (1 : Int32))
def allowed_108 (q0 : Int64) : Int32 := if q0 < (65536 : Int64) then allowed_128 else if (1114111 : Int64) < q0 then allowed_128 else allowed_124
def allowed_85 (q0 : Int64) (v85_s0 : Int32) : Int32 := if v85_s0 = (0 : Int32) then if q0 < (57344 : Int64) then (allowed_108 q0) else if (65533 : Int64) < q0 then (allowed_108 q0) else allowed_124 else allowed_124
def allowed_68 (q0 : Int64) : Int32 := (allowed_85 q0 (0 : Int32))
def allowed_64 (q0 : Int64) : Int32 := (allowed_85 q0 (1 : Int32))
def allowed_43 (q0 : Int64) (q1 : Int32) (v13_s0 : Int32) (v43_s0 : Int32) : Int32 := if v13_s0 = (0 : Int32) then if (55295 : Int64) < q0 then (allowed_85 q0 (0 : Int32)) else (allowed_85 q0 (1 : Int32)) else if v43_s0 = (0 : Int32) then if q1 = (0 : Int32) then (allowed_68 q0) else if (0 : Int64) < q0 then (allowed_64 q0) else (allowed_68 q0) else (allowed_64 q0)
def allowed_38 (q0 : Int64) (q1 : Int32) (v13_s0 : Int32) : Int32 := (allowed_43 q0 q1 v13_s0 (1 : Int32))
def allowed_13 (q0 : Int64) (q1 : Int32) (v13_s0 : Int32) : Int32 := if q0 = (9 : Int64) then (allowed_38 q0 q1 v13_s0) else if q0 = (10 : Int64) then (allowed_38 q0 q1 v13_s0) else if q0 = (13 : Int64) then (allowed_38 q0 q1 v13_s0) else (allowed_43 q0 q1 v13_s0 (0 : Int32))
def allowed (q0 : Int64) (q1 : Int32) : Int32 := if q0 < (32 : Int64) then (allowed_13 q0 q1 (1 : Int32)) else (allowed_13 q0 q1 (0 : Int32))
set_option maxRecDepth 65536 in
set_option maxHeartbeats 40000000 in
theorem rm_allowed (l : Launch) (Z : State) (a0 : Array Value) (hw : ∀ d ∈ tables_1, d.before a0 Z = true) (ws : List Jvm.Cond) (q0 : Int64) (q1 : Int32) (h0 : Heap) :
    MetFree l (⟨"com/example/boughcheck/boughcheck/DefaultReferences", "allowed", "(JZ)Z"⟩ : MethodName) (head1 (Jvm.Cond.code (⟨"com/example/boughcheck/boughcheck/DefaultReferences", "allowed", "(JZ)Z"⟩ : MethodName) prog_82_method_18_code 6 (some .boolean) :: ws) ({ frames := 0, cells := 0, slots := 0, locals := 0 } : Room)) (fun a U => a = #[(.long q0), (.int q1)] ∧ Z.Warmed39 U.vm ∧ U.heap = h0) (fun _ _ _ _ _ => True) (fun _ U o U' => ∃ v L, o = .returned v ∧ QP (Value.int (allowed q0 q1)) h0 v U'.heap L ∧ FrameEnd U o U' L 0 0) := by
  refine MetFree.of_bodySF (plainFor_of_name pn_1) hisR ?_
  intro p e s m args below meth c s₁ Bd hml0 hP hK
  obtain ⟨rfl, hZ, hh⟩ := hP
  have hx := Bd.exec
  have hby := Bd.bytes
  have hlk : meth.locks = false := Bd.notSynchronized
  have hml : c.maxLocals = 6 := hml0
  have hown : s.vm.findClass "com/example/boughcheck/boughcheck/DefaultReferences" = some m.cls := findClass_of_methodNamed Bd.named
  have X0 : Stand p l e ({ frames := 0, cells := 0, slots := 0, locals := 0 } : Room) s m #[(.long q0), (.int q1)] below meth c s₁ [] 0 0 := Stand.of_body Bd
  have e0 : s₁.heap = h0 := by rw [← hh, Bd.state]; rfl
  have ballowed_129 : ∀ (T : State) (X : Stand p l e ({ frames := 0, cells := 0, slots := 0, locals := 0 } : Room) s m #[(.long q0), (.int q1)] below meth c T [] 0 0) (eT : T.heap = h0) (v13_s0 : Int32) (v43_s0 : Int32) (v85_s0 : Int32) (v129_s0 : Int32), OEnds p e below s (QP (Value.int (allowed_129 v129_s0)) h0) 0 0 (T.setTop (mkF m 129 #[.val (.long q0), .second, .val (.int q1), .val (.int v13_s0), .val (.int v43_s0), .val (.int v85_s0)] [(.int v129_s0)])) := by
    intro T X eT v13_s0 v43_s0 v85_s0 v129_s0
    exact own_retN X hx hlk .boolean (by simp) Bd.returns (hb hby d1_129) ⟨congrArg (fun z => some (Value.int z)) (Eq.symm (by rw [allowed_129] <;> rfl)), rfl, eT⟩ (Nat.le_refl _) (Nat.le_refl _)
  have ballowed_128 : ∀ (T : State) (X : Stand p l e ({ frames := 0, cells := 0, slots := 0, locals := 0 } : Room) s m #[(.long q0), (.int q1)] below meth c T [] 0 0) (eT : T.heap = h0) (v13_s0 : Int32) (v43_s0 : Int32) (v85_s0 : Int32), OEnds p e below s (QP (Value.int (allowed_128)) h0) 0 0 (T.setTop (mkF m 128 #[.val (.long q0), .second, .val (.int q1), .val (.int v13_s0), .val (.int v43_s0), .val (.int v85_s0)] [])) := by
    intro T X eT v13_s0 v43_s0 v85_s0
    refine own_by (fun _ k => XS.iconst X.here hx rfl (hb hby d1_128) k) ?_
    show OEnds p e below s _ _ _ (T.setTop (mkF m 129 #[.val (.long q0), .second, .val (.int q1), .val (.int v13_s0), .val (.int v43_s0), .val (.int v85_s0)] [(.int (0 : Int32))]))
    exact own_eq (congrArg Value.int (by rw [allowed_128] <;> rfl)) (ballowed_129 T X eT v13_s0 v43_s0 v85_s0 (0 : Int32))
  have ballowed_124 : ∀ (T : State) (X : Stand p l e ({ frames := 0, cells := 0, slots := 0, locals := 0 } : Room) s m #[(.long q0), (.int q1)] below meth c T [] 0 0) (eT : T.heap = h0) (v13_s0 : Int32) (v43_s0 : Int32) (v85_s0 : Int32), OEnds p e below s (QP (Value.int (allowed_124)) h0) 0 0 (T.setTop (mkF m 124 #[.val (.long q0), .second, .val (.int q1), .val (.int v13_s0), .val (.int v43_s0), .val (.int v85_s0)] [])) := by
    intro T X eT v13_s0 v43_s0 v85_s0
    refine own_by (fun _ k => XS.iconst X.here hx rfl (hb hby d1_124) k) ?_
    show OEnds p e below s _ _ _ (T.setTop (mkF m 125 #[.val (.long q0), .second, .val (.int q1), .val (.int v13_s0), .val (.int v43_s0), .val (.int v85_s0)] [(.int (1 : Int32))]))
    refine own_by (fun _ k => XS.goto X.here hx rfl (pc0 := 125) (pc' := 129) rfl (hb hby d1_125) (by decide) (by decide) k) ?_
    show OEnds p e below s _ _ _ (T.setTop (mkF m 129 #[.val (.long q0), .second, .val (.int q1), .val (.int v13_s0), .val (.int v43_s0), .val (.int v85_s0)] [(.int (1 : Int32))]))
    exact own_eq (congrArg Value.int (by rw [allowed_124] <;> rfl)) (ballowed_129 T X eT v13_s0 v43_s0 v85_s0 (1 : Int32))
  have ballowed_108 : ∀ (T : State) (X : Stand p l e ({ frames := 0, cells := 0, slots := 0, locals := 0 } : Room) s m #[(.long q0), (.int q1)] below meth c T [] 0 0) (eT : T.heap = h0) (v13_s0 : Int32) (v43_s0 : Int32) (v85_s0 : Int32), OEnds p e below s (QP (Value.int (allowed_108 q0)) h0) 0 0 (T.setTop (mkF m 108 #[.val (.long q0), .second, .val (.int q1), .val (.int v13_s0), .val (.int v43_s0), .val (.int v85_s0)] [])) := by
    intro T X eT v13_s0 v43_s0 v85_s0
    refine own_by (fun _ k => XS.lloadN X.here hx rfl (hb hby d1_108) rfl k) ?_
    show OEnds p e below s _ _ _ (T.setTop (mkF m 109 #[.val (.long q0), .second, .val (.int q1), .val (.int v13_s0), .val (.int v43_s0), .val (.int v85_s0)] [(.long q0)]))
    refine own_by (X.ldc2Long hx hown (mvT hZ (hw _ (List.mem_of_getElem? (i := 26) rfl))) (g := (mkF m 109 #[.val (.long q0), .second, .val (.int q1), .val (.int v13_s0), .val (.int v43_s0), .val (.int v85_s0)] [(.long q0)])) rfl (hb hby d1_109)) ?_
    show OEnds p e below s _ _ _ (T.setTop (mkF m 112 #[.val (.long q0), .second, .val (.int q1), .val (.int v13_s0), .val (.int v43_s0), .val (.int v85_s0)] [(.long (65536 : Int64)), (.long q0)]))
    refine own_by (fun _ k => XS.lcmp X.here hx rfl (hb hby d1_112) rfl k) ?_
    show OEnds p e below s _ _ _ (T.setTop (mkF m 113 #[.val (.long q0), .second, .val (.int q1), .val (.int v13_s0), .val (.int v43_s0), .val (.int v85_s0)] [(.int (lcmpW q0 (65536 : Int64)))]))
    by_cases hc113 : q0 < (65536 : Int64)
    · refine own_by (fun _ k => XS.ifYes X.here hx rfl (pc0 := 113) (pc' := 128) rfl (hb hby d1_113) rfl ((if0 _ _).trans (tlt ((lw_lt _ _).mpr hc113)).1) (by decide) (by decide) k) ?_
      show OEnds p e below s _ _ _ (T.setTop (mkF m 128 #[.val (.long q0), .second, .val (.int q1), .val (.int v13_s0), .val (.int v43_s0), .val (.int v85_s0)] []))
      exact own_eq (congrArg Value.int (by rw [allowed_108, if_pos hc113] <;> rfl)) (ballowed_128 T X eT v13_s0 v43_s0 v85_s0)
    · refine own_by (fun _ k => XS.ifNo X.here hx rfl (hb hby d1_113) rfl ((if0 _ _).trans (flt (fun q => hc113 ((lw_lt _ _).mp q))).1) k) ?_
      show OEnds p e below s _ _ _ (T.setTop (mkF m 116 #[.val (.long q0), .second, .val (.int q1), .val (.int v13_s0), .val (.int v43_s0), .val (.int v85_s0)] []))
      refine own_by (fun _ k => XS.lloadN X.here hx rfl (hb hby d1_116) rfl k) ?_
      show OEnds p e below s _ _ _ (T.setTop (mkF m 117 #[.val (.long q0), .second, .val (.int q1), .val (.int v13_s0), .val (.int v43_s0), .val (.int v85_s0)] [(.long q0)]))
      refine own_by (X.ldc2Long hx hown (mvT hZ (hw _ (List.mem_of_getElem? (i := 27) rfl))) (g := (mkF m 117 #[.val (.long q0), .second, .val (.int q1), .val (.int v13_s0), .val (.int v43_s0), .val (.int v85_s0)] [(.long q0)])) rfl (hb hby d1_117)) ?_
      show OEnds p e below s _ _ _ (T.setTop (mkF m 120 #[.val (.long q0), .second, .val (.int q1), .val (.int v13_s0), .val (.int v43_s0), .val (.int v85_s0)] [(.long (1114111 : Int64)), (.long q0)]))
      refine own_by (fun _ k => XS.lcmp X.here hx rfl (hb hby d1_120) rfl k) ?_
      show OEnds p e below s _ _ _ (T.setTop (mkF m 121 #[.val (.long q0), .second, .val (.int q1), .val (.int v13_s0), .val (.int v43_s0), .val (.int v85_s0)] [(.int (lcmpW q0 (1114111 : Int64)))]))
      by_cases hc121 : (1114111 : Int64) < q0
      · refine own_by (fun _ k => XS.ifYes X.here hx rfl (pc0 := 121) (pc' := 128) rfl (hb hby d1_121) rfl ((if0 _ _).trans (tlt ((lw_gt _ _).mpr hc121)).2.2.1) (by decide) (by decide) k) ?_
        show OEnds p e below s _ _ _ (T.setTop (mkF m 128 #[.val (.long q0), .second, .val (.int q1), .val (.int v13_s0), .val (.int v43_s0), .val (.int v85_s0)] []))
        exact own_eq (congrArg Value.int (by rw [allowed_108, if_neg hc113, if_pos hc121] <;> rfl)) (ballowed_128 T X eT v13_s0 v43_s0 v85_s0)
      · refine own_by (fun _ k => XS.ifNo X.here hx rfl (hb hby d1_121) rfl ((if0 _ _).trans (flt (fun q => hc121 ((lw_gt _ _).mp q))).2.2.1) k) ?_
        show OEnds p e below s _ _ _ (T.setTop (mkF m 124 #[.val (.long q0), .second, .val (.int q1), .val (.int v13_s0), .val (.int v43_s0), .val (.int v85_s0)] []))
        exact own_eq (congrArg Value.int (by rw [allowed_108, if_neg hc113, if_neg hc121] <;> rfl)) (ballowed_124 T X eT v13_s0 v43_s0 v85_s0)
  have ballowed_85 : ∀ (T : State) (X : Stand p l e ({ frames := 0, cells := 0, slots := 0, locals := 0 } : Room) s m #[(.long q0), (.int q1)] below meth c T [] 0 0) (eT : T.heap = h0) (v13_s0 : Int32) (v43_s0 : Int32) (v85_s0 : Int32), OEnds p e below s (QP (Value.int (allowed_85 q0 v85_s0)) h0) 0 0 (T.setTop (mkF m 85 #[.val (.long q0), .second, .val (.int q1), .val (.int v13_s0), .val (.int v43_s0), .unset] [(.int v85_s0)])) := by
    intro T X eT v13_s0 v43_s0 v85_s0
    refine own_by (fun _ k => XS.istore X.here hx rfl (hb hby d1_85) rfl (l' := #[.val (.long q0), .second, .val (.int q1), .val (.int v13_s0), .val (.int v43_s0), .val (.int v85_s0)]) rfl k) ?_
    show OEnds p e below s _ _ _ (T.setTop (mkF m 87 #[.val (.long q0), .second, .val (.int q1), .val (.int v13_s0), .val (.int v43_s0), .val (.int v85_s0)] []))
    refine own_by (fun _ k => XS.iload X.here hx rfl (hb hby d1_87) rfl k) ?_
    show OEnds p e below s _ _ _ (T.setTop (mkF m 89 #[.val (.long q0), .second, .val (.int q1), .val (.int v13_s0), .val (.int v43_s0), .val (.int v85_s0)] [(.int v85_s0)]))
    by_cases hc89 : v85_s0 = (0 : Int32)
    · refine own_by (fun _ k => XS.ifNo X.here hx rfl (hb hby d1_89) rfl ((if0 _ _).trans (teq hc89).2) k) ?_
      show OEnds p e below s _ _ _ (T.setTop (mkF m 92 #[.val (.long q0), .second, .val (.int q1), .val (.int v13_s0), .val (.int v43_s0), .val (.int v85_s0)] []))
      refine own_by (fun _ k => XS.lloadN X.here hx rfl (hb hby d1_92) rfl k) ?_
      show OEnds p e below s _ _ _ (T.setTop (mkF m 93 #[.val (.long q0), .second, .val (.int q1), .val (.int v13_s0), .val (.int v43_s0), .val (.int v85_s0)] [(.long q0)]))
      refine own_by (X.ldc2Long hx hown (mvT hZ (hw _ (List.mem_of_getElem? (i := 24) rfl))) (g := (mkF m 93 #[.val (.long q0), .second, .val (.int q1), .val (.int v13_s0), .val (.int v43_s0), .val (.int v85_s0)] [(.long q0)])) rfl (hb hby d1_93)) ?_
      show OEnds p e below s _ _ _ (T.setTop (mkF m 96 #[.val (.long q0), .second, .val (.int q1), .val (.int v13_s0), .val (.int v43_s0), .val (.int v85_s0)] [(.long (57344 : Int64)), (.long q0)]))
      refine own_by (fun _ k => XS.lcmp X.here hx rfl (hb hby d1_96) rfl k) ?_
      show OEnds p e below s _ _ _ (T.setTop (mkF m 97 #[.val (.long q0), .second, .val (.int q1), .val (.int v13_s0), .val (.int v43_s0), .val (.int v85_s0)] [(.int (lcmpW q0 (57344 : Int64)))]))
      by_cases hc97 : q0 < (57344 : Int64)
      · refine own_by (fun _ k => XS.ifYes X.here hx rfl (pc0 := 97) (pc' := 108) rfl (hb hby d1_97) rfl ((if0 _ _).trans (tlt ((lw_lt _ _).mpr hc97)).1) (by decide) (by decide) k) ?_
        show OEnds p e below s _ _ _ (T.setTop (mkF m 108 #[.val (.long q0), .second, .val (.int q1), .val (.int v13_s0), .val (.int v43_s0), .val (.int v85_s0)] []))
        exact own_eq (congrArg Value.int (by rw [allowed_85, if_pos hc89, if_pos hc97] <;> rfl)) (ballowed_108 T X eT v13_s0 v43_s0 v85_s0)
      · refine own_by (fun _ k => XS.ifNo X.here hx rfl (hb hby d1_97) rfl ((if0 _ _).trans (flt (fun q => hc97 ((lw_lt _ _).mp q))).1) k) ?_
        show OEnds p e below s _ _ _ (T.setTop (mkF m 100 #[.val (.long q0), .second, .val (.int q1), .val (.int v13_s0), .val (.int v43_s0), .val (.int v85_s0)] []))
        refine own_by (fun _ k => XS.lloadN X.here hx rfl (hb hby d1_100) rfl k) ?_
        show OEnds p e below s _ _ _ (T.setTop (mkF m 101 #[.val (.long q0), .second, .val (.int q1), .val (.int v13_s0), .val (.int v43_s0), .val (.int v85_s0)] [(.long q0)]))
        refine own_by (X.ldc2Long hx hown (mvT hZ (hw _ (List.mem_of_getElem? (i := 25) rfl))) (g := (mkF m 101 #[.val (.long q0), .second, .val (.int q1), .val (.int v13_s0), .val (.int v43_s0), .val (.int v85_s0)] [(.long q0)])) rfl (hb hby d1_101)) ?_
        show OEnds p e below s _ _ _ (T.setTop (mkF m 104 #[.val (.long q0), .second, .val (.int q1), .val (.int v13_s0), .val (.int v43_s0), .val (.int v85_s0)] [(.long (65533 : Int64)), (.long q0)]))
        refine own_by (fun _ k => XS.lcmp X.here hx rfl (hb hby d1_104) rfl k) ?_
        show OEnds p e below s _ _ _ (T.setTop (mkF m 105 #[.val (.long q0), .second, .val (.int q1), .val (.int v13_s0), .val (.int v43_s0), .val (.int v85_s0)] [(.int (lcmpW q0 (65533 : Int64)))]))
        by_cases hc105 : (65533 : Int64) < q0
        · refine own_by (fun _ k => XS.ifNo X.here hx rfl (hb hby d1_105) rfl ((if0 _ _).trans (tlt ((lw_gt _ _).mpr hc105)).2.2.2) k) ?_
          show OEnds p e below s _ _ _ (T.setTop (mkF m 108 #[.val (.long q0), .second, .val (.int q1), .val (.int v13_s0), .val (.int v43_s0), .val (.int v85_s0)] []))
          exact own_eq (congrArg Value.int (by rw [allowed_85, if_pos hc89, if_neg hc97, if_pos hc105] <;> rfl)) (ballowed_108 T X eT v13_s0 v43_s0 v85_s0)
        · refine own_by (fun _ k => XS.ifYes X.here hx rfl (pc0 := 105) (pc' := 124) rfl (hb hby d1_105) rfl ((if0 _ _).trans (flt (fun q => hc105 ((lw_gt _ _).mp q))).2.2.2) (by decide) (by decide) k) ?_
          show OEnds p e below s _ _ _ (T.setTop (mkF m 124 #[.val (.long q0), .second, .val (.int q1), .val (.int v13_s0), .val (.int v43_s0), .val (.int v85_s0)] []))
          exact own_eq (congrArg Value.int (by rw [allowed_85, if_pos hc89, if_neg hc97, if_neg hc105] <;> rfl)) (ballowed_124 T X eT v13_s0 v43_s0 v85_s0)
    · refine own_by (fun _ k => XS.ifYes X.here hx rfl (pc0 := 89) (pc' := 124) rfl (hb hby d1_89) rfl ((if0 _ _).trans (feq hc89).2) (by decide) (by decide) k) ?_
      show OEnds p e below s _ _ _ (T.setTop (mkF m 124 #[.val (.long q0), .second, .val (.int q1), .val (.int v13_s0), .val (.int v43_s0), .val (.int v85_s0)] []))
      exact own_eq (congrArg Value.int (by rw [allowed_85, if_neg hc89] <;> rfl)) (ballowed_124 T X eT v13_s0 v43_s0 v85_s0)
  have ballowed_68 : ∀ (T : State) (X : Stand p l e ({ frames := 0, cells := 0, slots := 0, locals := 0 } : Room) s m #[(.long q0), (.int q1)] below meth c T [] 0 0) (eT : T.heap = h0) (v13_s0 : Int32) (v43_s0 : Int32), OEnds p e below s (QP (Value.int (allowed_68 q0)) h0) 0 0 (T.setTop (mkF m 68 #[.val (.long q0), .second, .val (.int q1), .val (.int v13_s0), .val (.int v43_s0), .unset] [])) := by
    intro T X eT v13_s0 v43_s0
    refine own_by (fun _ k => XS.iconst X.here hx rfl (hb hby d1_68) k) ?_
    show OEnds p e below s _ _ _ (T.setTop (mkF m 69 #[.val (.long q0), .second, .val (.int q1), .val (.int v13_s0), .val (.int v43_s0), .unset] [(.int (0 : Int32))]))
    refine own_by (fun _ k => XS.goto X.here hx rfl (pc0 := 69) (pc' := 85) rfl (hb hby d1_69) (by decide) (by decide) k) ?_
    show OEnds p e below s _ _ _ (T.setTop (mkF m 85 #[.val (.long q0), .second, .val (.int q1), .val (.int v13_s0), .val (.int v43_s0), .unset] [(.int (0 : Int32))]))
    exact own_eq (congrArg Value.int (by rw [allowed_68] <;> rfl)) (ballowed_85 T X eT v13_s0 v43_s0 (0 : Int32))
  have ballowed_64 : ∀ (T : State) (X : Stand p l e ({ frames := 0, cells := 0, slots := 0, locals := 0 } : Room) s m #[(.long q0), (.int q1)] below meth c T [] 0 0) (eT : T.heap = h0) (v13_s0 : Int32) (v43_s0 : Int32), OEnds p e below s (QP (Value.int (allowed_64 q0)) h0) 0 0 (T.setTop (mkF m 64 #[.val (.long q0), .second, .val (.int q1), .val (.int v13_s0), .val (.int v43_s0), .unset] [])) := by
    intro T X eT v13_s0 v43_s0
    refine own_by (fun _ k => XS.iconst X.here hx rfl (hb hby d1_64) k) ?_
    show OEnds p e below s _ _ _ (T.setTop (mkF m 65 #[.val (.long q0), .second, .val (.int q1), .val (.int v13_s0), .val (.int v43_s0), .unset] [(.int (1 : Int32))]))
    refine own_by (fun _ k => XS.goto X.here hx rfl (pc0 := 65) (pc' := 85) rfl (hb hby d1_65) (by decide) (by decide) k) ?_
    show OEnds p e below s _ _ _ (T.setTop (mkF m 85 #[.val (.long q0), .second, .val (.int q1), .val (.int v13_s0), .val (.int v43_s0), .unset] [(.int (1 : Int32))]))
    exact own_eq (congrArg Value.int (by rw [allowed_64] <;> rfl)) (ballowed_85 T X eT v13_s0 v43_s0 (1 : Int32))
  have ballowed_43 : ∀ (T : State) (X : Stand p l e ({ frames := 0, cells := 0, slots := 0, locals := 0 } : Room) s m #[(.long q0), (.int q1)] below meth c T [] 0 0) (eT : T.heap = h0) (v13_s0 : Int32) (v43_s0 : Int32), OEnds p e below s (QP (Value.int (allowed_43 q0 q1 v13_s0 v43_s0)) h0) 0 0 (T.setTop (mkF m 43 #[.val (.long q0), .second, .val (.int q1), .val (.int v13_s0), .unset, .unset] [(.int v43_s0)])) := by
    intro T X eT v13_s0 v43_s0
    refine own_by (fun _ k => XS.istore X.here hx rfl (hb hby d1_43) rfl (l' := #[.val (.long q0), .second, .val (.int q1), .val (.int v13_s0), .val (.int v43_s0), .unset]) rfl k) ?_
    show OEnds p e below s _ _ _ (T.setTop (mkF m 45 #[.val (.long q0), .second, .val (.int q1), .val (.int v13_s0), .val (.int v43_s0), .unset] []))
    refine own_by (fun _ k => XS.iloadN X.here hx rfl (hb hby d1_45) rfl k) ?_
    show OEnds p e below s _ _ _ (T.setTop (mkF m 46 #[.val (.long q0), .second, .val (.int q1), .val (.int v13_s0), .val (.int v43_s0), .unset] [(.int v13_s0)]))
    by_cases hc46 : v13_s0 = (0 : Int32)
    · refine own_by (fun _ k => XS.ifYes X.here hx rfl (pc0 := 46) (pc' := 72) rfl (hb hby d1_46) rfl ((if0 _ _).trans (teq hc46).1) (by decide) (by decide) k) ?_
      show OEnds p e below s _ _ _ (T.setTop (mkF m 72 #[.val (.long q0), .second, .val (.int q1), .val (.int v13_s0), .val (.int v43_s0), .unset] []))
      refine own_by (fun _ k => XS.lloadN X.here hx rfl (hb hby d1_72) rfl k) ?_
      show OEnds p e below s _ _ _ (T.setTop (mkF m 73 #[.val (.long q0), .second, .val (.int q1), .val (.int v13_s0), .val (.int v43_s0), .unset] [(.long q0)]))
      refine own_by (X.ldc2Long hx hown (mvT hZ (hw _ (List.mem_of_getElem? (i := 23) rfl))) (g := (mkF m 73 #[.val (.long q0), .second, .val (.int q1), .val (.int v13_s0), .val (.int v43_s0), .unset] [(.long q0)])) rfl (hb hby d1_73)) ?_
      show OEnds p e below s _ _ _ (T.setTop (mkF m 76 #[.val (.long q0), .second, .val (.int q1), .val (.int v13_s0), .val (.int v43_s0), .unset] [(.long (55295 : Int64)), (.long q0)]))
      refine own_by (fun _ k => XS.lcmp X.here hx rfl (hb hby d1_76) rfl k) ?_
      show OEnds p e below s _ _ _ (T.setTop (mkF m 77 #[.val (.long q0), .second, .val (.int q1), .val (.int v13_s0), .val (.int v43_s0), .unset] [(.int (lcmpW q0 (55295 : Int64)))]))
      by_cases hc77 : (55295 : Int64) < q0
      · refine own_by (fun _ k => XS.ifYes X.here hx rfl (pc0 := 77) (pc' := 84) rfl (hb hby d1_77) rfl ((if0 _ _).trans (tlt ((lw_gt _ _).mpr hc77)).2.2.1) (by decide) (by decide) k) ?_
        show OEnds p e below s _ _ _ (T.setTop (mkF m 84 #[.val (.long q0), .second, .val (.int q1), .val (.int v13_s0), .val (.int v43_s0), .unset] []))
        refine own_by (fun _ k => XS.iconst X.here hx rfl (hb hby d1_84) k) ?_
        show OEnds p e below s _ _ _ (T.setTop (mkF m 85 #[.val (.long q0), .second, .val (.int q1), .val (.int v13_s0), .val (.int v43_s0), .unset] [(.int (0 : Int32))]))
        exact own_eq (congrArg Value.int (by rw [allowed_43, if_pos hc46, if_pos hc77] <;> rfl)) (ballowed_85 T X eT v13_s0 v43_s0 (0 : Int32))
      · refine own_by (fun _ k => XS.ifNo X.here hx rfl (hb hby d1_77) rfl ((if0 _ _).trans (flt (fun q => hc77 ((lw_gt _ _).mp q))).2.2.1) k) ?_
        show OEnds p e below s _ _ _ (T.setTop (mkF m 80 #[.val (.long q0), .second, .val (.int q1), .val (.int v13_s0), .val (.int v43_s0), .unset] []))
        refine own_by (fun _ k => XS.iconst X.here hx rfl (hb hby d1_80) k) ?_
        show OEnds p e below s _ _ _ (T.setTop (mkF m 81 #[.val (.long q0), .second, .val (.int q1), .val (.int v13_s0), .val (.int v43_s0), .unset] [(.int (1 : Int32))]))
        refine own_by (fun _ k => XS.goto X.here hx rfl (pc0 := 81) (pc' := 85) rfl (hb hby d1_81) (by decide) (by decide) k) ?_
        show OEnds p e below s _ _ _ (T.setTop (mkF m 85 #[.val (.long q0), .second, .val (.int q1), .val (.int v13_s0), .val (.int v43_s0), .unset] [(.int (1 : Int32))]))
        exact own_eq (congrArg Value.int (by rw [allowed_43, if_pos hc46, if_neg hc77] <;> rfl)) (ballowed_85 T X eT v13_s0 v43_s0 (1 : Int32))
    · refine own_by (fun _ k => XS.ifNo X.here hx rfl (hb hby d1_46) rfl ((if0 _ _).trans (feq hc46).1) k) ?_
      show OEnds p e below s _ _ _ (T.setTop (mkF m 49 #[.val (.long q0), .second, .val (.int q1), .val (.int v13_s0), .val (.int v43_s0), .unset] []))
      refine own_by (fun _ k => XS.iload X.here hx rfl (hb hby d1_49) rfl k) ?_
      show OEnds p e below s _ _ _ (T.setTop (mkF m 51 #[.val (.long q0), .second, .val (.int q1), .val (.int v13_s0), .val (.int v43_s0), .unset] [(.int v43_s0)]))
      by_cases hc51 : v43_s0 = (0 : Int32)
      · refine own_by (fun _ k => XS.ifNo X.here hx rfl (hb hby d1_51) rfl ((if0 _ _).trans (teq hc51).2) k) ?_
        show OEnds p e below s _ _ _ (T.setTop (mkF m 54 #[.val (.long q0), .second, .val (.int q1), .val (.int v13_s0), .val (.int v43_s0), .unset] []))
        refine own_by (fun _ k => XS.iloadN X.here hx rfl (hb hby d1_54) rfl k) ?_
        show OEnds p e below s _ _ _ (T.setTop (mkF m 55 #[.val (.long q0), .second, .val (.int q1), .val (.int v13_s0), .val (.int v43_s0), .unset] [(.int q1)]))
        by_cases hc55 : q1 = (0 : Int32)
        · refine own_by (fun _ k => XS.ifYes X.here hx rfl (pc0 := 55) (pc' := 68) rfl (hb hby d1_55) rfl ((if0 _ _).trans (teq hc55).1) (by decide) (by decide) k) ?_
          show OEnds p e below s _ _ _ (T.setTop (mkF m 68 #[.val (.long q0), .second, .val (.int q1), .val (.int v13_s0), .val (.int v43_s0), .unset] []))
          exact own_eq (congrArg Value.int (by rw [allowed_43, if_neg hc46, if_pos hc51, if_pos hc55] <;> rfl)) (ballowed_68 T X eT v13_s0 v43_s0)
        · refine own_by (fun _ k => XS.ifNo X.here hx rfl (hb hby d1_55) rfl ((if0 _ _).trans (feq hc55).1) k) ?_
          show OEnds p e below s _ _ _ (T.setTop (mkF m 58 #[.val (.long q0), .second, .val (.int q1), .val (.int v13_s0), .val (.int v43_s0), .unset] []))
          refine own_by (fun _ k => XS.lloadN X.here hx rfl (hb hby d1_58) rfl k) ?_
          show OEnds p e below s _ _ _ (T.setTop (mkF m 59 #[.val (.long q0), .second, .val (.int q1), .val (.int v13_s0), .val (.int v43_s0), .unset] [(.long q0)]))
          refine own_by (fun _ k => XS.lconst X.here hx rfl (hb hby d1_59) k) ?_
          show OEnds p e below s _ _ _ (T.setTop (mkF m 60 #[.val (.long q0), .second, .val (.int q1), .val (.int v13_s0), .val (.int v43_s0), .unset] [(.long (0 : Int64)), (.long q0)]))
          refine own_by (fun _ k => XS.lcmp X.here hx rfl (hb hby d1_60) rfl k) ?_
          show OEnds p e below s _ _ _ (T.setTop (mkF m 61 #[.val (.long q0), .second, .val (.int q1), .val (.int v13_s0), .val (.int v43_s0), .unset] [(.int (lcmpW q0 (0 : Int64)))]))
          by_cases hc61 : (0 : Int64) < q0
          · refine own_by (fun _ k => XS.ifNo X.here hx rfl (hb hby d1_61) rfl ((if0 _ _).trans (tlt ((lw_gt _ _).mpr hc61)).2.2.2) k) ?_
            show OEnds p e below s _ _ _ (T.setTop (mkF m 64 #[.val (.long q0), .second, .val (.int q1), .val (.int v13_s0), .val (.int v43_s0), .unset] []))
            exact own_eq (congrArg Value.int (by rw [allowed_43, if_neg hc46, if_pos hc51, if_neg hc55, if_pos hc61] <;> rfl)) (ballowed_64 T X eT v13_s0 v43_s0)
          · refine own_by (fun _ k => XS.ifYes X.here hx rfl (pc0 := 61) (pc' := 68) rfl (hb hby d1_61) rfl ((if0 _ _).trans (flt (fun q => hc61 ((lw_gt _ _).mp q))).2.2.2) (by decide) (by decide) k) ?_
            show OEnds p e below s _ _ _ (T.setTop (mkF m 68 #[.val (.long q0), .second, .val (.int q1), .val (.int v13_s0), .val (.int v43_s0), .unset] []))
            exact own_eq (congrArg Value.int (by rw [allowed_43, if_neg hc46, if_pos hc51, if_neg hc55, if_neg hc61] <;> rfl)) (ballowed_68 T X eT v13_s0 v43_s0)
      · refine own_by (fun _ k => XS.ifYes X.here hx rfl (pc0 := 51) (pc' := 64) rfl (hb hby d1_51) rfl ((if0 _ _).trans (feq hc51).2) (by decide) (by decide) k) ?_
        show OEnds p e below s _ _ _ (T.setTop (mkF m 64 #[.val (.long q0), .second, .val (.int q1), .val (.int v13_s0), .val (.int v43_s0), .unset] []))
        exact own_eq (congrArg Value.int (by rw [allowed_43, if_neg hc46, if_neg hc51] <;> rfl)) (ballowed_64 T X eT v13_s0 v43_s0)
  have ballowed_38 : ∀ (T : State) (X : Stand p l e ({ frames := 0, cells := 0, slots := 0, locals := 0 } : Room) s m #[(.long q0), (.int q1)] below meth c T [] 0 0) (eT : T.heap = h0) (v13_s0 : Int32), OEnds p e below s (QP (Value.int (allowed_38 q0 q1 v13_s0)) h0) 0 0 (T.setTop (mkF m 38 #[.val (.long q0), .second, .val (.int q1), .val (.int v13_s0), .unset, .unset] [])) := by
    intro T X eT v13_s0
    refine own_by (fun _ k => XS.iconst X.here hx rfl (hb hby d1_38) k) ?_
    show OEnds p e below s _ _ _ (T.setTop (mkF m 39 #[.val (.long q0), .second, .val (.int q1), .val (.int v13_s0), .unset, .unset] [(.int (1 : Int32))]))
    refine own_by (fun _ k => XS.goto X.here hx rfl (pc0 := 39) (pc' := 43) rfl (hb hby d1_39) (by decide) (by decide) k) ?_
    show OEnds p e below s _ _ _ (T.setTop (mkF m 43 #[.val (.long q0), .second, .val (.int q1), .val (.int v13_s0), .unset, .unset] [(.int (1 : Int32))]))
    exact own_eq (congrArg Value.int (by rw [allowed_38] <;> rfl)) (ballowed_43 T X eT v13_s0 (1 : Int32))
  have ballowed_13 : ∀ (T : State) (X : Stand p l e ({ frames := 0, cells := 0, slots := 0, locals := 0 } : Room) s m #[(.long q0), (.int q1)] below meth c T [] 0 0) (eT : T.heap = h0) (v13_s0 : Int32), OEnds p e below s (QP (Value.int (allowed_13 q0 q1 v13_s0)) h0) 0 0 (T.setTop (mkF m 13 #[.val (.long q0), .second, .val (.int q1), .unset, .unset, .unset] [(.int v13_s0)])) := by
    intro T X eT v13_s0
    refine own_by (fun _ k => XS.istoreN X.here hx rfl (hb hby d1_13) rfl (l' := #[.val (.long q0), .second, .val (.int q1), .val (.int v13_s0), .unset, .unset]) rfl k) ?_
    show OEnds p e below s _ _ _ (T.setTop (mkF m 14 #[.val (.long q0), .second, .val (.int q1), .val (.int v13_s0), .unset, .unset] []))
    refine own_by (fun _ k => XS.lloadN X.here hx rfl (hb hby d1_14) rfl k) ?_
    show OEnds p e below s _ _ _ (T.setTop (mkF m 15 #[.val (.long q0), .second, .val (.int q1), .val (.int v13_s0), .unset, .unset] [(.long q0)]))
    refine own_by (X.ldc2Long hx hown (mvT hZ (hw _ (List.mem_of_getElem? (i := 20) rfl))) (g := (mkF m 15 #[.val (.long q0), .second, .val (.int q1), .val (.int v13_s0), .unset, .unset] [(.long q0)])) rfl (hb hby d1_15)) ?_
    show OEnds p e below s _ _ _ (T.setTop (mkF m 18 #[.val (.long q0), .second, .val (.int q1), .val (.int v13_s0), .unset, .unset] [(.long (9 : Int64)), (.long q0)]))
    refine own_by (fun _ k => XS.lcmp X.here hx rfl (hb hby d1_18) rfl k) ?_
    show OEnds p e below s _ _ _ (T.setTop (mkF m 19 #[.val (.long q0), .second, .val (.int q1), .val (.int v13_s0), .unset, .unset] [(.int (lcmpW q0 (9 : Int64)))]))
    by_cases hc19 : q0 = (9 : Int64)
    · refine own_by (fun _ k => XS.ifYes X.here hx rfl (pc0 := 19) (pc' := 38) rfl (hb hby d1_19) rfl ((if0 _ _).trans (teq ((lw_eq _ _).mpr hc19)).1) (by decide) (by decide) k) ?_
      show OEnds p e below s _ _ _ (T.setTop (mkF m 38 #[.val (.long q0), .second, .val (.int q1), .val (.int v13_s0), .unset, .unset] []))
      exact own_eq (congrArg Value.int (by rw [allowed_13, if_pos hc19] <;> rfl)) (ballowed_38 T X eT v13_s0)
    · refine own_by (fun _ k => XS.ifNo X.here hx rfl (hb hby d1_19) rfl ((if0 _ _).trans (feq (fun q => hc19 ((lw_eq _ _).mp q))).1) k) ?_
      show OEnds p e below s _ _ _ (T.setTop (mkF m 22 #[.val (.long q0), .second, .val (.int q1), .val (.int v13_s0), .unset, .unset] []))
      refine own_by (fun _ k => XS.lloadN X.here hx rfl (hb hby d1_22) rfl k) ?_
      show OEnds p e below s _ _ _ (T.setTop (mkF m 23 #[.val (.long q0), .second, .val (.int q1), .val (.int v13_s0), .unset, .unset] [(.long q0)]))
      refine own_by (X.ldc2Long hx hown (mvT hZ (hw _ (List.mem_of_getElem? (i := 21) rfl))) (g := (mkF m 23 #[.val (.long q0), .second, .val (.int q1), .val (.int v13_s0), .unset, .unset] [(.long q0)])) rfl (hb hby d1_23)) ?_
      show OEnds p e below s _ _ _ (T.setTop (mkF m 26 #[.val (.long q0), .second, .val (.int q1), .val (.int v13_s0), .unset, .unset] [(.long (10 : Int64)), (.long q0)]))
      refine own_by (fun _ k => XS.lcmp X.here hx rfl (hb hby d1_26) rfl k) ?_
      show OEnds p e below s _ _ _ (T.setTop (mkF m 27 #[.val (.long q0), .second, .val (.int q1), .val (.int v13_s0), .unset, .unset] [(.int (lcmpW q0 (10 : Int64)))]))
      by_cases hc27 : q0 = (10 : Int64)
      · refine own_by (fun _ k => XS.ifYes X.here hx rfl (pc0 := 27) (pc' := 38) rfl (hb hby d1_27) rfl ((if0 _ _).trans (teq ((lw_eq _ _).mpr hc27)).1) (by decide) (by decide) k) ?_
        show OEnds p e below s _ _ _ (T.setTop (mkF m 38 #[.val (.long q0), .second, .val (.int q1), .val (.int v13_s0), .unset, .unset] []))
        exact own_eq (congrArg Value.int (by rw [allowed_13, if_neg hc19, if_pos hc27] <;> rfl)) (ballowed_38 T X eT v13_s0)
      · refine own_by (fun _ k => XS.ifNo X.here hx rfl (hb hby d1_27) rfl ((if0 _ _).trans (feq (fun q => hc27 ((lw_eq _ _).mp q))).1) k) ?_
        show OEnds p e below s _ _ _ (T.setTop (mkF m 30 #[.val (.long q0), .second, .val (.int q1), .val (.int v13_s0), .unset, .unset] []))
        refine own_by (fun _ k => XS.lloadN X.here hx rfl (hb hby d1_30) rfl k) ?_
        show OEnds p e below s _ _ _ (T.setTop (mkF m 31 #[.val (.long q0), .second, .val (.int q1), .val (.int v13_s0), .unset, .unset] [(.long q0)]))
        refine own_by (X.ldc2Long hx hown (mvT hZ (hw _ (List.mem_of_getElem? (i := 22) rfl))) (g := (mkF m 31 #[.val (.long q0), .second, .val (.int q1), .val (.int v13_s0), .unset, .unset] [(.long q0)])) rfl (hb hby d1_31)) ?_
        show OEnds p e below s _ _ _ (T.setTop (mkF m 34 #[.val (.long q0), .second, .val (.int q1), .val (.int v13_s0), .unset, .unset] [(.long (13 : Int64)), (.long q0)]))
        refine own_by (fun _ k => XS.lcmp X.here hx rfl (hb hby d1_34) rfl k) ?_
        show OEnds p e below s _ _ _ (T.setTop (mkF m 35 #[.val (.long q0), .second, .val (.int q1), .val (.int v13_s0), .unset, .unset] [(.int (lcmpW q0 (13 : Int64)))]))
        by_cases hc35 : q0 = (13 : Int64)
        · refine own_by (fun _ k => XS.ifNo X.here hx rfl (hb hby d1_35) rfl ((if0 _ _).trans (teq ((lw_eq _ _).mpr hc35)).2) k) ?_
          show OEnds p e below s _ _ _ (T.setTop (mkF m 38 #[.val (.long q0), .second, .val (.int q1), .val (.int v13_s0), .unset, .unset] []))
          exact own_eq (congrArg Value.int (by rw [allowed_13, if_neg hc19, if_neg hc27, if_pos hc35] <;> rfl)) (ballowed_38 T X eT v13_s0)
        · refine own_by (fun _ k => XS.ifYes X.here hx rfl (pc0 := 35) (pc' := 42) rfl (hb hby d1_35) rfl ((if0 _ _).trans (feq (fun q => hc35 ((lw_eq _ _).mp q))).2) (by decide) (by decide) k) ?_
          show OEnds p e below s _ _ _ (T.setTop (mkF m 42 #[.val (.long q0), .second, .val (.int q1), .val (.int v13_s0), .unset, .unset] []))
          refine own_by (fun _ k => XS.iconst X.here hx rfl (hb hby d1_42) k) ?_
          show OEnds p e below s _ _ _ (T.setTop (mkF m 43 #[.val (.long q0), .second, .val (.int q1), .val (.int v13_s0), .unset, .unset] [(.int (0 : Int32))]))
          exact own_eq (congrArg Value.int (by rw [allowed_13, if_neg hc19, if_neg hc27, if_neg hc35] <;> rfl)) (ballowed_43 T X eT v13_s0 (0 : Int32))
  show OEnds p e below s _ _ _ _
  refine own_by (fun t k => castTop (ef_1 m q0 q1) k) ?_
  show OEnds p e below s _ _ _ (s₁.setTop (mkF m 0 #[.val (.long q0), .second, .val (.int q1), .unset, .unset, .unset] []))
  refine own_by (fun _ k => XS.lloadN X0.here hx rfl (hb hby d1_0) rfl k) ?_
  show OEnds p e below s _ _ _ (s₁.setTop (mkF m 1 #[.val (.long q0), .second, .val (.int q1), .unset, .unset, .unset] [(.long q0)]))
  refine own_by (X0.ldc2Long hx hown (mvT hZ (hw _ (List.mem_of_getElem? (i := 19) rfl))) (g := (mkF m 1 #[.val (.long q0), .second, .val (.int q1), .unset, .unset, .unset] [(.long q0)])) rfl (hb hby d1_1)) ?_
  show OEnds p e below s _ _ _ (s₁.setTop (mkF m 4 #[.val (.long q0), .second, .val (.int q1), .unset, .unset, .unset] [(.long (32 : Int64)), (.long q0)]))
  refine own_by (fun _ k => XS.lcmp X0.here hx rfl (hb hby d1_4) rfl k) ?_
  show OEnds p e below s _ _ _ (s₁.setTop (mkF m 5 #[.val (.long q0), .second, .val (.int q1), .unset, .unset, .unset] [(.int (lcmpW q0 (32 : Int64)))]))
  by_cases hc5 : q0 < (32 : Int64)
  · refine own_by (fun _ k => XS.ifNo X0.here hx rfl (hb hby d1_5) rfl ((if0 _ _).trans (tlt ((lw_lt _ _).mpr hc5)).2.1) k) ?_
    show OEnds p e below s _ _ _ (s₁.setTop (mkF m 8 #[.val (.long q0), .second, .val (.int q1), .unset, .unset, .unset] []))
    refine own_by (fun _ k => XS.iconst X0.here hx rfl (hb hby d1_8) k) ?_
    show OEnds p e below s _ _ _ (s₁.setTop (mkF m 9 #[.val (.long q0), .second, .val (.int q1), .unset, .unset, .unset] [(.int (1 : Int32))]))
    refine own_by (fun _ k => XS.goto X0.here hx rfl (pc0 := 9) (pc' := 13) rfl (hb hby d1_9) (by decide) (by decide) k) ?_
    show OEnds p e below s _ _ _ (s₁.setTop (mkF m 13 #[.val (.long q0), .second, .val (.int q1), .unset, .unset, .unset] [(.int (1 : Int32))]))
    exact own_eq (congrArg Value.int (by rw [allowed, if_pos hc5] <;> rfl)) (ballowed_13 s₁ X0 e0 (1 : Int32))
  · refine own_by (fun _ k => XS.ifYes X0.here hx rfl (pc0 := 5) (pc' := 12) rfl (hb hby d1_5) rfl ((if0 _ _).trans (flt (fun q => hc5 ((lw_lt _ _).mp q))).2.1) (by decide) (by decide) k) ?_
    show OEnds p e below s _ _ _ (s₁.setTop (mkF m 12 #[.val (.long q0), .second, .val (.int q1), .unset, .unset, .unset] []))
    refine own_by (fun _ k => XS.iconst X0.here hx rfl (hb hby d1_12) k) ?_
    show OEnds p e below s _ _ _ (s₁.setTop (mkF m 13 #[.val (.long q0), .second, .val (.int q1), .unset, .unset, .unset] [(.int (0 : Int32))]))
    exact own_eq (congrArg Value.int (by rw [allowed, if_neg hc5] <;> rfl)) (ballowed_13 s₁ X0 e0 (0 : Int32))
theorem d2_0 : decode method_2_code 0 = .ok (.lload_n 0, 1) := by decide +kernel
theorem d2_1 : decode method_2_code 1 = .ok (.ldc2_w 7, 3) := by decide +kernel
theorem d2_4 : decode method_2_code 4 = .ok (.lcmp, 1) := by decide +kernel
theorem d2_5 : decode method_2_code 5 = .ok (.ifCond .lt 11, 3) := by decide +kernel
theorem d2_8 : decode method_2_code 8 = .ok (.lload_n 0, 1) := by decide +kernel
theorem d2_9 : decode method_2_code 9 = .ok (.ldc2_w 9, 3) := by decide +kernel
theorem d2_12 : decode method_2_code 12 = .ok (.lcmp, 1) := by decide +kernel
theorem d2_13 : decode method_2_code 13 = .ok (.ifCond .le 19, 3) := by decide +kernel
theorem d2_16 : decode method_2_code 16 = .ok (.lload_n 0, 1) := by decide +kernel
theorem d2_17 : decode method_2_code 17 = .ok (.ldc2_w 11, 3) := by decide +kernel
theorem d2_20 : decode method_2_code 20 = .ok (.lcmp, 1) := by decide +kernel
theorem d2_21 : decode method_2_code 21 = .ok (.ifCond .lt 15, 3) := by decide +kernel
theorem d2_24 : decode method_2_code 24 = .ok (.lload_n 0, 1) := by decide +kernel
theorem d2_25 : decode method_2_code 25 = .ok (.ldc2_w 13, 3) := by decide +kernel
theorem d2_28 : decode method_2_code 28 = .ok (.lcmp, 1) := by decide +kernel
theorem d2_29 : decode method_2_code 29 = .ok (.ifCond .gt 7, 3) := by decide +kernel
theorem d2_32 : decode method_2_code 32 = .ok (.iconst 1, 1) := by decide +kernel
theorem d2_33 : decode method_2_code 33 = .ok (.goto 4, 3) := by decide +kernel
theorem d2_36 : decode method_2_code 36 = .ok (.iconst 0, 1) := by decide +kernel
theorem d2_37 : decode method_2_code 37 = .ok (.istore_n 3, 1) := by decide +kernel
theorem d2_38 : decode method_2_code 38 = .ok (.iload_n 2, 1) := by decide +kernel
theorem d2_39 : decode method_2_code 39 = .ok (.ifCond .eq 27, 3) := by decide +kernel
theorem d2_42 : decode method_2_code 42 = .ok (.lload_n 0, 1) := by decide +kernel
theorem d2_43 : decode method_2_code 43 = .ok (.lconst 1, 1) := by decide +kernel
theorem d2_44 : decode method_2_code 44 = .ok (.lcmp, 1) := by decide +kernel
theorem d2_45 : decode method_2_code 45 = .ok (.ifCond .lt 15, 3) := by decide +kernel
theorem d2_48 : decode method_2_code 48 = .ok (.lload_n 0, 1) := by decide +kernel
theorem d2_49 : decode method_2_code 49 = .ok (.ldc2_w 15, 3) := by decide +kernel
theorem d2_52 : decode method_2_code 52 = .ok (.lcmp, 1) := by decide +kernel
theorem d2_53 : decode method_2_code 53 = .ok (.ifCond .gt 7, 3) := by decide +kernel
theorem d2_56 : decode method_2_code 56 = .ok (.iconst 1, 1) := by decide +kernel
theorem d2_57 : decode method_2_code 57 = .ok (.goto 4, 3) := by decide +kernel
theorem d2_60 : decode method_2_code 60 = .ok (.iconst 0, 1) := by decide +kernel
theorem d2_61 : decode method_2_code 61 = .ok (.istore 4, 2) := by decide +kernel
theorem d2_63 : decode method_2_code 63 = .ok (.goto 50, 3) := by decide +kernel
theorem d2_66 : decode method_2_code 66 = .ok (.lload_n 0, 1) := by decide +kernel
theorem d2_67 : decode method_2_code 67 = .ok (.ldc2_w 17, 3) := by decide +kernel
theorem d2_70 : decode method_2_code 70 = .ok (.lcmp, 1) := by decide +kernel
theorem d2_71 : decode method_2_code 71 = .ok (.ifCond .eq 35, 3) := by decide +kernel
theorem d2_74 : decode method_2_code 74 = .ok (.lload_n 0, 1) := by decide +kernel
theorem d2_75 : decode method_2_code 75 = .ok (.ldc2_w 19, 3) := by decide +kernel
theorem d2_78 : decode method_2_code 78 = .ok (.lcmp, 1) := by decide +kernel
theorem d2_79 : decode method_2_code 79 = .ok (.ifCond .eq 27, 3) := by decide +kernel
theorem d2_82 : decode method_2_code 82 = .ok (.lload_n 0, 1) := by decide +kernel
theorem d2_83 : decode method_2_code 83 = .ok (.ldc2_w 21, 3) := by decide +kernel
theorem d2_86 : decode method_2_code 86 = .ok (.lcmp, 1) := by decide +kernel
theorem d2_87 : decode method_2_code 87 = .ok (.ifCond .eq 19, 3) := by decide +kernel
theorem d2_90 : decode method_2_code 90 = .ok (.lload_n 0, 1) := by decide +kernel
theorem d2_91 : decode method_2_code 91 = .ok (.ldc2_w 23, 3) := by decide +kernel
theorem d2_94 : decode method_2_code 94 = .ok (.lcmp, 1) := by decide +kernel
theorem d2_95 : decode method_2_code 95 = .ok (.ifCond .lt 15, 3) := by decide +kernel
theorem d2_98 : decode method_2_code 98 = .ok (.lload_n 0, 1) := by decide +kernel
theorem d2_99 : decode method_2_code 99 = .ok (.ldc2_w 15, 3) := by decide +kernel
theorem d2_102 : decode method_2_code 102 = .ok (.lcmp, 1) := by decide +kernel
theorem d2_103 : decode method_2_code 103 = .ok (.ifCond .gt 7, 3) := by decide +kernel
theorem d2_106 : decode method_2_code 106 = .ok (.iconst 1, 1) := by decide +kernel
theorem d2_107 : decode method_2_code 107 = .ok (.goto 4, 3) := by decide +kernel
theorem d2_110 : decode method_2_code 110 = .ok (.iconst 0, 1) := by decide +kernel
theorem d2_111 : decode method_2_code 111 = .ok (.istore 4, 2) := by decide +kernel
theorem d2_113 : decode method_2_code 113 = .ok (.iload 4, 2) := by decide +kernel
theorem d2_115 : decode method_2_code 115 = .ok (.ifCond .ne 7, 3) := by decide +kernel
theorem d2_118 : decode method_2_code 118 = .ok (.iload_n 3, 1) := by decide +kernel
theorem d2_119 : decode method_2_code 119 = .ok (.ifCond .eq 7, 3) := by decide +kernel
theorem d2_122 : decode method_2_code 122 = .ok (.iconst 1, 1) := by decide +kernel
theorem d2_123 : decode method_2_code 123 = .ok (.goto 4, 3) := by decide +kernel
theorem d2_126 : decode method_2_code 126 = .ok (.iconst 0, 1) := by decide +kernel
theorem d2_127 : decode method_2_code 127 = .ok (.ireturn, 1) := by decide +kernel
theorem pn_2 : plainName "com/example/boughcheck/boughcheck/DefaultReferencesAllowedPinLaw" = true := by first | (simp [plainName, overriddenIn]; done) | decide +kernel
theorem ef_2 (m : MethodId) (q0 : Int64) (q1 : Int32) : entryFrame m #[(.long q0), (.int q1)] 5 = mkF m 0 #[.val (.long q0), .second, .val (.int q1), .unset, .unset] [] := by first | (simp [entryFrame, mkF, argsToLocals, Value.category]; done) | rfl
def refc_127 (v127_s0 : Int32) : Int32 := (nar .boolean v127_s0)
def refc_122  : Int32 := (refc_127 (1 : Int32))
def refc_113 (v37_s0 : Int32) (v113_4 : Int32) : Int32 := if v113_4 = (0 : Int32) then if v37_s0 = (0 : Int32) then (refc_127 (0 : Int32)) else refc_122 else refc_122
def refc_111 (v37_s0 : Int32) (v111_s0 : Int32) : Int32 := (refc_113 v37_s0 v111_s0)
def refc_110 (v37_s0 : Int32) : Int32 := (refc_111 v37_s0 (0 : Int32))
def refc_106 (v37_s0 : Int32) : Int32 := (refc_111 v37_s0 (1 : Int32))
def refc_61 (v37_s0 : Int32) (v61_s0 : Int32) : Int32 := (refc_113 v37_s0 v61_s0)
def refc_60 (v37_s0 : Int32) : Int32 := (refc_61 v37_s0 (0 : Int32))
def refc_37 (q0 : Int64) (q1 : Int32) (v37_s0 : Int32) : Int32 := if q1 = (0 : Int32) then if q0 = (9 : Int64) then (refc_106 v37_s0) else if q0 = (10 : Int64) then (refc_106 v37_s0) else if q0 = (13 : Int64) then (refc_106 v37_s0) else if q0 < (32 : Int64) then (refc_110 v37_s0) else if (55295 : Int64) < q0 then (refc_110 v37_s0) else (refc_106 v37_s0) else if q0 < (1 : Int64) then (refc_60 v37_s0) else if (55295 : Int64) < q0 then (refc_60 v37_s0) else (refc_61 v37_s0 (1 : Int32))
def refc_36 (q0 : Int64) (q1 : Int32) : Int32 := (refc_37 q0 q1 (0 : Int32))
def refc_32 (q0 : Int64) (q1 : Int32) : Int32 := (refc_37 q0 q1 (1 : Int32))
def refc_16 (q0 : Int64) (q1 : Int32) : Int32 := if q0 < (65536 : Int64) then (refc_36 q0 q1) else if (1114111 : Int64) < q0 then (refc_36 q0 q1) else (refc_32 q0 q1)
def refc (q0 : Int64) (q1 : Int32) : Int32 := if q0 < (57344 : Int64) then (refc_16 q0 q1) else if (65533 : Int64) < q0 then (refc_16 q0 q1) else (refc_32 q0 q1)
set_option maxRecDepth 65536 in
set_option maxHeartbeats 40000000 in
theorem rm_refc (l : Launch) (Z : State) (a0 : Array Value) (hw : ∀ d ∈ tables_1, d.before a0 Z = true) (ws : List Jvm.Cond) (q0 : Int64) (q1 : Int32) (h0 : Heap) :
    MetFree l (⟨"com/example/boughcheck/boughcheck/DefaultReferencesAllowedPinLaw", "reference", "(JZ)Z"⟩ : MethodName) (head1 (Jvm.Cond.code (⟨"com/example/boughcheck/boughcheck/DefaultReferencesAllowedPinLaw", "reference", "(JZ)Z"⟩ : MethodName) method_2_code 5 (some .boolean) :: ws) ({ frames := 0, cells := 0, slots := 0, locals := 0 } : Room)) (fun a U => a = #[(.long q0), (.int q1)] ∧ Z.Warmed39 U.vm ∧ U.heap = h0) (fun _ _ _ _ _ => True) (fun _ U o U' => ∃ v L, o = .returned v ∧ QP (Value.int (refc q0 q1)) h0 v U'.heap L ∧ FrameEnd U o U' L 0 0) := by
  refine MetFree.of_bodySF (plainFor_of_name pn_2) hisR ?_
  intro p e s m args below meth c s₁ Bd hml0 hP hK
  obtain ⟨rfl, hZ, hh⟩ := hP
  have hx := Bd.exec
  have hby := Bd.bytes
  have hlk : meth.locks = false := Bd.notSynchronized
  have hml : c.maxLocals = 5 := hml0
  have hown : s.vm.findClass "com/example/boughcheck/boughcheck/DefaultReferencesAllowedPinLaw" = some m.cls := findClass_of_methodNamed Bd.named
  have X0 : Stand p l e ({ frames := 0, cells := 0, slots := 0, locals := 0 } : Room) s m #[(.long q0), (.int q1)] below meth c s₁ [] 0 0 := Stand.of_body Bd
  have e0 : s₁.heap = h0 := by rw [← hh, Bd.state]; rfl
  have brefc_127 : ∀ (T : State) (X : Stand p l e ({ frames := 0, cells := 0, slots := 0, locals := 0 } : Room) s m #[(.long q0), (.int q1)] below meth c T [] 0 0) (eT : T.heap = h0) (v37_s0 : Int32) (v113_4 : Int32) (v127_s0 : Int32), OEnds p e below s (QP (Value.int (refc_127 v127_s0)) h0) 0 0 (T.setTop (mkF m 127 #[.val (.long q0), .second, .val (.int q1), .val (.int v37_s0), .val (.int v113_4)] [(.int v127_s0)])) := by
    intro T X eT v37_s0 v113_4 v127_s0
    exact own_retN X hx hlk .boolean (by simp) Bd.returns (hb hby d2_127) ⟨congrArg (fun z => some (Value.int z)) (Eq.symm (by rw [refc_127] <;> rfl)), rfl, eT⟩ (Nat.le_refl _) (Nat.le_refl _)
  have brefc_122 : ∀ (T : State) (X : Stand p l e ({ frames := 0, cells := 0, slots := 0, locals := 0 } : Room) s m #[(.long q0), (.int q1)] below meth c T [] 0 0) (eT : T.heap = h0) (v37_s0 : Int32) (v113_4 : Int32), OEnds p e below s (QP (Value.int (refc_122)) h0) 0 0 (T.setTop (mkF m 122 #[.val (.long q0), .second, .val (.int q1), .val (.int v37_s0), .val (.int v113_4)] [])) := by
    intro T X eT v37_s0 v113_4
    refine own_by (fun _ k => XS.iconst X.here hx rfl (hb hby d2_122) k) ?_
    show OEnds p e below s _ _ _ (T.setTop (mkF m 123 #[.val (.long q0), .second, .val (.int q1), .val (.int v37_s0), .val (.int v113_4)] [(.int (1 : Int32))]))
    refine own_by (fun _ k => XS.goto X.here hx rfl (pc0 := 123) (pc' := 127) rfl (hb hby d2_123) (by decide) (by decide) k) ?_
    show OEnds p e below s _ _ _ (T.setTop (mkF m 127 #[.val (.long q0), .second, .val (.int q1), .val (.int v37_s0), .val (.int v113_4)] [(.int (1 : Int32))]))
    exact own_eq (congrArg Value.int (by rw [refc_122] <;> rfl)) (brefc_127 T X eT v37_s0 v113_4 (1 : Int32))
  have brefc_113 : ∀ (T : State) (X : Stand p l e ({ frames := 0, cells := 0, slots := 0, locals := 0 } : Room) s m #[(.long q0), (.int q1)] below meth c T [] 0 0) (eT : T.heap = h0) (v37_s0 : Int32) (v113_4 : Int32), OEnds p e below s (QP (Value.int (refc_113 v37_s0 v113_4)) h0) 0 0 (T.setTop (mkF m 113 #[.val (.long q0), .second, .val (.int q1), .val (.int v37_s0), .val (.int v113_4)] [])) := by
    intro T X eT v37_s0 v113_4
    refine own_by (fun _ k => XS.iload X.here hx rfl (hb hby d2_113) rfl k) ?_
    show OEnds p e below s _ _ _ (T.setTop (mkF m 115 #[.val (.long q0), .second, .val (.int q1), .val (.int v37_s0), .val (.int v113_4)] [(.int v113_4)]))
    by_cases hc115 : v113_4 = (0 : Int32)
    · refine own_by (fun _ k => XS.ifNo X.here hx rfl (hb hby d2_115) rfl ((if0 _ _).trans (teq hc115).2) k) ?_
      show OEnds p e below s _ _ _ (T.setTop (mkF m 118 #[.val (.long q0), .second, .val (.int q1), .val (.int v37_s0), .val (.int v113_4)] []))
      refine own_by (fun _ k => XS.iloadN X.here hx rfl (hb hby d2_118) rfl k) ?_
      show OEnds p e below s _ _ _ (T.setTop (mkF m 119 #[.val (.long q0), .second, .val (.int q1), .val (.int v37_s0), .val (.int v113_4)] [(.int v37_s0)]))
      by_cases hc119 : v37_s0 = (0 : Int32)
      · refine own_by (fun _ k => XS.ifYes X.here hx rfl (pc0 := 119) (pc' := 126) rfl (hb hby d2_119) rfl ((if0 _ _).trans (teq hc119).1) (by decide) (by decide) k) ?_
        show OEnds p e below s _ _ _ (T.setTop (mkF m 126 #[.val (.long q0), .second, .val (.int q1), .val (.int v37_s0), .val (.int v113_4)] []))
        refine own_by (fun _ k => XS.iconst X.here hx rfl (hb hby d2_126) k) ?_
        show OEnds p e below s _ _ _ (T.setTop (mkF m 127 #[.val (.long q0), .second, .val (.int q1), .val (.int v37_s0), .val (.int v113_4)] [(.int (0 : Int32))]))
        exact own_eq (congrArg Value.int (by rw [refc_113, if_pos hc115, if_pos hc119] <;> rfl)) (brefc_127 T X eT v37_s0 v113_4 (0 : Int32))
      · refine own_by (fun _ k => XS.ifNo X.here hx rfl (hb hby d2_119) rfl ((if0 _ _).trans (feq hc119).1) k) ?_
        show OEnds p e below s _ _ _ (T.setTop (mkF m 122 #[.val (.long q0), .second, .val (.int q1), .val (.int v37_s0), .val (.int v113_4)] []))
        exact own_eq (congrArg Value.int (by rw [refc_113, if_pos hc115, if_neg hc119] <;> rfl)) (brefc_122 T X eT v37_s0 v113_4)
    · refine own_by (fun _ k => XS.ifYes X.here hx rfl (pc0 := 115) (pc' := 122) rfl (hb hby d2_115) rfl ((if0 _ _).trans (feq hc115).2) (by decide) (by decide) k) ?_
      show OEnds p e below s _ _ _ (T.setTop (mkF m 122 #[.val (.long q0), .second, .val (.int q1), .val (.int v37_s0), .val (.int v113_4)] []))
      exact own_eq (congrArg Value.int (by rw [refc_113, if_neg hc115] <;> rfl)) (brefc_122 T X eT v37_s0 v113_4)
  have brefc_111 : ∀ (T : State) (X : Stand p l e ({ frames := 0, cells := 0, slots := 0, locals := 0 } : Room) s m #[(.long q0), (.int q1)] below meth c T [] 0 0) (eT : T.heap = h0) (v37_s0 : Int32) (v111_s0 : Int32), OEnds p e below s (QP (Value.int (refc_111 v37_s0 v111_s0)) h0) 0 0 (T.setTop (mkF m 111 #[.val (.long q0), .second, .val (.int q1), .val (.int v37_s0), .unset] [(.int v111_s0)])) := by
    intro T X eT v37_s0 v111_s0
    refine own_by (fun _ k => XS.istore X.here hx rfl (hb hby d2_111) rfl (l' := #[.val (.long q0), .second, .val (.int q1), .val (.int v37_s0), .val (.int v111_s0)]) rfl k) ?_
    show OEnds p e below s _ _ _ (T.setTop (mkF m 113 #[.val (.long q0), .second, .val (.int q1), .val (.int v37_s0), .val (.int v111_s0)] []))
    exact own_eq (congrArg Value.int (by rw [refc_111] <;> rfl)) (brefc_113 T X eT v37_s0 v111_s0)
  have brefc_110 : ∀ (T : State) (X : Stand p l e ({ frames := 0, cells := 0, slots := 0, locals := 0 } : Room) s m #[(.long q0), (.int q1)] below meth c T [] 0 0) (eT : T.heap = h0) (v37_s0 : Int32), OEnds p e below s (QP (Value.int (refc_110 v37_s0)) h0) 0 0 (T.setTop (mkF m 110 #[.val (.long q0), .second, .val (.int q1), .val (.int v37_s0), .unset] [])) := by
    intro T X eT v37_s0
    refine own_by (fun _ k => XS.iconst X.here hx rfl (hb hby d2_110) k) ?_
    show OEnds p e below s _ _ _ (T.setTop (mkF m 111 #[.val (.long q0), .second, .val (.int q1), .val (.int v37_s0), .unset] [(.int (0 : Int32))]))
    exact own_eq (congrArg Value.int (by rw [refc_110] <;> rfl)) (brefc_111 T X eT v37_s0 (0 : Int32))
  have brefc_106 : ∀ (T : State) (X : Stand p l e ({ frames := 0, cells := 0, slots := 0, locals := 0 } : Room) s m #[(.long q0), (.int q1)] below meth c T [] 0 0) (eT : T.heap = h0) (v37_s0 : Int32), OEnds p e below s (QP (Value.int (refc_106 v37_s0)) h0) 0 0 (T.setTop (mkF m 106 #[.val (.long q0), .second, .val (.int q1), .val (.int v37_s0), .unset] [])) := by
    intro T X eT v37_s0
    refine own_by (fun _ k => XS.iconst X.here hx rfl (hb hby d2_106) k) ?_
    show OEnds p e below s _ _ _ (T.setTop (mkF m 107 #[.val (.long q0), .second, .val (.int q1), .val (.int v37_s0), .unset] [(.int (1 : Int32))]))
    refine own_by (fun _ k => XS.goto X.here hx rfl (pc0 := 107) (pc' := 111) rfl (hb hby d2_107) (by decide) (by decide) k) ?_
    show OEnds p e below s _ _ _ (T.setTop (mkF m 111 #[.val (.long q0), .second, .val (.int q1), .val (.int v37_s0), .unset] [(.int (1 : Int32))]))
    exact own_eq (congrArg Value.int (by rw [refc_106] <;> rfl)) (brefc_111 T X eT v37_s0 (1 : Int32))
  have brefc_61 : ∀ (T : State) (X : Stand p l e ({ frames := 0, cells := 0, slots := 0, locals := 0 } : Room) s m #[(.long q0), (.int q1)] below meth c T [] 0 0) (eT : T.heap = h0) (v37_s0 : Int32) (v61_s0 : Int32), OEnds p e below s (QP (Value.int (refc_61 v37_s0 v61_s0)) h0) 0 0 (T.setTop (mkF m 61 #[.val (.long q0), .second, .val (.int q1), .val (.int v37_s0), .unset] [(.int v61_s0)])) := by
    intro T X eT v37_s0 v61_s0
    refine own_by (fun _ k => XS.istore X.here hx rfl (hb hby d2_61) rfl (l' := #[.val (.long q0), .second, .val (.int q1), .val (.int v37_s0), .val (.int v61_s0)]) rfl k) ?_
    show OEnds p e below s _ _ _ (T.setTop (mkF m 63 #[.val (.long q0), .second, .val (.int q1), .val (.int v37_s0), .val (.int v61_s0)] []))
    refine own_by (fun _ k => XS.goto X.here hx rfl (pc0 := 63) (pc' := 113) rfl (hb hby d2_63) (by decide) (by decide) k) ?_
    show OEnds p e below s _ _ _ (T.setTop (mkF m 113 #[.val (.long q0), .second, .val (.int q1), .val (.int v37_s0), .val (.int v61_s0)] []))
    exact own_eq (congrArg Value.int (by rw [refc_61] <;> rfl)) (brefc_113 T X eT v37_s0 v61_s0)
  have brefc_60 : ∀ (T : State) (X : Stand p l e ({ frames := 0, cells := 0, slots := 0, locals := 0 } : Room) s m #[(.long q0), (.int q1)] below meth c T [] 0 0) (eT : T.heap = h0) (v37_s0 : Int32), OEnds p e below s (QP (Value.int (refc_60 v37_s0)) h0) 0 0 (T.setTop (mkF m 60 #[.val (.long q0), .second, .val (.int q1), .val (.int v37_s0), .unset] [])) := by
    intro T X eT v37_s0
    refine own_by (fun _ k => XS.iconst X.here hx rfl (hb hby d2_60) k) ?_
    show OEnds p e below s _ _ _ (T.setTop (mkF m 61 #[.val (.long q0), .second, .val (.int q1), .val (.int v37_s0), .unset] [(.int (0 : Int32))]))
    exact own_eq (congrArg Value.int (by rw [refc_60] <;> rfl)) (brefc_61 T X eT v37_s0 (0 : Int32))
  have brefc_37 : ∀ (T : State) (X : Stand p l e ({ frames := 0, cells := 0, slots := 0, locals := 0 } : Room) s m #[(.long q0), (.int q1)] below meth c T [] 0 0) (eT : T.heap = h0) (v37_s0 : Int32), OEnds p e below s (QP (Value.int (refc_37 q0 q1 v37_s0)) h0) 0 0 (T.setTop (mkF m 37 #[.val (.long q0), .second, .val (.int q1), .unset, .unset] [(.int v37_s0)])) := by
    intro T X eT v37_s0
    refine own_by (fun _ k => XS.istoreN X.here hx rfl (hb hby d2_37) rfl (l' := #[.val (.long q0), .second, .val (.int q1), .val (.int v37_s0), .unset]) rfl k) ?_
    show OEnds p e below s _ _ _ (T.setTop (mkF m 38 #[.val (.long q0), .second, .val (.int q1), .val (.int v37_s0), .unset] []))
    refine own_by (fun _ k => XS.iloadN X.here hx rfl (hb hby d2_38) rfl k) ?_
    show OEnds p e below s _ _ _ (T.setTop (mkF m 39 #[.val (.long q0), .second, .val (.int q1), .val (.int v37_s0), .unset] [(.int q1)]))
    by_cases hc39 : q1 = (0 : Int32)
    · refine own_by (fun _ k => XS.ifYes X.here hx rfl (pc0 := 39) (pc' := 66) rfl (hb hby d2_39) rfl ((if0 _ _).trans (teq hc39).1) (by decide) (by decide) k) ?_
      show OEnds p e below s _ _ _ (T.setTop (mkF m 66 #[.val (.long q0), .second, .val (.int q1), .val (.int v37_s0), .unset] []))
      refine own_by (fun _ k => XS.lloadN X.here hx rfl (hb hby d2_66) rfl k) ?_
      show OEnds p e below s _ _ _ (T.setTop (mkF m 67 #[.val (.long q0), .second, .val (.int q1), .val (.int v37_s0), .unset] [(.long q0)]))
      refine own_by (X.ldc2Long hx hown (mvT hZ (hw _ (List.mem_of_getElem? (i := 4) rfl))) (g := (mkF m 67 #[.val (.long q0), .second, .val (.int q1), .val (.int v37_s0), .unset] [(.long q0)])) rfl (hb hby d2_67)) ?_
      show OEnds p e below s _ _ _ (T.setTop (mkF m 70 #[.val (.long q0), .second, .val (.int q1), .val (.int v37_s0), .unset] [(.long (9 : Int64)), (.long q0)]))
      refine own_by (fun _ k => XS.lcmp X.here hx rfl (hb hby d2_70) rfl k) ?_
      show OEnds p e below s _ _ _ (T.setTop (mkF m 71 #[.val (.long q0), .second, .val (.int q1), .val (.int v37_s0), .unset] [(.int (lcmpW q0 (9 : Int64)))]))
      by_cases hc71 : q0 = (9 : Int64)
      · refine own_by (fun _ k => XS.ifYes X.here hx rfl (pc0 := 71) (pc' := 106) rfl (hb hby d2_71) rfl ((if0 _ _).trans (teq ((lw_eq _ _).mpr hc71)).1) (by decide) (by decide) k) ?_
        show OEnds p e below s _ _ _ (T.setTop (mkF m 106 #[.val (.long q0), .second, .val (.int q1), .val (.int v37_s0), .unset] []))
        exact own_eq (congrArg Value.int (by rw [refc_37, if_pos hc39, if_pos hc71] <;> rfl)) (brefc_106 T X eT v37_s0)
      · refine own_by (fun _ k => XS.ifNo X.here hx rfl (hb hby d2_71) rfl ((if0 _ _).trans (feq (fun q => hc71 ((lw_eq _ _).mp q))).1) k) ?_
        show OEnds p e below s _ _ _ (T.setTop (mkF m 74 #[.val (.long q0), .second, .val (.int q1), .val (.int v37_s0), .unset] []))
        refine own_by (fun _ k => XS.lloadN X.here hx rfl (hb hby d2_74) rfl k) ?_
        show OEnds p e below s _ _ _ (T.setTop (mkF m 75 #[.val (.long q0), .second, .val (.int q1), .val (.int v37_s0), .unset] [(.long q0)]))
        refine own_by (X.ldc2Long hx hown (mvT hZ (hw _ (List.mem_of_getElem? (i := 5) rfl))) (g := (mkF m 75 #[.val (.long q0), .second, .val (.int q1), .val (.int v37_s0), .unset] [(.long q0)])) rfl (hb hby d2_75)) ?_
        show OEnds p e below s _ _ _ (T.setTop (mkF m 78 #[.val (.long q0), .second, .val (.int q1), .val (.int v37_s0), .unset] [(.long (10 : Int64)), (.long q0)]))
        refine own_by (fun _ k => XS.lcmp X.here hx rfl (hb hby d2_78) rfl k) ?_
        show OEnds p e below s _ _ _ (T.setTop (mkF m 79 #[.val (.long q0), .second, .val (.int q1), .val (.int v37_s0), .unset] [(.int (lcmpW q0 (10 : Int64)))]))
        by_cases hc79 : q0 = (10 : Int64)
        · refine own_by (fun _ k => XS.ifYes X.here hx rfl (pc0 := 79) (pc' := 106) rfl (hb hby d2_79) rfl ((if0 _ _).trans (teq ((lw_eq _ _).mpr hc79)).1) (by decide) (by decide) k) ?_
          show OEnds p e below s _ _ _ (T.setTop (mkF m 106 #[.val (.long q0), .second, .val (.int q1), .val (.int v37_s0), .unset] []))
          exact own_eq (congrArg Value.int (by rw [refc_37, if_pos hc39, if_neg hc71, if_pos hc79] <;> rfl)) (brefc_106 T X eT v37_s0)
        · refine own_by (fun _ k => XS.ifNo X.here hx rfl (hb hby d2_79) rfl ((if0 _ _).trans (feq (fun q => hc79 ((lw_eq _ _).mp q))).1) k) ?_
          show OEnds p e below s _ _ _ (T.setTop (mkF m 82 #[.val (.long q0), .second, .val (.int q1), .val (.int v37_s0), .unset] []))
          refine own_by (fun _ k => XS.lloadN X.here hx rfl (hb hby d2_82) rfl k) ?_
          show OEnds p e below s _ _ _ (T.setTop (mkF m 83 #[.val (.long q0), .second, .val (.int q1), .val (.int v37_s0), .unset] [(.long q0)]))
          refine own_by (X.ldc2Long hx hown (mvT hZ (hw _ (List.mem_of_getElem? (i := 6) rfl))) (g := (mkF m 83 #[.val (.long q0), .second, .val (.int q1), .val (.int v37_s0), .unset] [(.long q0)])) rfl (hb hby d2_83)) ?_
          show OEnds p e below s _ _ _ (T.setTop (mkF m 86 #[.val (.long q0), .second, .val (.int q1), .val (.int v37_s0), .unset] [(.long (13 : Int64)), (.long q0)]))
          refine own_by (fun _ k => XS.lcmp X.here hx rfl (hb hby d2_86) rfl k) ?_
          show OEnds p e below s _ _ _ (T.setTop (mkF m 87 #[.val (.long q0), .second, .val (.int q1), .val (.int v37_s0), .unset] [(.int (lcmpW q0 (13 : Int64)))]))
          by_cases hc87 : q0 = (13 : Int64)
          · refine own_by (fun _ k => XS.ifYes X.here hx rfl (pc0 := 87) (pc' := 106) rfl (hb hby d2_87) rfl ((if0 _ _).trans (teq ((lw_eq _ _).mpr hc87)).1) (by decide) (by decide) k) ?_
            show OEnds p e below s _ _ _ (T.setTop (mkF m 106 #[.val (.long q0), .second, .val (.int q1), .val (.int v37_s0), .unset] []))
            exact own_eq (congrArg Value.int (by rw [refc_37, if_pos hc39, if_neg hc71, if_neg hc79, if_pos hc87] <;> rfl)) (brefc_106 T X eT v37_s0)
          · refine own_by (fun _ k => XS.ifNo X.here hx rfl (hb hby d2_87) rfl ((if0 _ _).trans (feq (fun q => hc87 ((lw_eq _ _).mp q))).1) k) ?_
            show OEnds p e below s _ _ _ (T.setTop (mkF m 90 #[.val (.long q0), .second, .val (.int q1), .val (.int v37_s0), .unset] []))
            refine own_by (fun _ k => XS.lloadN X.here hx rfl (hb hby d2_90) rfl k) ?_
            show OEnds p e below s _ _ _ (T.setTop (mkF m 91 #[.val (.long q0), .second, .val (.int q1), .val (.int v37_s0), .unset] [(.long q0)]))
            refine own_by (X.ldc2Long hx hown (mvT hZ (hw _ (List.mem_of_getElem? (i := 8) rfl))) (g := (mkF m 91 #[.val (.long q0), .second, .val (.int q1), .val (.int v37_s0), .unset] [(.long q0)])) rfl (hb hby d2_91)) ?_
            show OEnds p e below s _ _ _ (T.setTop (mkF m 94 #[.val (.long q0), .second, .val (.int q1), .val (.int v37_s0), .unset] [(.long (32 : Int64)), (.long q0)]))
            refine own_by (fun _ k => XS.lcmp X.here hx rfl (hb hby d2_94) rfl k) ?_
            show OEnds p e below s _ _ _ (T.setTop (mkF m 95 #[.val (.long q0), .second, .val (.int q1), .val (.int v37_s0), .unset] [(.int (lcmpW q0 (32 : Int64)))]))
            by_cases hc95 : q0 < (32 : Int64)
            · refine own_by (fun _ k => XS.ifYes X.here hx rfl (pc0 := 95) (pc' := 110) rfl (hb hby d2_95) rfl ((if0 _ _).trans (tlt ((lw_lt _ _).mpr hc95)).1) (by decide) (by decide) k) ?_
              show OEnds p e below s _ _ _ (T.setTop (mkF m 110 #[.val (.long q0), .second, .val (.int q1), .val (.int v37_s0), .unset] []))
              exact own_eq (congrArg Value.int (by rw [refc_37, if_pos hc39, if_neg hc71, if_neg hc79, if_neg hc87, if_pos hc95] <;> rfl)) (brefc_110 T X eT v37_s0)
            · refine own_by (fun _ k => XS.ifNo X.here hx rfl (hb hby d2_95) rfl ((if0 _ _).trans (flt (fun q => hc95 ((lw_lt _ _).mp q))).1) k) ?_
              show OEnds p e below s _ _ _ (T.setTop (mkF m 98 #[.val (.long q0), .second, .val (.int q1), .val (.int v37_s0), .unset] []))
              refine own_by (fun _ k => XS.lloadN X.here hx rfl (hb hby d2_98) rfl k) ?_
              show OEnds p e below s _ _ _ (T.setTop (mkF m 99 #[.val (.long q0), .second, .val (.int q1), .val (.int v37_s0), .unset] [(.long q0)]))
              refine own_by (X.ldc2Long hx hown (mvT hZ (hw _ (List.mem_of_getElem? (i := 9) rfl))) (g := (mkF m 99 #[.val (.long q0), .second, .val (.int q1), .val (.int v37_s0), .unset] [(.long q0)])) rfl (hb hby d2_99)) ?_
              show OEnds p e below s _ _ _ (T.setTop (mkF m 102 #[.val (.long q0), .second, .val (.int q1), .val (.int v37_s0), .unset] [(.long (55295 : Int64)), (.long q0)]))
              refine own_by (fun _ k => XS.lcmp X.here hx rfl (hb hby d2_102) rfl k) ?_
              show OEnds p e below s _ _ _ (T.setTop (mkF m 103 #[.val (.long q0), .second, .val (.int q1), .val (.int v37_s0), .unset] [(.int (lcmpW q0 (55295 : Int64)))]))
              by_cases hc103 : (55295 : Int64) < q0
              · refine own_by (fun _ k => XS.ifYes X.here hx rfl (pc0 := 103) (pc' := 110) rfl (hb hby d2_103) rfl ((if0 _ _).trans (tlt ((lw_gt _ _).mpr hc103)).2.2.1) (by decide) (by decide) k) ?_
                show OEnds p e below s _ _ _ (T.setTop (mkF m 110 #[.val (.long q0), .second, .val (.int q1), .val (.int v37_s0), .unset] []))
                exact own_eq (congrArg Value.int (by rw [refc_37, if_pos hc39, if_neg hc71, if_neg hc79, if_neg hc87, if_neg hc95, if_pos hc103] <;> rfl)) (brefc_110 T X eT v37_s0)
              · refine own_by (fun _ k => XS.ifNo X.here hx rfl (hb hby d2_103) rfl ((if0 _ _).trans (flt (fun q => hc103 ((lw_gt _ _).mp q))).2.2.1) k) ?_
                show OEnds p e below s _ _ _ (T.setTop (mkF m 106 #[.val (.long q0), .second, .val (.int q1), .val (.int v37_s0), .unset] []))
                exact own_eq (congrArg Value.int (by rw [refc_37, if_pos hc39, if_neg hc71, if_neg hc79, if_neg hc87, if_neg hc95, if_neg hc103] <;> rfl)) (brefc_106 T X eT v37_s0)
    · refine own_by (fun _ k => XS.ifNo X.here hx rfl (hb hby d2_39) rfl ((if0 _ _).trans (feq hc39).1) k) ?_
      show OEnds p e below s _ _ _ (T.setTop (mkF m 42 #[.val (.long q0), .second, .val (.int q1), .val (.int v37_s0), .unset] []))
      refine own_by (fun _ k => XS.lloadN X.here hx rfl (hb hby d2_42) rfl k) ?_
      show OEnds p e below s _ _ _ (T.setTop (mkF m 43 #[.val (.long q0), .second, .val (.int q1), .val (.int v37_s0), .unset] [(.long q0)]))
      refine own_by (fun _ k => XS.lconst X.here hx rfl (hb hby d2_43) k) ?_
      show OEnds p e below s _ _ _ (T.setTop (mkF m 44 #[.val (.long q0), .second, .val (.int q1), .val (.int v37_s0), .unset] [(.long (1 : Int64)), (.long q0)]))
      refine own_by (fun _ k => XS.lcmp X.here hx rfl (hb hby d2_44) rfl k) ?_
      show OEnds p e below s _ _ _ (T.setTop (mkF m 45 #[.val (.long q0), .second, .val (.int q1), .val (.int v37_s0), .unset] [(.int (lcmpW q0 (1 : Int64)))]))
      by_cases hc45 : q0 < (1 : Int64)
      · refine own_by (fun _ k => XS.ifYes X.here hx rfl (pc0 := 45) (pc' := 60) rfl (hb hby d2_45) rfl ((if0 _ _).trans (tlt ((lw_lt _ _).mpr hc45)).1) (by decide) (by decide) k) ?_
        show OEnds p e below s _ _ _ (T.setTop (mkF m 60 #[.val (.long q0), .second, .val (.int q1), .val (.int v37_s0), .unset] []))
        exact own_eq (congrArg Value.int (by rw [refc_37, if_neg hc39, if_pos hc45] <;> rfl)) (brefc_60 T X eT v37_s0)
      · refine own_by (fun _ k => XS.ifNo X.here hx rfl (hb hby d2_45) rfl ((if0 _ _).trans (flt (fun q => hc45 ((lw_lt _ _).mp q))).1) k) ?_
        show OEnds p e below s _ _ _ (T.setTop (mkF m 48 #[.val (.long q0), .second, .val (.int q1), .val (.int v37_s0), .unset] []))
        refine own_by (fun _ k => XS.lloadN X.here hx rfl (hb hby d2_48) rfl k) ?_
        show OEnds p e below s _ _ _ (T.setTop (mkF m 49 #[.val (.long q0), .second, .val (.int q1), .val (.int v37_s0), .unset] [(.long q0)]))
        refine own_by (X.ldc2Long hx hown (mvT hZ (hw _ (List.mem_of_getElem? (i := 9) rfl))) (g := (mkF m 49 #[.val (.long q0), .second, .val (.int q1), .val (.int v37_s0), .unset] [(.long q0)])) rfl (hb hby d2_49)) ?_
        show OEnds p e below s _ _ _ (T.setTop (mkF m 52 #[.val (.long q0), .second, .val (.int q1), .val (.int v37_s0), .unset] [(.long (55295 : Int64)), (.long q0)]))
        refine own_by (fun _ k => XS.lcmp X.here hx rfl (hb hby d2_52) rfl k) ?_
        show OEnds p e below s _ _ _ (T.setTop (mkF m 53 #[.val (.long q0), .second, .val (.int q1), .val (.int v37_s0), .unset] [(.int (lcmpW q0 (55295 : Int64)))]))
        by_cases hc53 : (55295 : Int64) < q0
        · refine own_by (fun _ k => XS.ifYes X.here hx rfl (pc0 := 53) (pc' := 60) rfl (hb hby d2_53) rfl ((if0 _ _).trans (tlt ((lw_gt _ _).mpr hc53)).2.2.1) (by decide) (by decide) k) ?_
          show OEnds p e below s _ _ _ (T.setTop (mkF m 60 #[.val (.long q0), .second, .val (.int q1), .val (.int v37_s0), .unset] []))
          exact own_eq (congrArg Value.int (by rw [refc_37, if_neg hc39, if_neg hc45, if_pos hc53] <;> rfl)) (brefc_60 T X eT v37_s0)
        · refine own_by (fun _ k => XS.ifNo X.here hx rfl (hb hby d2_53) rfl ((if0 _ _).trans (flt (fun q => hc53 ((lw_gt _ _).mp q))).2.2.1) k) ?_
          show OEnds p e below s _ _ _ (T.setTop (mkF m 56 #[.val (.long q0), .second, .val (.int q1), .val (.int v37_s0), .unset] []))
          refine own_by (fun _ k => XS.iconst X.here hx rfl (hb hby d2_56) k) ?_
          show OEnds p e below s _ _ _ (T.setTop (mkF m 57 #[.val (.long q0), .second, .val (.int q1), .val (.int v37_s0), .unset] [(.int (1 : Int32))]))
          refine own_by (fun _ k => XS.goto X.here hx rfl (pc0 := 57) (pc' := 61) rfl (hb hby d2_57) (by decide) (by decide) k) ?_
          show OEnds p e below s _ _ _ (T.setTop (mkF m 61 #[.val (.long q0), .second, .val (.int q1), .val (.int v37_s0), .unset] [(.int (1 : Int32))]))
          exact own_eq (congrArg Value.int (by rw [refc_37, if_neg hc39, if_neg hc45, if_neg hc53] <;> rfl)) (brefc_61 T X eT v37_s0 (1 : Int32))
  have brefc_36 : ∀ (T : State) (X : Stand p l e ({ frames := 0, cells := 0, slots := 0, locals := 0 } : Room) s m #[(.long q0), (.int q1)] below meth c T [] 0 0) (eT : T.heap = h0), OEnds p e below s (QP (Value.int (refc_36 q0 q1)) h0) 0 0 (T.setTop (mkF m 36 #[.val (.long q0), .second, .val (.int q1), .unset, .unset] [])) := by
    intro T X eT
    refine own_by (fun _ k => XS.iconst X.here hx rfl (hb hby d2_36) k) ?_
    show OEnds p e below s _ _ _ (T.setTop (mkF m 37 #[.val (.long q0), .second, .val (.int q1), .unset, .unset] [(.int (0 : Int32))]))
    exact own_eq (congrArg Value.int (by rw [refc_36] <;> rfl)) (brefc_37 T X eT (0 : Int32))
  have brefc_32 : ∀ (T : State) (X : Stand p l e ({ frames := 0, cells := 0, slots := 0, locals := 0 } : Room) s m #[(.long q0), (.int q1)] below meth c T [] 0 0) (eT : T.heap = h0), OEnds p e below s (QP (Value.int (refc_32 q0 q1)) h0) 0 0 (T.setTop (mkF m 32 #[.val (.long q0), .second, .val (.int q1), .unset, .unset] [])) := by
    intro T X eT
    refine own_by (fun _ k => XS.iconst X.here hx rfl (hb hby d2_32) k) ?_
    show OEnds p e below s _ _ _ (T.setTop (mkF m 33 #[.val (.long q0), .second, .val (.int q1), .unset, .unset] [(.int (1 : Int32))]))
    refine own_by (fun _ k => XS.goto X.here hx rfl (pc0 := 33) (pc' := 37) rfl (hb hby d2_33) (by decide) (by decide) k) ?_
    show OEnds p e below s _ _ _ (T.setTop (mkF m 37 #[.val (.long q0), .second, .val (.int q1), .unset, .unset] [(.int (1 : Int32))]))
    exact own_eq (congrArg Value.int (by rw [refc_32] <;> rfl)) (brefc_37 T X eT (1 : Int32))
  have brefc_16 : ∀ (T : State) (X : Stand p l e ({ frames := 0, cells := 0, slots := 0, locals := 0 } : Room) s m #[(.long q0), (.int q1)] below meth c T [] 0 0) (eT : T.heap = h0), OEnds p e below s (QP (Value.int (refc_16 q0 q1)) h0) 0 0 (T.setTop (mkF m 16 #[.val (.long q0), .second, .val (.int q1), .unset, .unset] [])) := by
    intro T X eT
    refine own_by (fun _ k => XS.lloadN X.here hx rfl (hb hby d2_16) rfl k) ?_
    show OEnds p e below s _ _ _ (T.setTop (mkF m 17 #[.val (.long q0), .second, .val (.int q1), .unset, .unset] [(.long q0)]))
    refine own_by (X.ldc2Long hx hown (mvT hZ (hw _ (List.mem_of_getElem? (i := 12) rfl))) (g := (mkF m 17 #[.val (.long q0), .second, .val (.int q1), .unset, .unset] [(.long q0)])) rfl (hb hby d2_17)) ?_
    show OEnds p e below s _ _ _ (T.setTop (mkF m 20 #[.val (.long q0), .second, .val (.int q1), .unset, .unset] [(.long (65536 : Int64)), (.long q0)]))
    refine own_by (fun _ k => XS.lcmp X.here hx rfl (hb hby d2_20) rfl k) ?_
    show OEnds p e below s _ _ _ (T.setTop (mkF m 21 #[.val (.long q0), .second, .val (.int q1), .unset, .unset] [(.int (lcmpW q0 (65536 : Int64)))]))
    by_cases hc21 : q0 < (65536 : Int64)
    · refine own_by (fun _ k => XS.ifYes X.here hx rfl (pc0 := 21) (pc' := 36) rfl (hb hby d2_21) rfl ((if0 _ _).trans (tlt ((lw_lt _ _).mpr hc21)).1) (by decide) (by decide) k) ?_
      show OEnds p e below s _ _ _ (T.setTop (mkF m 36 #[.val (.long q0), .second, .val (.int q1), .unset, .unset] []))
      exact own_eq (congrArg Value.int (by rw [refc_16, if_pos hc21] <;> rfl)) (brefc_36 T X eT)
    · refine own_by (fun _ k => XS.ifNo X.here hx rfl (hb hby d2_21) rfl ((if0 _ _).trans (flt (fun q => hc21 ((lw_lt _ _).mp q))).1) k) ?_
      show OEnds p e below s _ _ _ (T.setTop (mkF m 24 #[.val (.long q0), .second, .val (.int q1), .unset, .unset] []))
      refine own_by (fun _ k => XS.lloadN X.here hx rfl (hb hby d2_24) rfl k) ?_
      show OEnds p e below s _ _ _ (T.setTop (mkF m 25 #[.val (.long q0), .second, .val (.int q1), .unset, .unset] [(.long q0)]))
      refine own_by (X.ldc2Long hx hown (mvT hZ (hw _ (List.mem_of_getElem? (i := 13) rfl))) (g := (mkF m 25 #[.val (.long q0), .second, .val (.int q1), .unset, .unset] [(.long q0)])) rfl (hb hby d2_25)) ?_
      show OEnds p e below s _ _ _ (T.setTop (mkF m 28 #[.val (.long q0), .second, .val (.int q1), .unset, .unset] [(.long (1114111 : Int64)), (.long q0)]))
      refine own_by (fun _ k => XS.lcmp X.here hx rfl (hb hby d2_28) rfl k) ?_
      show OEnds p e below s _ _ _ (T.setTop (mkF m 29 #[.val (.long q0), .second, .val (.int q1), .unset, .unset] [(.int (lcmpW q0 (1114111 : Int64)))]))
      by_cases hc29 : (1114111 : Int64) < q0
      · refine own_by (fun _ k => XS.ifYes X.here hx rfl (pc0 := 29) (pc' := 36) rfl (hb hby d2_29) rfl ((if0 _ _).trans (tlt ((lw_gt _ _).mpr hc29)).2.2.1) (by decide) (by decide) k) ?_
        show OEnds p e below s _ _ _ (T.setTop (mkF m 36 #[.val (.long q0), .second, .val (.int q1), .unset, .unset] []))
        exact own_eq (congrArg Value.int (by rw [refc_16, if_neg hc21, if_pos hc29] <;> rfl)) (brefc_36 T X eT)
      · refine own_by (fun _ k => XS.ifNo X.here hx rfl (hb hby d2_29) rfl ((if0 _ _).trans (flt (fun q => hc29 ((lw_gt _ _).mp q))).2.2.1) k) ?_
        show OEnds p e below s _ _ _ (T.setTop (mkF m 32 #[.val (.long q0), .second, .val (.int q1), .unset, .unset] []))
        exact own_eq (congrArg Value.int (by rw [refc_16, if_neg hc21, if_neg hc29] <;> rfl)) (brefc_32 T X eT)
  show OEnds p e below s _ _ _ _
  refine own_by (fun t k => castTop (ef_2 m q0 q1) k) ?_
  show OEnds p e below s _ _ _ (s₁.setTop (mkF m 0 #[.val (.long q0), .second, .val (.int q1), .unset, .unset] []))
  refine own_by (fun _ k => XS.lloadN X0.here hx rfl (hb hby d2_0) rfl k) ?_
  show OEnds p e below s _ _ _ (s₁.setTop (mkF m 1 #[.val (.long q0), .second, .val (.int q1), .unset, .unset] [(.long q0)]))
  refine own_by (X0.ldc2Long hx hown (mvT hZ (hw _ (List.mem_of_getElem? (i := 10) rfl))) (g := (mkF m 1 #[.val (.long q0), .second, .val (.int q1), .unset, .unset] [(.long q0)])) rfl (hb hby d2_1)) ?_
  show OEnds p e below s _ _ _ (s₁.setTop (mkF m 4 #[.val (.long q0), .second, .val (.int q1), .unset, .unset] [(.long (57344 : Int64)), (.long q0)]))
  refine own_by (fun _ k => XS.lcmp X0.here hx rfl (hb hby d2_4) rfl k) ?_
  show OEnds p e below s _ _ _ (s₁.setTop (mkF m 5 #[.val (.long q0), .second, .val (.int q1), .unset, .unset] [(.int (lcmpW q0 (57344 : Int64)))]))
  by_cases hc5 : q0 < (57344 : Int64)
  · refine own_by (fun _ k => XS.ifYes X0.here hx rfl (pc0 := 5) (pc' := 16) rfl (hb hby d2_5) rfl ((if0 _ _).trans (tlt ((lw_lt _ _).mpr hc5)).1) (by decide) (by decide) k) ?_
    show OEnds p e below s _ _ _ (s₁.setTop (mkF m 16 #[.val (.long q0), .second, .val (.int q1), .unset, .unset] []))
    exact own_eq (congrArg Value.int (by rw [refc, if_pos hc5] <;> rfl)) (brefc_16 s₁ X0 e0)
  · refine own_by (fun _ k => XS.ifNo X0.here hx rfl (hb hby d2_5) rfl ((if0 _ _).trans (flt (fun q => hc5 ((lw_lt _ _).mp q))).1) k) ?_
    show OEnds p e below s _ _ _ (s₁.setTop (mkF m 8 #[.val (.long q0), .second, .val (.int q1), .unset, .unset] []))
    refine own_by (fun _ k => XS.lloadN X0.here hx rfl (hb hby d2_8) rfl k) ?_
    show OEnds p e below s _ _ _ (s₁.setTop (mkF m 9 #[.val (.long q0), .second, .val (.int q1), .unset, .unset] [(.long q0)]))
    refine own_by (X0.ldc2Long hx hown (mvT hZ (hw _ (List.mem_of_getElem? (i := 11) rfl))) (g := (mkF m 9 #[.val (.long q0), .second, .val (.int q1), .unset, .unset] [(.long q0)])) rfl (hb hby d2_9)) ?_
    show OEnds p e below s _ _ _ (s₁.setTop (mkF m 12 #[.val (.long q0), .second, .val (.int q1), .unset, .unset] [(.long (65533 : Int64)), (.long q0)]))
    refine own_by (fun _ k => XS.lcmp X0.here hx rfl (hb hby d2_12) rfl k) ?_
    show OEnds p e below s _ _ _ (s₁.setTop (mkF m 13 #[.val (.long q0), .second, .val (.int q1), .unset, .unset] [(.int (lcmpW q0 (65533 : Int64)))]))
    by_cases hc13 : (65533 : Int64) < q0
    · refine own_by (fun _ k => XS.ifNo X0.here hx rfl (hb hby d2_13) rfl ((if0 _ _).trans (tlt ((lw_gt _ _).mpr hc13)).2.2.2) k) ?_
      show OEnds p e below s _ _ _ (s₁.setTop (mkF m 16 #[.val (.long q0), .second, .val (.int q1), .unset, .unset] []))
      exact own_eq (congrArg Value.int (by rw [refc, if_neg hc5, if_pos hc13] <;> rfl)) (brefc_16 s₁ X0 e0)
    · refine own_by (fun _ k => XS.ifYes X0.here hx rfl (pc0 := 13) (pc' := 32) rfl (hb hby d2_13) rfl ((if0 _ _).trans (flt (fun q => hc13 ((lw_gt _ _).mp q))).2.2.2) (by decide) (by decide) k) ?_
      show OEnds p e below s _ _ _ (s₁.setTop (mkF m 32 #[.val (.long q0), .second, .val (.int q1), .unset, .unset] []))
      exact own_eq (congrArg Value.int (by rw [refc, if_neg hc5, if_neg hc13] <;> rfl)) (brefc_32 s₁ X0 e0)
theorem own_idx (q2 : Int32) : (((q2.toUInt32 >>> ((1 : Int32) &&& 31).toUInt32).toInt32) &&& (15 : Int32)).toInt = (((((q2.toUInt32 >>> ((1 : Int32) &&& 31).toUInt32).toInt32) &&& (15 : Int32)).toInt.toNat : Nat) : Int) ∧ (((q2.toUInt32 >>> ((1 : Int32) &&& 31).toUInt32).toInt32) &&& (15 : Int32)).toInt.toNat < 16 := by
  generalize (q2.toUInt32 >>> ((1 : Int32) &&& 31).toUInt32).toInt32 = y
  have h := c_mask y 15 4 (by decide) (by decide)
  constructor <;> omega
theorem own_same (c : Int64) (b : Int32) (hb : b = 0 ∨ b = 1) : allowed c b = refc c b := by
  simp only [allowed, allowed_13, allowed_38, allowed_43, allowed_64, allowed_68, allowed_85, allowed_108, allowed_124, allowed_128, allowed_129, refc, refc_16, refc_32, refc_36, refc_37, refc_60, refc_61, refc_106, refc_110, refc_111, refc_113, refc_122, refc_127]
  have n1 : nar .boolean 1 = 1 := by decide
  have n0 : nar .boolean 0 = 0 := by decide
  rcases hb with rfl | rfl
  all_goals simp only [Int64.lt_iff_toInt_lt, ← Int64.toInt_inj, show (9 : Int64).toInt = 9 from by decide, show (10 : Int64).toInt = 10 from by decide, show (13 : Int64).toInt = 13 from by decide, show (32 : Int64).toInt = 32 from by decide, show (55295 : Int64).toInt = 55295 from by decide, show (57344 : Int64).toInt = 57344 from by decide, show (65533 : Int64).toInt = 65533 from by decide, show (65536 : Int64).toInt = 65536 from by decide, show (1114111 : Int64).toInt = 1114111 from by decide, show (0 : Int32).toInt = 0 from by decide, show (1 : Int32).toInt = 1 from by decide, show (0 : Int64).toInt = 0 from by decide, show (1 : Int64).toInt = 1 from by decide, if_true, if_false, show ((1 : Int32) = 0) = False from by decide, n1, n0]
  all_goals
    by_cases a0 : c.toInt = 9
    all_goals (by_cases a1 : c.toInt = 10)
    all_goals (try (exfalso; omega))
    all_goals (by_cases a2 : c.toInt = 13)
    all_goals (try (exfalso; omega))
    all_goals (by_cases a3 : c.toInt < 32)
    all_goals (try (exfalso; omega))
    all_goals (by_cases a4 : c.toInt < 1)
    all_goals (try (exfalso; omega))
    all_goals (by_cases a5 : 0 < c.toInt)
    all_goals (try (exfalso; omega))
    all_goals (by_cases a6 : 55295 < c.toInt)
    all_goals (try (exfalso; omega))
    all_goals (by_cases a7 : c.toInt < 57344)
    all_goals (try (exfalso; omega))
    all_goals (by_cases a8 : 65533 < c.toInt)
    all_goals (try (exfalso; omega))
    all_goals (by_cases a9 : c.toInt < 65536)
    all_goals (try (exfalso; omega))
    all_goals (by_cases a10 : 1114111 < c.toInt)
    all_goals (try (exfalso; omega))
    all_goals (simp only [a0, a1, a2, a3, a4, a5, a6, a7, a8, a9, a10, if_true, if_false] <;> decide)
theorem pn_0 : plainName "com/example/boughcheck/boughcheck/DefaultReferencesAllowedPinLaw" = true := by first | (simp [plainName, overriddenIn]; done) | decide +kernel
theorem ef_0 (m : MethodId) (q0 : Int64) (q1 : Int32) (q2 : Int32) : entryFrame m #[(.long q0), (.int q1), (.int q2)] maxLocals = mkF m 0 #[.val (.long q0), .second, .val (.int q1), .val (.int q2), .unset, .unset, .unset, .unset, .unset, .unset, .unset] [] := by first | (simp [entryFrame, mkF, argsToLocals, Value.category, maxLocals]; done) | rfl
def QL (n0 : Nat) (v : Option Value) (h : Heap) (L : List Loc) : Prop := v = some (.int 1) ∧ Fr n0 L
set_option maxRecDepth 65536 in
set_option maxHeartbeats 40000000 in
theorem rm_law (l : Launch) (Z : State) (a0 : Array Value) (hw : ∀ d ∈ tables_1, d.before a0 Z = true) (ws : List Jvm.Cond) (q0 : Int64) (q1 : Int32) (q2 : Int32) (h0 : Heap) (n0 : Nat) (Z0 : n0 ≤ h0.size) :
    MetFree l x (head1 (Jvm.Cond.code x code maxLocals ret :: ws) room_1) (fun a_ U => a_ = #[(.long q0), (.int q1), (.int q2)] ∧ Z.Warmed39 U.vm ∧ U.heap = h0) (fun _ _ _ _ _ => True) (fun _ U o U' => ∃ v_ L_, o = .returned v_ ∧ QL n0 v_ U'.heap L_ ∧ FrameEnd U o U' L_ room_1.cells room_1.slots) := by
  refine MetFree.of_bodySF (plainFor_of_name pn_0) hisR ?_
  intro p e s m args below meth c s₁ Bd hml0 hP hK
  obtain ⟨rfl, hZ, hh⟩ := hP
  have hx := Bd.exec
  have hby := Bd.bytes
  have hlk : meth.locks = false := Bd.notSynchronized
  have hml : c.maxLocals = 11 := hml0
  have hown : s.vm.findClass "com/example/boughcheck/boughcheck/DefaultReferencesAllowedPinLaw" = some m.cls := findClass_of_methodNamed Bd.named
  have hnm := (name_of_methodNamed Bd.named Bd.method).1
  have X0 : Stand p l e room_1 s m #[(.long q0), (.int q1), (.int q2)] below meth c s₁ [] 0 0 := Stand.of_body Bd
  have e0 : s₁.heap = h0 := by rw [← hh, Bd.state]; rfl
  have N0 := Fr.nil n0
  have K0 : Keep h0 h0 [] := Keep.refl _ _
  show OEnds p e below s (QL n0) _ _ _
  refine own_by (fun t k => castTop (ef_0 m q0 q1 q2) k) ?_
  show OEnds p e below s _ _ _ (s₁.setTop (mkF m 0 #[.val (.long q0), .second, .val (.int q1), .val (.int q2), .unset, .unset, .unset, .unset, .unset, .unset, .unset] []))
  refine own_by (fun _ k => XS.iloadN X0.here hx rfl (hb hby at_0) rfl k) ?_
  show OEnds p e below s _ _ _ (s₁.setTop (mkF m 1 #[.val (.long q0), .second, .val (.int q1), .val (.int q2), .unset, .unset, .unset, .unset, .unset, .unset, .unset] [(.int q1)]))
  refine own_by (fun _ k => XS.iconst X0.here hx rfl (hb hby at_1) k) ?_
  show OEnds p e below s _ _ _ (s₁.setTop (mkF m 2 #[.val (.long q0), .second, .val (.int q1), .val (.int q2), .unset, .unset, .unset, .unset, .unset, .unset, .unset] [(.int (1 : Int32)), (.int q1)]))
  refine own_by (fun _ k => XS.iand X0.here hx rfl (hb hby at_2) rfl k) ?_
  show OEnds p e below s _ _ _ (s₁.setTop (mkF m 3 #[.val (.long q0), .second, .val (.int q1), .val (.int q2), .unset, .unset, .unset, .unset, .unset, .unset, .unset] [(.int (q1 &&& (1 : Int32)))]))
  by_cases hc3_1 : (q1 &&& (1 : Int32)) = (0 : Int32)
  · refine own_by (fun _ k => XS.ifYes X0.here hx rfl (pc0 := 3) (pc' := 10) rfl (hb hby at_3) rfl ((if0 _ _).trans (teq hc3_1).1) (by decide) (by decide) k) ?_
    show OEnds p e below s _ _ _ (s₁.setTop (mkF m 10 #[.val (.long q0), .second, .val (.int q1), .val (.int q2), .unset, .unset, .unset, .unset, .unset, .unset, .unset] []))
    refine own_by (fun _ k => XS.iconst X0.here hx rfl (hb hby at_10) k) ?_
    show OEnds p e below s _ _ _ (s₁.setTop (mkF m 11 #[.val (.long q0), .second, .val (.int q1), .val (.int q2), .unset, .unset, .unset, .unset, .unset, .unset, .unset] [(.int (0 : Int32))]))
    refine own_by (fun _ k => XS.istore X0.here hx rfl (hb hby at_11) rfl (l' := #[.val (.long q0), .second, .val (.int q1), .val (.int q2), .val (.int (0 : Int32)), .unset, .unset, .unset, .unset, .unset, .unset]) rfl k) ?_
    show OEnds p e below s _ _ _ (s₁.setTop (mkF m 13 #[.val (.long q0), .second, .val (.int q1), .val (.int q2), .val (.int (0 : Int32)), .unset, .unset, .unset, .unset, .unset, .unset] []))
    refine own_by (fun _ k => XS.bipush X0.here hx rfl (hb hby at_13) k) ?_
    show OEnds p e below s _ _ _ (s₁.setTop (mkF m 15 #[.val (.long q0), .second, .val (.int q1), .val (.int q2), .val (.int (0 : Int32)), .unset, .unset, .unset, .unset, .unset, .unset] [(.int (16 : Int32))]))
    obtain ⟨T2, h2, k2, X2, e2, E2, A2, st2⟩ := newP X0 hx hZ (hw _ (List.mem_of_getElem? (i := 0) rfl)) e0 (g := (mkF m 15 #[.val (.long q0), .second, .val (.int q1), .val (.int q2), .val (.int (0 : Int32)), .unset, .unset, .unset, .unset, .unset, .unset] [(.int (16 : Int32))])) rfl (hb hby at_15) rfl (by decide) (cap := 16) (by decide) (by decide) (by decide) (by decide)
    obtain ⟨nb2, g2⟩ : ∃ z, z = h0.size := ⟨_, rfl⟩
    rw [← g2] at A2 st2
    refine own_by (st2) ?_
    have g_nb2 : n0 ≤ nb2 := Nat.le_trans Z0 (Nat.le_of_eq g2.symm)
    have Z2 : n0 ≤ h2.size := Nat.le_trans Z0 E2.1
    have F2 : FA Z h2 nb2 .long 16 (fun i => .long ((fun _ => (0 : Int64)) i)) := FA.new A2 (by decide) (by decide) rfl
    show OEnds p e below s _ _ _ (T2.setTop (mkF m 17 #[.val (.long q0), .second, .val (.int q1), .val (.int q2), .val (.int (0 : Int32)), .unset, .unset, .unset, .unset, .unset, .unset] [(.ref nb2)]))
    refine own_by (fun _ k => XS.dup X2.here hx rfl (hb hby at_17) rfl rfl k) ?_
    show OEnds p e below s _ _ _ (T2.setTop (mkF m 18 #[.val (.long q0), .second, .val (.int q1), .val (.int q2), .val (.int (0 : Int32)), .unset, .unset, .unset, .unset, .unset, .unset] [(.ref nb2), (.ref nb2)]))
    refine own_by (fun _ k => XS.iconst X2.here hx rfl (hb hby at_18) k) ?_
    show OEnds p e below s _ _ _ (T2.setTop (mkF m 19 #[.val (.long q0), .second, .val (.int q1), .val (.int q2), .val (.int (0 : Int32)), .unset, .unset, .unset, .unset, .unset, .unset] [(.int (0 : Int32)), (.ref nb2), (.ref nb2)]))
    refine own_by (X2.ldc2Long hx hown (mvT hZ (hw _ (List.mem_of_getElem? (i := 1) rfl))) (g := (mkF m 19 #[.val (.long q0), .second, .val (.int q1), .val (.int q2), .val (.int (0 : Int32)), .unset, .unset, .unset, .unset, .unset, .unset] [(.int (0 : Int32)), (.ref nb2), (.ref nb2)])) rfl (hb hby at_19)) ?_
    show OEnds p e below s _ _ _ (T2.setTop (mkF m 22 #[.val (.long q0), .second, .val (.int q1), .val (.int q2), .val (.int (0 : Int32)), .unset, .unset, .unset, .unset, .unset, .unset] [(.long (-9223372036854775808 : Int64)), (.int (0 : Int32)), (.ref nb2), (.ref nb2)]))
    obtain ⟨T3, h3, X3, e3, W3, st3⟩ := own_lastore X2 hx hZ e2 F2 0 (by decide) (by decide) (g := (mkF m 22 #[.val (.long q0), .second, .val (.int q1), .val (.int q2), .val (.int (0 : Int32)), .unset, .unset, .unset, .unset, .unset, .unset] [(.long (-9223372036854775808 : Int64)), (.int (0 : Int32)), (.ref nb2), (.ref nb2)])) rfl rfl (hb hby at_22)
    refine own_by (st3) ?_
    have F3 : FA Z h3 nb2 .long 16 (fun i => .long ((updL (fun _ => (0 : Int64)) 0 (-9223372036854775808 : Int64)) i)) := F2.setL W3
    obtain ⟨f3, ef3⟩ : ∃ f : Nat → Int64, f = (updL (fun _ => (0 : Int64)) 0 (-9223372036854775808 : Int64)) := ⟨_, rfl⟩
    rw [← ef3] at F3
    have N3 := Fr.snoc X3 N0 g_nb2
    have Z3 : n0 ≤ h3.size := Nat.le_trans Z2 (Keep.of_wr W3).1
    show OEnds p e below s _ _ _ (T3.setTop (mkF m 23 #[.val (.long q0), .second, .val (.int q1), .val (.int q2), .val (.int (0 : Int32)), .unset, .unset, .unset, .unset, .unset, .unset] [(.ref nb2)]))
    refine own_by (fun _ k => XS.dup X3.here hx rfl (hb hby at_23) rfl rfl k) ?_
    show OEnds p e below s _ _ _ (T3.setTop (mkF m 24 #[.val (.long q0), .second, .val (.int q1), .val (.int q2), .val (.int (0 : Int32)), .unset, .unset, .unset, .unset, .unset, .unset] [(.ref nb2), (.ref nb2)]))
    refine own_by (fun _ k => XS.iconst X3.here hx rfl (hb hby at_24) k) ?_
    show OEnds p e below s _ _ _ (T3.setTop (mkF m 25 #[.val (.long q0), .second, .val (.int q1), .val (.int q2), .val (.int (0 : Int32)), .unset, .unset, .unset, .unset, .unset, .unset] [(.int (1 : Int32)), (.ref nb2), (.ref nb2)]))
    refine own_by (X3.ldc2Long hx hown (mvT hZ (hw _ (List.mem_of_getElem? (i := 2) rfl))) (g := (mkF m 25 #[.val (.long q0), .second, .val (.int q1), .val (.int q2), .val (.int (0 : Int32)), .unset, .unset, .unset, .unset, .unset, .unset] [(.int (1 : Int32)), (.ref nb2), (.ref nb2)])) rfl (hb hby at_25)) ?_
    show OEnds p e below s _ _ _ (T3.setTop (mkF m 28 #[.val (.long q0), .second, .val (.int q1), .val (.int q2), .val (.int (0 : Int32)), .unset, .unset, .unset, .unset, .unset, .unset] [(.long (-1 : Int64)), (.int (1 : Int32)), (.ref nb2), (.ref nb2)]))
    obtain ⟨T4, h4, X4, e4, W4, st4⟩ := own_lastore X3 hx hZ e3 F3 1 (by decide) (by decide) (g := (mkF m 28 #[.val (.long q0), .second, .val (.int q1), .val (.int q2), .val (.int (0 : Int32)), .unset, .unset, .unset, .unset, .unset, .unset] [(.long (-1 : Int64)), (.int (1 : Int32)), (.ref nb2), (.ref nb2)])) rfl rfl (hb hby at_28)
    refine own_by (st4) ?_
    have F4 : FA Z h4 nb2 .long 16 (fun i => .long ((updL f3 1 (-1 : Int64)) i)) := F3.setL W4
    have N4 := Fr.snoc X4 N3 g_nb2
    have Z4 : n0 ≤ h4.size := Nat.le_trans Z3 (Keep.of_wr W4).1
    show OEnds p e below s _ _ _ (T4.setTop (mkF m 29 #[.val (.long q0), .second, .val (.int q1), .val (.int q2), .val (.int (0 : Int32)), .unset, .unset, .unset, .unset, .unset, .unset] [(.ref nb2)]))
    refine own_by (fun _ k => XS.dup X4.here hx rfl (hb hby at_29) rfl rfl k) ?_
    show OEnds p e below s _ _ _ (T4.setTop (mkF m 30 #[.val (.long q0), .second, .val (.int q1), .val (.int q2), .val (.int (0 : Int32)), .unset, .unset, .unset, .unset, .unset, .unset] [(.ref nb2), (.ref nb2)]))
    refine own_by (fun _ k => XS.iconst X4.here hx rfl (hb hby at_30) k) ?_
    show OEnds p e below s _ _ _ (T4.setTop (mkF m 31 #[.val (.long q0), .second, .val (.int q1), .val (.int q2), .val (.int (0 : Int32)), .unset, .unset, .unset, .unset, .unset, .unset] [(.int (2 : Int32)), (.ref nb2), (.ref nb2)]))
    refine own_by (fun _ k => XS.lconst X4.here hx rfl (hb hby at_31) k) ?_
    show OEnds p e below s _ _ _ (T4.setTop (mkF m 32 #[.val (.long q0), .second, .val (.int q1), .val (.int q2), .val (.int (0 : Int32)), .unset, .unset, .unset, .unset, .unset, .unset] [(.long (0 : Int64)), (.int (2 : Int32)), (.ref nb2), (.ref nb2)]))
    obtain ⟨T5, h5, X5, e5, W5, st5⟩ := own_lastore X4 hx hZ e4 F4 2 (by decide) (by decide) (g := (mkF m 32 #[.val (.long q0), .second, .val (.int q1), .val (.int q2), .val (.int (0 : Int32)), .unset, .unset, .unset, .unset, .unset, .unset] [(.long (0 : Int64)), (.int (2 : Int32)), (.ref nb2), (.ref nb2)])) rfl rfl (hb hby at_32)
    refine own_by (st5) ?_
    have F5 : FA Z h5 nb2 .long 16 (fun i => .long ((updL (updL f3 1 (-1 : Int64)) 2 (0 : Int64)) i)) := F4.setL W5
    have N5 := Fr.snoc X5 N4 g_nb2
    have Z5 : n0 ≤ h5.size := Nat.le_trans Z4 (Keep.of_wr W5).1
    show OEnds p e below s _ _ _ (T5.setTop (mkF m 33 #[.val (.long q0), .second, .val (.int q1), .val (.int q2), .val (.int (0 : Int32)), .unset, .unset, .unset, .unset, .unset, .unset] [(.ref nb2)]))
    refine own_by (fun _ k => XS.dup X5.here hx rfl (hb hby at_33) rfl rfl k) ?_
    show OEnds p e below s _ _ _ (T5.setTop (mkF m 34 #[.val (.long q0), .second, .val (.int q1), .val (.int q2), .val (.int (0 : Int32)), .unset, .unset, .unset, .unset, .unset, .unset] [(.ref nb2), (.ref nb2)]))
    refine own_by (fun _ k => XS.iconst X5.here hx rfl (hb hby at_34) k) ?_
    show OEnds p e below s _ _ _ (T5.setTop (mkF m 35 #[.val (.long q0), .second, .val (.int q1), .val (.int q2), .val (.int (0 : Int32)), .unset, .unset, .unset, .unset, .unset, .unset] [(.int (3 : Int32)), (.ref nb2), (.ref nb2)]))
    refine own_by (fun _ k => XS.lconst X5.here hx rfl (hb hby at_35) k) ?_
    show OEnds p e below s _ _ _ (T5.setTop (mkF m 36 #[.val (.long q0), .second, .val (.int q1), .val (.int q2), .val (.int (0 : Int32)), .unset, .unset, .unset, .unset, .unset, .unset] [(.long (1 : Int64)), (.int (3 : Int32)), (.ref nb2), (.ref nb2)]))
    obtain ⟨T6, h6, X6, e6, W6, st6⟩ := own_lastore X5 hx hZ e5 F5 3 (by decide) (by decide) (g := (mkF m 36 #[.val (.long q0), .second, .val (.int q1), .val (.int q2), .val (.int (0 : Int32)), .unset, .unset, .unset, .unset, .unset, .unset] [(.long (1 : Int64)), (.int (3 : Int32)), (.ref nb2), (.ref nb2)])) rfl rfl (hb hby at_36)
    refine own_by (st6) ?_
    have F6 : FA Z h6 nb2 .long 16 (fun i => .long ((updL (updL (updL f3 1 (-1 : Int64)) 2 (0 : Int64)) 3 (1 : Int64)) i)) := F5.setL W6
    obtain ⟨f6, ef6⟩ : ∃ f : Nat → Int64, f = (updL (updL (updL f3 1 (-1 : Int64)) 2 (0 : Int64)) 3 (1 : Int64)) := ⟨_, rfl⟩
    rw [← ef6] at F6
    have N6 := Fr.snoc X6 N5 g_nb2
    have Z6 : n0 ≤ h6.size := Nat.le_trans Z5 (Keep.of_wr W6).1
    show OEnds p e below s _ _ _ (T6.setTop (mkF m 37 #[.val (.long q0), .second, .val (.int q1), .val (.int q2), .val (.int (0 : Int32)), .unset, .unset, .unset, .unset, .unset, .unset] [(.ref nb2)]))
    refine own_by (fun _ k => XS.dup X6.here hx rfl (hb hby at_37) rfl rfl k) ?_
    show OEnds p e below s _ _ _ (T6.setTop (mkF m 38 #[.val (.long q0), .second, .val (.int q1), .val (.int q2), .val (.int (0 : Int32)), .unset, .unset, .unset, .unset, .unset, .unset] [(.ref nb2), (.ref nb2)]))
    refine own_by (fun _ k => XS.iconst X6.here hx rfl (hb hby at_38) k) ?_
    show OEnds p e below s _ _ _ (T6.setTop (mkF m 39 #[.val (.long q0), .second, .val (.int q1), .val (.int q2), .val (.int (0 : Int32)), .unset, .unset, .unset, .unset, .unset, .unset] [(.int (4 : Int32)), (.ref nb2), (.ref nb2)]))
    refine own_by (X6.ldc2Long hx hown (mvT hZ (hw _ (List.mem_of_getElem? (i := 3) rfl))) (g := (mkF m 39 #[.val (.long q0), .second, .val (.int q1), .val (.int q2), .val (.int (0 : Int32)), .unset, .unset, .unset, .unset, .unset, .unset] [(.int (4 : Int32)), (.ref nb2), (.ref nb2)])) rfl (hb hby at_39)) ?_
    show OEnds p e below s _ _ _ (T6.setTop (mkF m 42 #[.val (.long q0), .second, .val (.int q1), .val (.int q2), .val (.int (0 : Int32)), .unset, .unset, .unset, .unset, .unset, .unset] [(.long (8 : Int64)), (.int (4 : Int32)), (.ref nb2), (.ref nb2)]))
    obtain ⟨T7, h7, X7, e7, W7, st7⟩ := own_lastore X6 hx hZ e6 F6 4 (by decide) (by decide) (g := (mkF m 42 #[.val (.long q0), .second, .val (.int q1), .val (.int q2), .val (.int (0 : Int32)), .unset, .unset, .unset, .unset, .unset, .unset] [(.long (8 : Int64)), (.int (4 : Int32)), (.ref nb2), (.ref nb2)])) rfl rfl (hb hby at_42)
    refine own_by (st7) ?_
    have F7 : FA Z h7 nb2 .long 16 (fun i => .long ((updL f6 4 (8 : Int64)) i)) := F6.setL W7
    have N7 := Fr.snoc X7 N6 g_nb2
    have Z7 : n0 ≤ h7.size := Nat.le_trans Z6 (Keep.of_wr W7).1
    show OEnds p e below s _ _ _ (T7.setTop (mkF m 43 #[.val (.long q0), .second, .val (.int q1), .val (.int q2), .val (.int (0 : Int32)), .unset, .unset, .unset, .unset, .unset, .unset] [(.ref nb2)]))
    refine own_by (fun _ k => XS.dup X7.here hx rfl (hb hby at_43) rfl rfl k) ?_
    show OEnds p e below s _ _ _ (T7.setTop (mkF m 44 #[.val (.long q0), .second, .val (.int q1), .val (.int q2), .val (.int (0 : Int32)), .unset, .unset, .unset, .unset, .unset, .unset] [(.ref nb2), (.ref nb2)]))
    refine own_by (fun _ k => XS.iconst X7.here hx rfl (hb hby at_44) k) ?_
    show OEnds p e below s _ _ _ (T7.setTop (mkF m 45 #[.val (.long q0), .second, .val (.int q1), .val (.int q2), .val (.int (0 : Int32)), .unset, .unset, .unset, .unset, .unset, .unset] [(.int (5 : Int32)), (.ref nb2), (.ref nb2)]))
    refine own_by (X7.ldc2Long hx hown (mvT hZ (hw _ (List.mem_of_getElem? (i := 4) rfl))) (g := (mkF m 45 #[.val (.long q0), .second, .val (.int q1), .val (.int q2), .val (.int (0 : Int32)), .unset, .unset, .unset, .unset, .unset, .unset] [(.int (5 : Int32)), (.ref nb2), (.ref nb2)])) rfl (hb hby at_45)) ?_
    show OEnds p e below s _ _ _ (T7.setTop (mkF m 48 #[.val (.long q0), .second, .val (.int q1), .val (.int q2), .val (.int (0 : Int32)), .unset, .unset, .unset, .unset, .unset, .unset] [(.long (9 : Int64)), (.int (5 : Int32)), (.ref nb2), (.ref nb2)]))
    obtain ⟨T8, h8, X8, e8, W8, st8⟩ := own_lastore X7 hx hZ e7 F7 5 (by decide) (by decide) (g := (mkF m 48 #[.val (.long q0), .second, .val (.int q1), .val (.int q2), .val (.int (0 : Int32)), .unset, .unset, .unset, .unset, .unset, .unset] [(.long (9 : Int64)), (.int (5 : Int32)), (.ref nb2), (.ref nb2)])) rfl rfl (hb hby at_48)
    refine own_by (st8) ?_
    have F8 : FA Z h8 nb2 .long 16 (fun i => .long ((updL (updL f6 4 (8 : Int64)) 5 (9 : Int64)) i)) := F7.setL W8
    have N8 := Fr.snoc X8 N7 g_nb2
    have Z8 : n0 ≤ h8.size := Nat.le_trans Z7 (Keep.of_wr W8).1
    show OEnds p e below s _ _ _ (T8.setTop (mkF m 49 #[.val (.long q0), .second, .val (.int q1), .val (.int q2), .val (.int (0 : Int32)), .unset, .unset, .unset, .unset, .unset, .unset] [(.ref nb2)]))
    refine own_by (fun _ k => XS.dup X8.here hx rfl (hb hby at_49) rfl rfl k) ?_
    show OEnds p e below s _ _ _ (T8.setTop (mkF m 50 #[.val (.long q0), .second, .val (.int q1), .val (.int q2), .val (.int (0 : Int32)), .unset, .unset, .unset, .unset, .unset, .unset] [(.ref nb2), (.ref nb2)]))
    refine own_by (fun _ k => XS.bipush X8.here hx rfl (hb hby at_50) k) ?_
    show OEnds p e below s _ _ _ (T8.setTop (mkF m 52 #[.val (.long q0), .second, .val (.int q1), .val (.int q2), .val (.int (0 : Int32)), .unset, .unset, .unset, .unset, .unset, .unset] [(.int (6 : Int32)), (.ref nb2), (.ref nb2)]))
    refine own_by (X8.ldc2Long hx hown (mvT hZ (hw _ (List.mem_of_getElem? (i := 5) rfl))) (g := (mkF m 52 #[.val (.long q0), .second, .val (.int q1), .val (.int q2), .val (.int (0 : Int32)), .unset, .unset, .unset, .unset, .unset, .unset] [(.int (6 : Int32)), (.ref nb2), (.ref nb2)])) rfl (hb hby at_52)) ?_
    show OEnds p e below s _ _ _ (T8.setTop (mkF m 55 #[.val (.long q0), .second, .val (.int q1), .val (.int q2), .val (.int (0 : Int32)), .unset, .unset, .unset, .unset, .unset, .unset] [(.long (10 : Int64)), (.int (6 : Int32)), (.ref nb2), (.ref nb2)]))
    obtain ⟨T9, h9, X9, e9, W9, st9⟩ := own_lastore X8 hx hZ e8 F8 6 (by decide) (by decide) (g := (mkF m 55 #[.val (.long q0), .second, .val (.int q1), .val (.int q2), .val (.int (0 : Int32)), .unset, .unset, .unset, .unset, .unset, .unset] [(.long (10 : Int64)), (.int (6 : Int32)), (.ref nb2), (.ref nb2)])) rfl rfl (hb hby at_55)
    refine own_by (st9) ?_
    have F9 : FA Z h9 nb2 .long 16 (fun i => .long ((updL (updL (updL f6 4 (8 : Int64)) 5 (9 : Int64)) 6 (10 : Int64)) i)) := F8.setL W9
    obtain ⟨f9, ef9⟩ : ∃ f : Nat → Int64, f = (updL (updL (updL f6 4 (8 : Int64)) 5 (9 : Int64)) 6 (10 : Int64)) := ⟨_, rfl⟩
    rw [← ef9] at F9
    have N9 := Fr.snoc X9 N8 g_nb2
    have Z9 : n0 ≤ h9.size := Nat.le_trans Z8 (Keep.of_wr W9).1
    show OEnds p e below s _ _ _ (T9.setTop (mkF m 56 #[.val (.long q0), .second, .val (.int q1), .val (.int q2), .val (.int (0 : Int32)), .unset, .unset, .unset, .unset, .unset, .unset] [(.ref nb2)]))
    refine own_by (fun _ k => XS.dup X9.here hx rfl (hb hby at_56) rfl rfl k) ?_
    show OEnds p e below s _ _ _ (T9.setTop (mkF m 57 #[.val (.long q0), .second, .val (.int q1), .val (.int q2), .val (.int (0 : Int32)), .unset, .unset, .unset, .unset, .unset, .unset] [(.ref nb2), (.ref nb2)]))
    refine own_by (fun _ k => XS.bipush X9.here hx rfl (hb hby at_57) k) ?_
    show OEnds p e below s _ _ _ (T9.setTop (mkF m 59 #[.val (.long q0), .second, .val (.int q1), .val (.int q2), .val (.int (0 : Int32)), .unset, .unset, .unset, .unset, .unset, .unset] [(.int (7 : Int32)), (.ref nb2), (.ref nb2)]))
    refine own_by (X9.ldc2Long hx hown (mvT hZ (hw _ (List.mem_of_getElem? (i := 6) rfl))) (g := (mkF m 59 #[.val (.long q0), .second, .val (.int q1), .val (.int q2), .val (.int (0 : Int32)), .unset, .unset, .unset, .unset, .unset, .unset] [(.int (7 : Int32)), (.ref nb2), (.ref nb2)])) rfl (hb hby at_59)) ?_
    show OEnds p e below s _ _ _ (T9.setTop (mkF m 62 #[.val (.long q0), .second, .val (.int q1), .val (.int q2), .val (.int (0 : Int32)), .unset, .unset, .unset, .unset, .unset, .unset] [(.long (13 : Int64)), (.int (7 : Int32)), (.ref nb2), (.ref nb2)]))
    obtain ⟨T10, h10, X10, e10, W10, st10⟩ := own_lastore X9 hx hZ e9 F9 7 (by decide) (by decide) (g := (mkF m 62 #[.val (.long q0), .second, .val (.int q1), .val (.int q2), .val (.int (0 : Int32)), .unset, .unset, .unset, .unset, .unset, .unset] [(.long (13 : Int64)), (.int (7 : Int32)), (.ref nb2), (.ref nb2)])) rfl rfl (hb hby at_62)
    refine own_by (st10) ?_
    have F10 : FA Z h10 nb2 .long 16 (fun i => .long ((updL f9 7 (13 : Int64)) i)) := F9.setL W10
    have N10 := Fr.snoc X10 N9 g_nb2
    have Z10 : n0 ≤ h10.size := Nat.le_trans Z9 (Keep.of_wr W10).1
    show OEnds p e below s _ _ _ (T10.setTop (mkF m 63 #[.val (.long q0), .second, .val (.int q1), .val (.int q2), .val (.int (0 : Int32)), .unset, .unset, .unset, .unset, .unset, .unset] [(.ref nb2)]))
    refine own_by (fun _ k => XS.dup X10.here hx rfl (hb hby at_63) rfl rfl k) ?_
    show OEnds p e below s _ _ _ (T10.setTop (mkF m 64 #[.val (.long q0), .second, .val (.int q1), .val (.int q2), .val (.int (0 : Int32)), .unset, .unset, .unset, .unset, .unset, .unset] [(.ref nb2), (.ref nb2)]))
    refine own_by (fun _ k => XS.bipush X10.here hx rfl (hb hby at_64) k) ?_
    show OEnds p e below s _ _ _ (T10.setTop (mkF m 66 #[.val (.long q0), .second, .val (.int q1), .val (.int q2), .val (.int (0 : Int32)), .unset, .unset, .unset, .unset, .unset, .unset] [(.int (8 : Int32)), (.ref nb2), (.ref nb2)]))
    refine own_by (X10.ldc2Long hx hown (mvT hZ (hw _ (List.mem_of_getElem? (i := 7) rfl))) (g := (mkF m 66 #[.val (.long q0), .second, .val (.int q1), .val (.int q2), .val (.int (0 : Int32)), .unset, .unset, .unset, .unset, .unset, .unset] [(.int (8 : Int32)), (.ref nb2), (.ref nb2)])) rfl (hb hby at_66)) ?_
    show OEnds p e below s _ _ _ (T10.setTop (mkF m 69 #[.val (.long q0), .second, .val (.int q1), .val (.int q2), .val (.int (0 : Int32)), .unset, .unset, .unset, .unset, .unset, .unset] [(.long (31 : Int64)), (.int (8 : Int32)), (.ref nb2), (.ref nb2)]))
    obtain ⟨T11, h11, X11, e11, W11, st11⟩ := own_lastore X10 hx hZ e10 F10 8 (by decide) (by decide) (g := (mkF m 69 #[.val (.long q0), .second, .val (.int q1), .val (.int q2), .val (.int (0 : Int32)), .unset, .unset, .unset, .unset, .unset, .unset] [(.long (31 : Int64)), (.int (8 : Int32)), (.ref nb2), (.ref nb2)])) rfl rfl (hb hby at_69)
    refine own_by (st11) ?_
    have F11 : FA Z h11 nb2 .long 16 (fun i => .long ((updL (updL f9 7 (13 : Int64)) 8 (31 : Int64)) i)) := F10.setL W11
    have N11 := Fr.snoc X11 N10 g_nb2
    have Z11 : n0 ≤ h11.size := Nat.le_trans Z10 (Keep.of_wr W11).1
    show OEnds p e below s _ _ _ (T11.setTop (mkF m 70 #[.val (.long q0), .second, .val (.int q1), .val (.int q2), .val (.int (0 : Int32)), .unset, .unset, .unset, .unset, .unset, .unset] [(.ref nb2)]))
    refine own_by (fun _ k => XS.dup X11.here hx rfl (hb hby at_70) rfl rfl k) ?_
    show OEnds p e below s _ _ _ (T11.setTop (mkF m 71 #[.val (.long q0), .second, .val (.int q1), .val (.int q2), .val (.int (0 : Int32)), .unset, .unset, .unset, .unset, .unset, .unset] [(.ref nb2), (.ref nb2)]))
    refine own_by (fun _ k => XS.bipush X11.here hx rfl (hb hby at_71) k) ?_
    show OEnds p e below s _ _ _ (T11.setTop (mkF m 73 #[.val (.long q0), .second, .val (.int q1), .val (.int q2), .val (.int (0 : Int32)), .unset, .unset, .unset, .unset, .unset, .unset] [(.int (9 : Int32)), (.ref nb2), (.ref nb2)]))
    refine own_by (X11.ldc2Long hx hown (mvT hZ (hw _ (List.mem_of_getElem? (i := 8) rfl))) (g := (mkF m 73 #[.val (.long q0), .second, .val (.int q1), .val (.int q2), .val (.int (0 : Int32)), .unset, .unset, .unset, .unset, .unset, .unset] [(.int (9 : Int32)), (.ref nb2), (.ref nb2)])) rfl (hb hby at_73)) ?_
    show OEnds p e below s _ _ _ (T11.setTop (mkF m 76 #[.val (.long q0), .second, .val (.int q1), .val (.int q2), .val (.int (0 : Int32)), .unset, .unset, .unset, .unset, .unset, .unset] [(.long (32 : Int64)), (.int (9 : Int32)), (.ref nb2), (.ref nb2)]))
    obtain ⟨T12, h12, X12, e12, W12, st12⟩ := own_lastore X11 hx hZ e11 F11 9 (by decide) (by decide) (g := (mkF m 76 #[.val (.long q0), .second, .val (.int q1), .val (.int q2), .val (.int (0 : Int32)), .unset, .unset, .unset, .unset, .unset, .unset] [(.long (32 : Int64)), (.int (9 : Int32)), (.ref nb2), (.ref nb2)])) rfl rfl (hb hby at_76)
    refine own_by (st12) ?_
    have F12 : FA Z h12 nb2 .long 16 (fun i => .long ((updL (updL (updL f9 7 (13 : Int64)) 8 (31 : Int64)) 9 (32 : Int64)) i)) := F11.setL W12
    obtain ⟨f12, ef12⟩ : ∃ f : Nat → Int64, f = (updL (updL (updL f9 7 (13 : Int64)) 8 (31 : Int64)) 9 (32 : Int64)) := ⟨_, rfl⟩
    rw [← ef12] at F12
    have N12 := Fr.snoc X12 N11 g_nb2
    have Z12 : n0 ≤ h12.size := Nat.le_trans Z11 (Keep.of_wr W12).1
    show OEnds p e below s _ _ _ (T12.setTop (mkF m 77 #[.val (.long q0), .second, .val (.int q1), .val (.int q2), .val (.int (0 : Int32)), .unset, .unset, .unset, .unset, .unset, .unset] [(.ref nb2)]))
    refine own_by (fun _ k => XS.dup X12.here hx rfl (hb hby at_77) rfl rfl k) ?_
    show OEnds p e below s _ _ _ (T12.setTop (mkF m 78 #[.val (.long q0), .second, .val (.int q1), .val (.int q2), .val (.int (0 : Int32)), .unset, .unset, .unset, .unset, .unset, .unset] [(.ref nb2), (.ref nb2)]))
    refine own_by (fun _ k => XS.bipush X12.here hx rfl (hb hby at_78) k) ?_
    show OEnds p e below s _ _ _ (T12.setTop (mkF m 80 #[.val (.long q0), .second, .val (.int q1), .val (.int q2), .val (.int (0 : Int32)), .unset, .unset, .unset, .unset, .unset, .unset] [(.int (10 : Int32)), (.ref nb2), (.ref nb2)]))
    refine own_by (X12.ldc2Long hx hown (mvT hZ (hw _ (List.mem_of_getElem? (i := 9) rfl))) (g := (mkF m 80 #[.val (.long q0), .second, .val (.int q1), .val (.int q2), .val (.int (0 : Int32)), .unset, .unset, .unset, .unset, .unset, .unset] [(.int (10 : Int32)), (.ref nb2), (.ref nb2)])) rfl (hb hby at_80)) ?_
    show OEnds p e below s _ _ _ (T12.setTop (mkF m 83 #[.val (.long q0), .second, .val (.int q1), .val (.int q2), .val (.int (0 : Int32)), .unset, .unset, .unset, .unset, .unset, .unset] [(.long (55295 : Int64)), (.int (10 : Int32)), (.ref nb2), (.ref nb2)]))
    obtain ⟨T13, h13, X13, e13, W13, st13⟩ := own_lastore X12 hx hZ e12 F12 10 (by decide) (by decide) (g := (mkF m 83 #[.val (.long q0), .second, .val (.int q1), .val (.int q2), .val (.int (0 : Int32)), .unset, .unset, .unset, .unset, .unset, .unset] [(.long (55295 : Int64)), (.int (10 : Int32)), (.ref nb2), (.ref nb2)])) rfl rfl (hb hby at_83)
    refine own_by (st13) ?_
    have F13 : FA Z h13 nb2 .long 16 (fun i => .long ((updL f12 10 (55295 : Int64)) i)) := F12.setL W13
    have N13 := Fr.snoc X13 N12 g_nb2
    have Z13 : n0 ≤ h13.size := Nat.le_trans Z12 (Keep.of_wr W13).1
    show OEnds p e below s _ _ _ (T13.setTop (mkF m 84 #[.val (.long q0), .second, .val (.int q1), .val (.int q2), .val (.int (0 : Int32)), .unset, .unset, .unset, .unset, .unset, .unset] [(.ref nb2)]))
    refine own_by (fun _ k => XS.dup X13.here hx rfl (hb hby at_84) rfl rfl k) ?_
    show OEnds p e below s _ _ _ (T13.setTop (mkF m 85 #[.val (.long q0), .second, .val (.int q1), .val (.int q2), .val (.int (0 : Int32)), .unset, .unset, .unset, .unset, .unset, .unset] [(.ref nb2), (.ref nb2)]))
    refine own_by (fun _ k => XS.bipush X13.here hx rfl (hb hby at_85) k) ?_
    show OEnds p e below s _ _ _ (T13.setTop (mkF m 87 #[.val (.long q0), .second, .val (.int q1), .val (.int q2), .val (.int (0 : Int32)), .unset, .unset, .unset, .unset, .unset, .unset] [(.int (11 : Int32)), (.ref nb2), (.ref nb2)]))
    refine own_by (X13.ldc2Long hx hown (mvT hZ (hw _ (List.mem_of_getElem? (i := 10) rfl))) (g := (mkF m 87 #[.val (.long q0), .second, .val (.int q1), .val (.int q2), .val (.int (0 : Int32)), .unset, .unset, .unset, .unset, .unset, .unset] [(.int (11 : Int32)), (.ref nb2), (.ref nb2)])) rfl (hb hby at_87)) ?_
    show OEnds p e below s _ _ _ (T13.setTop (mkF m 90 #[.val (.long q0), .second, .val (.int q1), .val (.int q2), .val (.int (0 : Int32)), .unset, .unset, .unset, .unset, .unset, .unset] [(.long (57344 : Int64)), (.int (11 : Int32)), (.ref nb2), (.ref nb2)]))
    obtain ⟨T14, h14, X14, e14, W14, st14⟩ := own_lastore X13 hx hZ e13 F13 11 (by decide) (by decide) (g := (mkF m 90 #[.val (.long q0), .second, .val (.int q1), .val (.int q2), .val (.int (0 : Int32)), .unset, .unset, .unset, .unset, .unset, .unset] [(.long (57344 : Int64)), (.int (11 : Int32)), (.ref nb2), (.ref nb2)])) rfl rfl (hb hby at_90)
    refine own_by (st14) ?_
    have F14 : FA Z h14 nb2 .long 16 (fun i => .long ((updL (updL f12 10 (55295 : Int64)) 11 (57344 : Int64)) i)) := F13.setL W14
    have N14 := Fr.snoc X14 N13 g_nb2
    have Z14 : n0 ≤ h14.size := Nat.le_trans Z13 (Keep.of_wr W14).1
    show OEnds p e below s _ _ _ (T14.setTop (mkF m 91 #[.val (.long q0), .second, .val (.int q1), .val (.int q2), .val (.int (0 : Int32)), .unset, .unset, .unset, .unset, .unset, .unset] [(.ref nb2)]))
    refine own_by (fun _ k => XS.dup X14.here hx rfl (hb hby at_91) rfl rfl k) ?_
    show OEnds p e below s _ _ _ (T14.setTop (mkF m 92 #[.val (.long q0), .second, .val (.int q1), .val (.int q2), .val (.int (0 : Int32)), .unset, .unset, .unset, .unset, .unset, .unset] [(.ref nb2), (.ref nb2)]))
    refine own_by (fun _ k => XS.bipush X14.here hx rfl (hb hby at_92) k) ?_
    show OEnds p e below s _ _ _ (T14.setTop (mkF m 94 #[.val (.long q0), .second, .val (.int q1), .val (.int q2), .val (.int (0 : Int32)), .unset, .unset, .unset, .unset, .unset, .unset] [(.int (12 : Int32)), (.ref nb2), (.ref nb2)]))
    refine own_by (X14.ldc2Long hx hown (mvT hZ (hw _ (List.mem_of_getElem? (i := 11) rfl))) (g := (mkF m 94 #[.val (.long q0), .second, .val (.int q1), .val (.int q2), .val (.int (0 : Int32)), .unset, .unset, .unset, .unset, .unset, .unset] [(.int (12 : Int32)), (.ref nb2), (.ref nb2)])) rfl (hb hby at_94)) ?_
    show OEnds p e below s _ _ _ (T14.setTop (mkF m 97 #[.val (.long q0), .second, .val (.int q1), .val (.int q2), .val (.int (0 : Int32)), .unset, .unset, .unset, .unset, .unset, .unset] [(.long (65533 : Int64)), (.int (12 : Int32)), (.ref nb2), (.ref nb2)]))
    obtain ⟨T15, h15, X15, e15, W15, st15⟩ := own_lastore X14 hx hZ e14 F14 12 (by decide) (by decide) (g := (mkF m 97 #[.val (.long q0), .second, .val (.int q1), .val (.int q2), .val (.int (0 : Int32)), .unset, .unset, .unset, .unset, .unset, .unset] [(.long (65533 : Int64)), (.int (12 : Int32)), (.ref nb2), (.ref nb2)])) rfl rfl (hb hby at_97)
    refine own_by (st15) ?_
    have F15 : FA Z h15 nb2 .long 16 (fun i => .long ((updL (updL (updL f12 10 (55295 : Int64)) 11 (57344 : Int64)) 12 (65533 : Int64)) i)) := F14.setL W15
    obtain ⟨f15, ef15⟩ : ∃ f : Nat → Int64, f = (updL (updL (updL f12 10 (55295 : Int64)) 11 (57344 : Int64)) 12 (65533 : Int64)) := ⟨_, rfl⟩
    rw [← ef15] at F15
    have N15 := Fr.snoc X15 N14 g_nb2
    have Z15 : n0 ≤ h15.size := Nat.le_trans Z14 (Keep.of_wr W15).1
    show OEnds p e below s _ _ _ (T15.setTop (mkF m 98 #[.val (.long q0), .second, .val (.int q1), .val (.int q2), .val (.int (0 : Int32)), .unset, .unset, .unset, .unset, .unset, .unset] [(.ref nb2)]))
    refine own_by (fun _ k => XS.dup X15.here hx rfl (hb hby at_98) rfl rfl k) ?_
    show OEnds p e below s _ _ _ (T15.setTop (mkF m 99 #[.val (.long q0), .second, .val (.int q1), .val (.int q2), .val (.int (0 : Int32)), .unset, .unset, .unset, .unset, .unset, .unset] [(.ref nb2), (.ref nb2)]))
    refine own_by (fun _ k => XS.bipush X15.here hx rfl (hb hby at_99) k) ?_
    show OEnds p e below s _ _ _ (T15.setTop (mkF m 101 #[.val (.long q0), .second, .val (.int q1), .val (.int q2), .val (.int (0 : Int32)), .unset, .unset, .unset, .unset, .unset, .unset] [(.int (13 : Int32)), (.ref nb2), (.ref nb2)]))
    refine own_by (X15.ldc2Long hx hown (mvT hZ (hw _ (List.mem_of_getElem? (i := 12) rfl))) (g := (mkF m 101 #[.val (.long q0), .second, .val (.int q1), .val (.int q2), .val (.int (0 : Int32)), .unset, .unset, .unset, .unset, .unset, .unset] [(.int (13 : Int32)), (.ref nb2), (.ref nb2)])) rfl (hb hby at_101)) ?_
    show OEnds p e below s _ _ _ (T15.setTop (mkF m 104 #[.val (.long q0), .second, .val (.int q1), .val (.int q2), .val (.int (0 : Int32)), .unset, .unset, .unset, .unset, .unset, .unset] [(.long (65536 : Int64)), (.int (13 : Int32)), (.ref nb2), (.ref nb2)]))
    obtain ⟨T16, h16, X16, e16, W16, st16⟩ := own_lastore X15 hx hZ e15 F15 13 (by decide) (by decide) (g := (mkF m 104 #[.val (.long q0), .second, .val (.int q1), .val (.int q2), .val (.int (0 : Int32)), .unset, .unset, .unset, .unset, .unset, .unset] [(.long (65536 : Int64)), (.int (13 : Int32)), (.ref nb2), (.ref nb2)])) rfl rfl (hb hby at_104)
    refine own_by (st16) ?_
    have F16 : FA Z h16 nb2 .long 16 (fun i => .long ((updL f15 13 (65536 : Int64)) i)) := F15.setL W16
    have N16 := Fr.snoc X16 N15 g_nb2
    have Z16 : n0 ≤ h16.size := Nat.le_trans Z15 (Keep.of_wr W16).1
    show OEnds p e below s _ _ _ (T16.setTop (mkF m 105 #[.val (.long q0), .second, .val (.int q1), .val (.int q2), .val (.int (0 : Int32)), .unset, .unset, .unset, .unset, .unset, .unset] [(.ref nb2)]))
    refine own_by (fun _ k => XS.dup X16.here hx rfl (hb hby at_105) rfl rfl k) ?_
    show OEnds p e below s _ _ _ (T16.setTop (mkF m 106 #[.val (.long q0), .second, .val (.int q1), .val (.int q2), .val (.int (0 : Int32)), .unset, .unset, .unset, .unset, .unset, .unset] [(.ref nb2), (.ref nb2)]))
    refine own_by (fun _ k => XS.bipush X16.here hx rfl (hb hby at_106) k) ?_
    show OEnds p e below s _ _ _ (T16.setTop (mkF m 108 #[.val (.long q0), .second, .val (.int q1), .val (.int q2), .val (.int (0 : Int32)), .unset, .unset, .unset, .unset, .unset, .unset] [(.int (14 : Int32)), (.ref nb2), (.ref nb2)]))
    refine own_by (X16.ldc2Long hx hown (mvT hZ (hw _ (List.mem_of_getElem? (i := 13) rfl))) (g := (mkF m 108 #[.val (.long q0), .second, .val (.int q1), .val (.int q2), .val (.int (0 : Int32)), .unset, .unset, .unset, .unset, .unset, .unset] [(.int (14 : Int32)), (.ref nb2), (.ref nb2)])) rfl (hb hby at_108)) ?_
    show OEnds p e below s _ _ _ (T16.setTop (mkF m 111 #[.val (.long q0), .second, .val (.int q1), .val (.int q2), .val (.int (0 : Int32)), .unset, .unset, .unset, .unset, .unset, .unset] [(.long (1114111 : Int64)), (.int (14 : Int32)), (.ref nb2), (.ref nb2)]))
    obtain ⟨T17, h17, X17, e17, W17, st17⟩ := own_lastore X16 hx hZ e16 F16 14 (by decide) (by decide) (g := (mkF m 111 #[.val (.long q0), .second, .val (.int q1), .val (.int q2), .val (.int (0 : Int32)), .unset, .unset, .unset, .unset, .unset, .unset] [(.long (1114111 : Int64)), (.int (14 : Int32)), (.ref nb2), (.ref nb2)])) rfl rfl (hb hby at_111)
    refine own_by (st17) ?_
    have F17 : FA Z h17 nb2 .long 16 (fun i => .long ((updL (updL f15 13 (65536 : Int64)) 14 (1114111 : Int64)) i)) := F16.setL W17
    have N17 := Fr.snoc X17 N16 g_nb2
    have Z17 : n0 ≤ h17.size := Nat.le_trans Z16 (Keep.of_wr W17).1
    show OEnds p e below s _ _ _ (T17.setTop (mkF m 112 #[.val (.long q0), .second, .val (.int q1), .val (.int q2), .val (.int (0 : Int32)), .unset, .unset, .unset, .unset, .unset, .unset] [(.ref nb2)]))
    refine own_by (fun _ k => XS.dup X17.here hx rfl (hb hby at_112) rfl rfl k) ?_
    show OEnds p e below s _ _ _ (T17.setTop (mkF m 113 #[.val (.long q0), .second, .val (.int q1), .val (.int q2), .val (.int (0 : Int32)), .unset, .unset, .unset, .unset, .unset, .unset] [(.ref nb2), (.ref nb2)]))
    refine own_by (fun _ k => XS.bipush X17.here hx rfl (hb hby at_113) k) ?_
    show OEnds p e below s _ _ _ (T17.setTop (mkF m 115 #[.val (.long q0), .second, .val (.int q1), .val (.int q2), .val (.int (0 : Int32)), .unset, .unset, .unset, .unset, .unset, .unset] [(.int (15 : Int32)), (.ref nb2), (.ref nb2)]))
    refine own_by (X17.ldc2Long hx hown (mvT hZ (hw _ (List.mem_of_getElem? (i := 14) rfl))) (g := (mkF m 115 #[.val (.long q0), .second, .val (.int q1), .val (.int q2), .val (.int (0 : Int32)), .unset, .unset, .unset, .unset, .unset, .unset] [(.int (15 : Int32)), (.ref nb2), (.ref nb2)])) rfl (hb hby at_115)) ?_
    show OEnds p e below s _ _ _ (T17.setTop (mkF m 118 #[.val (.long q0), .second, .val (.int q1), .val (.int q2), .val (.int (0 : Int32)), .unset, .unset, .unset, .unset, .unset, .unset] [(.long (9223372036854775807 : Int64)), (.int (15 : Int32)), (.ref nb2), (.ref nb2)]))
    obtain ⟨T18, h18, X18, e18, W18, st18⟩ := own_lastore X17 hx hZ e17 F17 15 (by decide) (by decide) (g := (mkF m 118 #[.val (.long q0), .second, .val (.int q1), .val (.int q2), .val (.int (0 : Int32)), .unset, .unset, .unset, .unset, .unset, .unset] [(.long (9223372036854775807 : Int64)), (.int (15 : Int32)), (.ref nb2), (.ref nb2)])) rfl rfl (hb hby at_118)
    refine own_by (st18) ?_
    have F18 : FA Z h18 nb2 .long 16 (fun i => .long ((updL (updL (updL f15 13 (65536 : Int64)) 14 (1114111 : Int64)) 15 (9223372036854775807 : Int64)) i)) := F17.setL W18
    obtain ⟨f18, ef18⟩ : ∃ f : Nat → Int64, f = (updL (updL (updL f15 13 (65536 : Int64)) 14 (1114111 : Int64)) 15 (9223372036854775807 : Int64)) := ⟨_, rfl⟩
    rw [← ef18] at F18
    have N18 := Fr.snoc X18 N17 g_nb2
    have Z18 : n0 ≤ h18.size := Nat.le_trans Z17 (Keep.of_wr W18).1
    show OEnds p e below s _ _ _ (T18.setTop (mkF m 119 #[.val (.long q0), .second, .val (.int q1), .val (.int q2), .val (.int (0 : Int32)), .unset, .unset, .unset, .unset, .unset, .unset] [(.ref nb2)]))
    refine own_by (fun _ k => XS.astore X18.here hx rfl (hb hby at_119) rfl rfl (l' := #[.val (.long q0), .second, .val (.int q1), .val (.int q2), .val (.int (0 : Int32)), .val (.ref nb2), .unset, .unset, .unset, .unset, .unset]) rfl k) ?_
    show OEnds p e below s _ _ _ (T18.setTop (mkF m 121 #[.val (.long q0), .second, .val (.int q1), .val (.int q2), .val (.int (0 : Int32)), .val (.ref nb2), .unset, .unset, .unset, .unset, .unset] []))
    refine own_by (fun _ k => XS.iloadN X18.here hx rfl (hb hby at_121) rfl k) ?_
    show OEnds p e below s _ _ _ (T18.setTop (mkF m 122 #[.val (.long q0), .second, .val (.int q1), .val (.int q2), .val (.int (0 : Int32)), .val (.ref nb2), .unset, .unset, .unset, .unset, .unset] [(.int q2)]))
    refine own_by (fun _ k => XS.iconst X18.here hx rfl (hb hby at_122) k) ?_
    show OEnds p e below s _ _ _ (T18.setTop (mkF m 123 #[.val (.long q0), .second, .val (.int q1), .val (.int q2), .val (.int (0 : Int32)), .val (.ref nb2), .unset, .unset, .unset, .unset, .unset] [(.int (1 : Int32)), (.int q2)]))
    refine own_by (fun _ k => XS.iand X18.here hx rfl (hb hby at_123) rfl k) ?_
    show OEnds p e below s _ _ _ (T18.setTop (mkF m 124 #[.val (.long q0), .second, .val (.int q1), .val (.int q2), .val (.int (0 : Int32)), .val (.ref nb2), .unset, .unset, .unset, .unset, .unset] [(.int (q2 &&& (1 : Int32)))]))
    by_cases hc124_19 : (q2 &&& (1 : Int32)) = (0 : Int32)
    · refine own_by (fun _ k => XS.ifNo X18.here hx rfl (hb hby at_124) rfl ((if0 _ _).trans (teq hc124_19).2) k) ?_
      show OEnds p e below s _ _ _ (T18.setTop (mkF m 127 #[.val (.long q0), .second, .val (.int q1), .val (.int q2), .val (.int (0 : Int32)), .val (.ref nb2), .unset, .unset, .unset, .unset, .unset] []))
      refine own_by (fun _ k => XS.lloadN X18.here hx rfl (hb hby at_127) rfl k) ?_
      show OEnds p e below s _ _ _ (T18.setTop (mkF m 128 #[.val (.long q0), .second, .val (.int q1), .val (.int q2), .val (.int (0 : Int32)), .val (.ref nb2), .unset, .unset, .unset, .unset, .unset] [(.long q0)]))
      refine own_by (fun _ k => XS.lstore X18.here hx rfl (hb hby at_128) rfl (l' := #[.val (.long q0), .second, .val (.int q1), .val (.int q2), .val (.int (0 : Int32)), .val (.ref nb2), .val (.long q0), .second, .unset, .unset, .unset]) rfl k) ?_
      show OEnds p e below s _ _ _ (T18.setTop (mkF m 130 #[.val (.long q0), .second, .val (.int q1), .val (.int q2), .val (.int (0 : Int32)), .val (.ref nb2), .val (.long q0), .second, .unset, .unset, .unset] []))
      refine own_by (fun _ k => XS.goto X18.here hx rfl (pc0 := 130) (pc' := 161) rfl (hb hby at_130) (by decide) (by decide) k) ?_
      show OEnds p e below s _ _ _ (T18.setTop (mkF m 161 #[.val (.long q0), .second, .val (.int q1), .val (.int q2), .val (.int (0 : Int32)), .val (.ref nb2), .val (.long q0), .second, .unset, .unset, .unset] []))
      refine own_by (fun _ k => XS.lload X18.here hx rfl (hb hby at_161) rfl k) ?_
      show OEnds p e below s _ _ _ (T18.setTop (mkF m 163 #[.val (.long q0), .second, .val (.int q1), .val (.int q2), .val (.int (0 : Int32)), .val (.ref nb2), .val (.long q0), .second, .unset, .unset, .unset] [(.long q0)]))
      refine own_by (fun _ k => XS.iload X18.here hx rfl (hb hby at_163) rfl k) ?_
      show OEnds p e below s _ _ _ (T18.setTop (mkF m 165 #[.val (.long q0), .second, .val (.int q1), .val (.int q2), .val (.int (0 : Int32)), .val (.ref nb2), .val (.long q0), .second, .unset, .unset, .unset] [(.int (0 : Int32)), (.long q0)]))
      obtain ⟨T20, X20, e20, st20⟩ := own_callP X18 hx hZ (y := (⟨"com/example/boughcheck/boughcheck/DefaultReferences", "allowed", "(JZ)Z"⟩ : MethodName)) hown (hw _ (List.mem_of_getElem? (i := 15) rfl)) (hw _ (List.mem_of_getElem? (i := 16) rfl)) (hw _ (List.mem_of_getElem? (i := 17) rfl)) (hw _ (List.mem_of_getElem? (i := 18) rfl)) (by decide) (rm_allowed l Z a0 hw [] q0 (0 : Int32) h18) e18 (g := (mkF m 165 #[.val (.long q0), .second, .val (.int q1), .val (.int q2), .val (.int (0 : Int32)), .val (.ref nb2), .val (.long q0), .second, .unset, .unset, .unset] [(.int (0 : Int32)), (.long q0)])) rfl (by rw [hml]; rfl) (argsL := [(.long q0), (.int (0 : Int32))]) (rest := []) (lenOf pd_pJZrZ rfl) rfl (W := 0) (by show 2 * 0 + _ ≤ _; exact Nat.le_of_eq rfl) (hb hby at_165) (by decide) (by decide) (by decide) (by decide)
      refine own_by (st20) ?_
      show OEnds p e below s _ _ _ (T20.setTop (mkF m 168 #[.val (.long q0), .second, .val (.int q1), .val (.int q2), .val (.int (0 : Int32)), .val (.ref nb2), .val (.long q0), .second, .unset, .unset, .unset] [(.int (allowed q0 (0 : Int32)))]))
      refine own_by (fun _ k => XS.lload X20.here hx rfl (hb hby at_168) rfl k) ?_
      show OEnds p e below s _ _ _ (T20.setTop (mkF m 170 #[.val (.long q0), .second, .val (.int q1), .val (.int q2), .val (.int (0 : Int32)), .val (.ref nb2), .val (.long q0), .second, .unset, .unset, .unset] [(.long q0), (.int (allowed q0 (0 : Int32)))]))
      refine own_by (fun _ k => XS.iload X20.here hx rfl (hb hby at_170) rfl k) ?_
      show OEnds p e below s _ _ _ (T20.setTop (mkF m 172 #[.val (.long q0), .second, .val (.int q1), .val (.int q2), .val (.int (0 : Int32)), .val (.ref nb2), .val (.long q0), .second, .unset, .unset, .unset] [(.int (0 : Int32)), (.long q0), (.int (allowed q0 (0 : Int32)))]))
      obtain ⟨T21, X21, e21, st21⟩ := own_callP X20 hx hZ (y := (⟨"com/example/boughcheck/boughcheck/DefaultReferencesAllowedPinLaw", "reference", "(JZ)Z"⟩ : MethodName)) hown (hw _ (List.mem_of_getElem? (i := 28) rfl)) (hw _ (List.mem_of_getElem? (i := 29) rfl)) (hw _ (List.mem_of_getElem? (i := 30) rfl)) (hw _ (List.mem_of_getElem? (i := 31) rfl)) (by decide) (rm_refc l Z a0 hw [] q0 (0 : Int32) h18) e20 (g := (mkF m 172 #[.val (.long q0), .second, .val (.int q1), .val (.int q2), .val (.int (0 : Int32)), .val (.ref nb2), .val (.long q0), .second, .unset, .unset, .unset] [(.int (0 : Int32)), (.long q0), (.int (allowed q0 (0 : Int32)))])) rfl (by rw [hml]; rfl) (argsL := [(.long q0), (.int (0 : Int32))]) (rest := [(.int (allowed q0 (0 : Int32)))]) (lenOf pd_pJZrZ rfl) rfl (W := 1) (by show 2 * 0 + _ ≤ _; exact Nat.le_of_eq rfl) (hb hby at_172) (by decide) (by decide) (by decide) (by decide)
      refine own_by (st21) ?_
      show OEnds p e below s _ _ _ (T21.setTop (mkF m 175 #[.val (.long q0), .second, .val (.int q1), .val (.int q2), .val (.int (0 : Int32)), .val (.ref nb2), .val (.long q0), .second, .unset, .unset, .unset] [(.int (refc q0 (0 : Int32))), (.int (allowed q0 (0 : Int32)))]))
      refine own_by (fun _ k => XS.icmpNo X21.here hx rfl (hb hby at_175) rfl (teq (own_same _ _ (by decide))).2 k) ?_
      show OEnds p e below s _ _ _ (T21.setTop (mkF m 178 #[.val (.long q0), .second, .val (.int q1), .val (.int q2), .val (.int (0 : Int32)), .val (.ref nb2), .val (.long q0), .second, .unset, .unset, .unset] []))
      refine own_by (fun _ k => XS.iconst X21.here hx rfl (hb hby at_178) k) ?_
      show OEnds p e below s _ _ _ (T21.setTop (mkF m 179 #[.val (.long q0), .second, .val (.int q1), .val (.int q2), .val (.int (0 : Int32)), .val (.ref nb2), .val (.long q0), .second, .unset, .unset, .unset] [(.int (1 : Int32))]))
      refine own_by (fun _ k => XS.goto X21.here hx rfl (pc0 := 179) (pc' := 183) rfl (hb hby at_179) (by decide) (by decide) k) ?_
      show OEnds p e below s _ _ _ (T21.setTop (mkF m 183 #[.val (.long q0), .second, .val (.int q1), .val (.int q2), .val (.int (0 : Int32)), .val (.ref nb2), .val (.long q0), .second, .unset, .unset, .unset] [(.int (1 : Int32))]))
      exact own_retN X21 hx hlk .boolean (by simp) Bd.returns (hb hby at_183) ⟨rfl, N18⟩ (by decide) (by decide)
    · refine own_by (fun _ k => XS.ifYes X18.here hx rfl (pc0 := 124) (pc' := 133) rfl (hb hby at_124) rfl ((if0 _ _).trans (feq hc124_19).2) (by decide) (by decide) k) ?_
      show OEnds p e below s _ _ _ (T18.setTop (mkF m 133 #[.val (.long q0), .second, .val (.int q1), .val (.int q2), .val (.int (0 : Int32)), .val (.ref nb2), .unset, .unset, .unset, .unset, .unset] []))
      refine own_by (fun _ k => XS.iloadN X18.here hx rfl (hb hby at_133) rfl k) ?_
      show OEnds p e below s _ _ _ (T18.setTop (mkF m 134 #[.val (.long q0), .second, .val (.int q1), .val (.int q2), .val (.int (0 : Int32)), .val (.ref nb2), .unset, .unset, .unset, .unset, .unset] [(.int q2)]))
      refine own_by (fun _ k => XS.iconst X18.here hx rfl (hb hby at_134) k) ?_
      show OEnds p e below s _ _ _ (T18.setTop (mkF m 135 #[.val (.long q0), .second, .val (.int q1), .val (.int q2), .val (.int (0 : Int32)), .val (.ref nb2), .unset, .unset, .unset, .unset, .unset] [(.int (1 : Int32)), (.int q2)]))
      refine own_by (fun _ k => XS.iushr X18.here hx rfl (hb hby at_135) rfl k) ?_
      show OEnds p e below s _ _ _ (T18.setTop (mkF m 136 #[.val (.long q0), .second, .val (.int q1), .val (.int q2), .val (.int (0 : Int32)), .val (.ref nb2), .unset, .unset, .unset, .unset, .unset] [(.int ((q2.toUInt32 >>> ((1 : Int32) &&& 31).toUInt32).toInt32))]))
      refine own_by (fun _ k => XS.bipush X18.here hx rfl (hb hby at_136) k) ?_
      show OEnds p e below s _ _ _ (T18.setTop (mkF m 138 #[.val (.long q0), .second, .val (.int q1), .val (.int q2), .val (.int (0 : Int32)), .val (.ref nb2), .unset, .unset, .unset, .unset, .unset] [(.int (15 : Int32)), (.int ((q2.toUInt32 >>> ((1 : Int32) &&& 31).toUInt32).toInt32))]))
      refine own_by (fun _ k => XS.iand X18.here hx rfl (hb hby at_138) rfl k) ?_
      show OEnds p e below s _ _ _ (T18.setTop (mkF m 139 #[.val (.long q0), .second, .val (.int q1), .val (.int q2), .val (.int (0 : Int32)), .val (.ref nb2), .unset, .unset, .unset, .unset, .unset] [(.int (((q2.toUInt32 >>> ((1 : Int32) &&& 31).toUInt32).toInt32) &&& (15 : Int32)))]))
      refine own_by (fun _ k => XS.istore X18.here hx rfl (hb hby at_139) rfl (l' := #[.val (.long q0), .second, .val (.int q1), .val (.int q2), .val (.int (0 : Int32)), .val (.ref nb2), .unset, .unset, .val (.int (((q2.toUInt32 >>> ((1 : Int32) &&& 31).toUInt32).toInt32) &&& (15 : Int32))), .unset, .unset]) rfl k) ?_
      show OEnds p e below s _ _ _ (T18.setTop (mkF m 141 #[.val (.long q0), .second, .val (.int q1), .val (.int q2), .val (.int (0 : Int32)), .val (.ref nb2), .unset, .unset, .val (.int (((q2.toUInt32 >>> ((1 : Int32) &&& 31).toUInt32).toInt32) &&& (15 : Int32))), .unset, .unset] []))
      refine own_by (fun _ k => XS.iloadN X18.here hx rfl (hb hby at_141) rfl k) ?_
      show OEnds p e below s _ _ _ (T18.setTop (mkF m 142 #[.val (.long q0), .second, .val (.int q1), .val (.int q2), .val (.int (0 : Int32)), .val (.ref nb2), .unset, .unset, .val (.int (((q2.toUInt32 >>> ((1 : Int32) &&& 31).toUInt32).toInt32) &&& (15 : Int32))), .unset, .unset] [(.int q2)]))
      refine own_by (fun _ k => XS.iconst X18.here hx rfl (hb hby at_142) k) ?_
      show OEnds p e below s _ _ _ (T18.setTop (mkF m 143 #[.val (.long q0), .second, .val (.int q1), .val (.int q2), .val (.int (0 : Int32)), .val (.ref nb2), .unset, .unset, .val (.int (((q2.toUInt32 >>> ((1 : Int32) &&& 31).toUInt32).toInt32) &&& (15 : Int32))), .unset, .unset] [(.int (5 : Int32)), (.int q2)]))
      refine own_by (fun _ k => XS.iushr X18.here hx rfl (hb hby at_143) rfl k) ?_
      show OEnds p e below s _ _ _ (T18.setTop (mkF m 144 #[.val (.long q0), .second, .val (.int q1), .val (.int q2), .val (.int (0 : Int32)), .val (.ref nb2), .unset, .unset, .val (.int (((q2.toUInt32 >>> ((1 : Int32) &&& 31).toUInt32).toInt32) &&& (15 : Int32))), .unset, .unset] [(.int ((q2.toUInt32 >>> ((5 : Int32) &&& 31).toUInt32).toInt32))]))
      refine own_by (fun _ k => XS.iconst X18.here hx rfl (hb hby at_144) k) ?_
      show OEnds p e below s _ _ _ (T18.setTop (mkF m 145 #[.val (.long q0), .second, .val (.int q1), .val (.int q2), .val (.int (0 : Int32)), .val (.ref nb2), .unset, .unset, .val (.int (((q2.toUInt32 >>> ((1 : Int32) &&& 31).toUInt32).toInt32) &&& (15 : Int32))), .unset, .unset] [(.int (3 : Int32)), (.int ((q2.toUInt32 >>> ((5 : Int32) &&& 31).toUInt32).toInt32))]))
      refine own_by (fun _ k => iremM X18 hx rfl (hb hby at_145) rfl (by decide) k) ?_
      show OEnds p e below s _ _ _ (T18.setTop (mkF m 146 #[.val (.long q0), .second, .val (.int q1), .val (.int q2), .val (.int (0 : Int32)), .val (.ref nb2), .unset, .unset, .val (.int (((q2.toUInt32 >>> ((1 : Int32) &&& 31).toUInt32).toInt32) &&& (15 : Int32))), .unset, .unset] [(.int (((q2.toUInt32 >>> ((5 : Int32) &&& 31).toUInt32).toInt32) % (3 : Int32)))]))
      refine own_by (fun _ k => XS.i2l X18.here hx rfl (hb hby at_146) rfl k) ?_
      show OEnds p e below s _ _ _ (T18.setTop (mkF m 147 #[.val (.long q0), .second, .val (.int q1), .val (.int q2), .val (.int (0 : Int32)), .val (.ref nb2), .unset, .unset, .val (.int (((q2.toUInt32 >>> ((1 : Int32) &&& 31).toUInt32).toInt32) &&& (15 : Int32))), .unset, .unset] [(.long ((((q2.toUInt32 >>> ((5 : Int32) &&& 31).toUInt32).toInt32) % (3 : Int32)).toInt64))]))
      refine own_by (fun _ k => XS.lconst X18.here hx rfl (hb hby at_147) k) ?_
      show OEnds p e below s _ _ _ (T18.setTop (mkF m 148 #[.val (.long q0), .second, .val (.int q1), .val (.int q2), .val (.int (0 : Int32)), .val (.ref nb2), .unset, .unset, .val (.int (((q2.toUInt32 >>> ((1 : Int32) &&& 31).toUInt32).toInt32) &&& (15 : Int32))), .unset, .unset] [(.long (1 : Int64)), (.long ((((q2.toUInt32 >>> ((5 : Int32) &&& 31).toUInt32).toInt32) % (3 : Int32)).toInt64))]))
      refine own_by (fun _ k => XS.lsub X18.here hx rfl (hb hby at_148) rfl k) ?_
      show OEnds p e below s _ _ _ (T18.setTop (mkF m 149 #[.val (.long q0), .second, .val (.int q1), .val (.int q2), .val (.int (0 : Int32)), .val (.ref nb2), .unset, .unset, .val (.int (((q2.toUInt32 >>> ((1 : Int32) &&& 31).toUInt32).toInt32) &&& (15 : Int32))), .unset, .unset] [(.long (((((q2.toUInt32 >>> ((5 : Int32) &&& 31).toUInt32).toInt32) % (3 : Int32)).toInt64) - (1 : Int64)))]))
      refine own_by (fun _ k => XS.lstore X18.here hx rfl (hb hby at_149) rfl (l' := #[.val (.long q0), .second, .val (.int q1), .val (.int q2), .val (.int (0 : Int32)), .val (.ref nb2), .unset, .unset, .val (.int (((q2.toUInt32 >>> ((1 : Int32) &&& 31).toUInt32).toInt32) &&& (15 : Int32))), .val (.long (((((q2.toUInt32 >>> ((5 : Int32) &&& 31).toUInt32).toInt32) % (3 : Int32)).toInt64) - (1 : Int64))), .second]) rfl k) ?_
      show OEnds p e below s _ _ _ (T18.setTop (mkF m 151 #[.val (.long q0), .second, .val (.int q1), .val (.int q2), .val (.int (0 : Int32)), .val (.ref nb2), .unset, .unset, .val (.int (((q2.toUInt32 >>> ((1 : Int32) &&& 31).toUInt32).toInt32) &&& (15 : Int32))), .val (.long (((((q2.toUInt32 >>> ((5 : Int32) &&& 31).toUInt32).toInt32) % (3 : Int32)).toInt64) - (1 : Int64))), .second] []))
      refine own_by (fun _ k => XS.aload X18.here hx rfl (hb hby at_151) rfl rfl k) ?_
      show OEnds p e below s _ _ _ (T18.setTop (mkF m 153 #[.val (.long q0), .second, .val (.int q1), .val (.int q2), .val (.int (0 : Int32)), .val (.ref nb2), .unset, .unset, .val (.int (((q2.toUInt32 >>> ((1 : Int32) &&& 31).toUInt32).toInt32) &&& (15 : Int32))), .val (.long (((((q2.toUInt32 >>> ((5 : Int32) &&& 31).toUInt32).toInt32) % (3 : Int32)).toInt64) - (1 : Int64))), .second] [(.ref nb2)]))
      refine own_by (fun _ k => XS.iload X18.here hx rfl (hb hby at_153) rfl k) ?_
      show OEnds p e below s _ _ _ (T18.setTop (mkF m 155 #[.val (.long q0), .second, .val (.int q1), .val (.int q2), .val (.int (0 : Int32)), .val (.ref nb2), .unset, .unset, .val (.int (((q2.toUInt32 >>> ((1 : Int32) &&& 31).toUInt32).toInt32) &&& (15 : Int32))), .val (.long (((((q2.toUInt32 >>> ((5 : Int32) &&& 31).toUInt32).toInt32) % (3 : Int32)).toInt64) - (1 : Int64))), .second] [(.int (((q2.toUInt32 >>> ((1 : Int32) &&& 31).toUInt32).toInt32) &&& (15 : Int32))), (.ref nb2)]))
      refine own_by (own_laload X18 hx hZ e18 F18 (((q2.toUInt32 >>> ((1 : Int32) &&& 31).toUInt32).toInt32) &&& (15 : Int32)).toInt.toNat (own_idx q2).1 (own_idx q2).2 rfl (g := (mkF m 155 #[.val (.long q0), .second, .val (.int q1), .val (.int q2), .val (.int (0 : Int32)), .val (.ref nb2), .unset, .unset, .val (.int (((q2.toUInt32 >>> ((1 : Int32) &&& 31).toUInt32).toInt32) &&& (15 : Int32))), .val (.long (((((q2.toUInt32 >>> ((5 : Int32) &&& 31).toUInt32).toInt32) % (3 : Int32)).toInt64) - (1 : Int64))), .second] [(.int (((q2.toUInt32 >>> ((1 : Int32) &&& 31).toUInt32).toInt32) &&& (15 : Int32))), (.ref nb2)])) rfl rfl (hb hby at_155)) ?_
      show OEnds p e below s _ _ _ (T18.setTop (mkF m 156 #[.val (.long q0), .second, .val (.int q1), .val (.int q2), .val (.int (0 : Int32)), .val (.ref nb2), .unset, .unset, .val (.int (((q2.toUInt32 >>> ((1 : Int32) &&& 31).toUInt32).toInt32) &&& (15 : Int32))), .val (.long (((((q2.toUInt32 >>> ((5 : Int32) &&& 31).toUInt32).toInt32) % (3 : Int32)).toInt64) - (1 : Int64))), .second] [(.long (f18 (((q2.toUInt32 >>> ((1 : Int32) &&& 31).toUInt32).toInt32) &&& (15 : Int32)).toInt.toNat))]))
      refine own_by (fun _ k => XS.lload X18.here hx rfl (hb hby at_156) rfl k) ?_
      show OEnds p e below s _ _ _ (T18.setTop (mkF m 158 #[.val (.long q0), .second, .val (.int q1), .val (.int q2), .val (.int (0 : Int32)), .val (.ref nb2), .unset, .unset, .val (.int (((q2.toUInt32 >>> ((1 : Int32) &&& 31).toUInt32).toInt32) &&& (15 : Int32))), .val (.long (((((q2.toUInt32 >>> ((5 : Int32) &&& 31).toUInt32).toInt32) % (3 : Int32)).toInt64) - (1 : Int64))), .second] [(.long (((((q2.toUInt32 >>> ((5 : Int32) &&& 31).toUInt32).toInt32) % (3 : Int32)).toInt64) - (1 : Int64))), (.long (f18 (((q2.toUInt32 >>> ((1 : Int32) &&& 31).toUInt32).toInt32) &&& (15 : Int32)).toInt.toNat))]))
      refine own_by (fun _ k => XS.ladd X18.here hx rfl (hb hby at_158) rfl k) ?_
      show OEnds p e below s _ _ _ (T18.setTop (mkF m 159 #[.val (.long q0), .second, .val (.int q1), .val (.int q2), .val (.int (0 : Int32)), .val (.ref nb2), .unset, .unset, .val (.int (((q2.toUInt32 >>> ((1 : Int32) &&& 31).toUInt32).toInt32) &&& (15 : Int32))), .val (.long (((((q2.toUInt32 >>> ((5 : Int32) &&& 31).toUInt32).toInt32) % (3 : Int32)).toInt64) - (1 : Int64))), .second] [(.long ((f18 (((q2.toUInt32 >>> ((1 : Int32) &&& 31).toUInt32).toInt32) &&& (15 : Int32)).toInt.toNat) + (((((q2.toUInt32 >>> ((5 : Int32) &&& 31).toUInt32).toInt32) % (3 : Int32)).toInt64) - (1 : Int64))))]))
      refine own_by (fun _ k => XS.lstore X18.here hx rfl (hb hby at_159) rfl (l' := #[.val (.long q0), .second, .val (.int q1), .val (.int q2), .val (.int (0 : Int32)), .val (.ref nb2), .val (.long ((f18 (((q2.toUInt32 >>> ((1 : Int32) &&& 31).toUInt32).toInt32) &&& (15 : Int32)).toInt.toNat) + (((((q2.toUInt32 >>> ((5 : Int32) &&& 31).toUInt32).toInt32) % (3 : Int32)).toInt64) - (1 : Int64)))), .second, .val (.int (((q2.toUInt32 >>> ((1 : Int32) &&& 31).toUInt32).toInt32) &&& (15 : Int32))), .val (.long (((((q2.toUInt32 >>> ((5 : Int32) &&& 31).toUInt32).toInt32) % (3 : Int32)).toInt64) - (1 : Int64))), .second]) rfl k) ?_
      show OEnds p e below s _ _ _ (T18.setTop (mkF m 161 #[.val (.long q0), .second, .val (.int q1), .val (.int q2), .val (.int (0 : Int32)), .val (.ref nb2), .val (.long ((f18 (((q2.toUInt32 >>> ((1 : Int32) &&& 31).toUInt32).toInt32) &&& (15 : Int32)).toInt.toNat) + (((((q2.toUInt32 >>> ((5 : Int32) &&& 31).toUInt32).toInt32) % (3 : Int32)).toInt64) - (1 : Int64)))), .second, .val (.int (((q2.toUInt32 >>> ((1 : Int32) &&& 31).toUInt32).toInt32) &&& (15 : Int32))), .val (.long (((((q2.toUInt32 >>> ((5 : Int32) &&& 31).toUInt32).toInt32) % (3 : Int32)).toInt64) - (1 : Int64))), .second] []))
      generalize ((f18 (((q2.toUInt32 >>> ((1 : Int32) &&& 31).toUInt32).toInt32) &&& (15 : Int32)).toInt.toNat) + (((((q2.toUInt32 >>> ((5 : Int32) &&& 31).toUInt32).toInt32) % (3 : Int32)).toInt64) - (1 : Int64))) = vv
      show OEnds p e below s _ _ _ (T18.setTop (mkF m 161 #[.val (.long q0), .second, .val (.int q1), .val (.int q2), .val (.int (0 : Int32)), .val (.ref nb2), .val (.long vv), .second, .val (.int (((q2.toUInt32 >>> ((1 : Int32) &&& 31).toUInt32).toInt32) &&& (15 : Int32))), .val (.long (((((q2.toUInt32 >>> ((5 : Int32) &&& 31).toUInt32).toInt32) % (3 : Int32)).toInt64) - (1 : Int64))), .second] []))
      refine own_by (fun _ k => XS.lload X18.here hx rfl (hb hby at_161) rfl k) ?_
      show OEnds p e below s _ _ _ (T18.setTop (mkF m 163 #[.val (.long q0), .second, .val (.int q1), .val (.int q2), .val (.int (0 : Int32)), .val (.ref nb2), .val (.long vv), .second, .val (.int (((q2.toUInt32 >>> ((1 : Int32) &&& 31).toUInt32).toInt32) &&& (15 : Int32))), .val (.long (((((q2.toUInt32 >>> ((5 : Int32) &&& 31).toUInt32).toInt32) % (3 : Int32)).toInt64) - (1 : Int64))), .second] [(.long vv)]))
      refine own_by (fun _ k => XS.iload X18.here hx rfl (hb hby at_163) rfl k) ?_
      show OEnds p e below s _ _ _ (T18.setTop (mkF m 165 #[.val (.long q0), .second, .val (.int q1), .val (.int q2), .val (.int (0 : Int32)), .val (.ref nb2), .val (.long vv), .second, .val (.int (((q2.toUInt32 >>> ((1 : Int32) &&& 31).toUInt32).toInt32) &&& (15 : Int32))), .val (.long (((((q2.toUInt32 >>> ((5 : Int32) &&& 31).toUInt32).toInt32) % (3 : Int32)).toInt64) - (1 : Int64))), .second] [(.int (0 : Int32)), (.long vv)]))
      obtain ⟨T22, X22, e22, st22⟩ := own_callP X18 hx hZ (y := (⟨"com/example/boughcheck/boughcheck/DefaultReferences", "allowed", "(JZ)Z"⟩ : MethodName)) hown (hw _ (List.mem_of_getElem? (i := 15) rfl)) (hw _ (List.mem_of_getElem? (i := 16) rfl)) (hw _ (List.mem_of_getElem? (i := 17) rfl)) (hw _ (List.mem_of_getElem? (i := 18) rfl)) (by decide) (rm_allowed l Z a0 hw [] vv (0 : Int32) h18) e18 (g := (mkF m 165 #[.val (.long q0), .second, .val (.int q1), .val (.int q2), .val (.int (0 : Int32)), .val (.ref nb2), .val (.long vv), .second, .val (.int (((q2.toUInt32 >>> ((1 : Int32) &&& 31).toUInt32).toInt32) &&& (15 : Int32))), .val (.long (((((q2.toUInt32 >>> ((5 : Int32) &&& 31).toUInt32).toInt32) % (3 : Int32)).toInt64) - (1 : Int64))), .second] [(.int (0 : Int32)), (.long vv)])) rfl (by rw [hml]; rfl) (argsL := [(.long vv), (.int (0 : Int32))]) (rest := []) (lenOf pd_pJZrZ rfl) rfl (W := 0) (by show 2 * 0 + _ ≤ _; exact Nat.le_of_eq rfl) (hb hby at_165) (by decide) (by decide) (by decide) (by decide)
      refine own_by (st22) ?_
      show OEnds p e below s _ _ _ (T22.setTop (mkF m 168 #[.val (.long q0), .second, .val (.int q1), .val (.int q2), .val (.int (0 : Int32)), .val (.ref nb2), .val (.long vv), .second, .val (.int (((q2.toUInt32 >>> ((1 : Int32) &&& 31).toUInt32).toInt32) &&& (15 : Int32))), .val (.long (((((q2.toUInt32 >>> ((5 : Int32) &&& 31).toUInt32).toInt32) % (3 : Int32)).toInt64) - (1 : Int64))), .second] [(.int (allowed vv (0 : Int32)))]))
      refine own_by (fun _ k => XS.lload X22.here hx rfl (hb hby at_168) rfl k) ?_
      show OEnds p e below s _ _ _ (T22.setTop (mkF m 170 #[.val (.long q0), .second, .val (.int q1), .val (.int q2), .val (.int (0 : Int32)), .val (.ref nb2), .val (.long vv), .second, .val (.int (((q2.toUInt32 >>> ((1 : Int32) &&& 31).toUInt32).toInt32) &&& (15 : Int32))), .val (.long (((((q2.toUInt32 >>> ((5 : Int32) &&& 31).toUInt32).toInt32) % (3 : Int32)).toInt64) - (1 : Int64))), .second] [(.long vv), (.int (allowed vv (0 : Int32)))]))
      refine own_by (fun _ k => XS.iload X22.here hx rfl (hb hby at_170) rfl k) ?_
      show OEnds p e below s _ _ _ (T22.setTop (mkF m 172 #[.val (.long q0), .second, .val (.int q1), .val (.int q2), .val (.int (0 : Int32)), .val (.ref nb2), .val (.long vv), .second, .val (.int (((q2.toUInt32 >>> ((1 : Int32) &&& 31).toUInt32).toInt32) &&& (15 : Int32))), .val (.long (((((q2.toUInt32 >>> ((5 : Int32) &&& 31).toUInt32).toInt32) % (3 : Int32)).toInt64) - (1 : Int64))), .second] [(.int (0 : Int32)), (.long vv), (.int (allowed vv (0 : Int32)))]))
      obtain ⟨T23, X23, e23, st23⟩ := own_callP X22 hx hZ (y := (⟨"com/example/boughcheck/boughcheck/DefaultReferencesAllowedPinLaw", "reference", "(JZ)Z"⟩ : MethodName)) hown (hw _ (List.mem_of_getElem? (i := 28) rfl)) (hw _ (List.mem_of_getElem? (i := 29) rfl)) (hw _ (List.mem_of_getElem? (i := 30) rfl)) (hw _ (List.mem_of_getElem? (i := 31) rfl)) (by decide) (rm_refc l Z a0 hw [] vv (0 : Int32) h18) e22 (g := (mkF m 172 #[.val (.long q0), .second, .val (.int q1), .val (.int q2), .val (.int (0 : Int32)), .val (.ref nb2), .val (.long vv), .second, .val (.int (((q2.toUInt32 >>> ((1 : Int32) &&& 31).toUInt32).toInt32) &&& (15 : Int32))), .val (.long (((((q2.toUInt32 >>> ((5 : Int32) &&& 31).toUInt32).toInt32) % (3 : Int32)).toInt64) - (1 : Int64))), .second] [(.int (0 : Int32)), (.long vv), (.int (allowed vv (0 : Int32)))])) rfl (by rw [hml]; rfl) (argsL := [(.long vv), (.int (0 : Int32))]) (rest := [(.int (allowed vv (0 : Int32)))]) (lenOf pd_pJZrZ rfl) rfl (W := 1) (by show 2 * 0 + _ ≤ _; exact Nat.le_of_eq rfl) (hb hby at_172) (by decide) (by decide) (by decide) (by decide)
      refine own_by (st23) ?_
      show OEnds p e below s _ _ _ (T23.setTop (mkF m 175 #[.val (.long q0), .second, .val (.int q1), .val (.int q2), .val (.int (0 : Int32)), .val (.ref nb2), .val (.long vv), .second, .val (.int (((q2.toUInt32 >>> ((1 : Int32) &&& 31).toUInt32).toInt32) &&& (15 : Int32))), .val (.long (((((q2.toUInt32 >>> ((5 : Int32) &&& 31).toUInt32).toInt32) % (3 : Int32)).toInt64) - (1 : Int64))), .second] [(.int (refc vv (0 : Int32))), (.int (allowed vv (0 : Int32)))]))
      refine own_by (fun _ k => XS.icmpNo X23.here hx rfl (hb hby at_175) rfl (teq (own_same _ _ (by decide))).2 k) ?_
      show OEnds p e below s _ _ _ (T23.setTop (mkF m 178 #[.val (.long q0), .second, .val (.int q1), .val (.int q2), .val (.int (0 : Int32)), .val (.ref nb2), .val (.long vv), .second, .val (.int (((q2.toUInt32 >>> ((1 : Int32) &&& 31).toUInt32).toInt32) &&& (15 : Int32))), .val (.long (((((q2.toUInt32 >>> ((5 : Int32) &&& 31).toUInt32).toInt32) % (3 : Int32)).toInt64) - (1 : Int64))), .second] []))
      refine own_by (fun _ k => XS.iconst X23.here hx rfl (hb hby at_178) k) ?_
      show OEnds p e below s _ _ _ (T23.setTop (mkF m 179 #[.val (.long q0), .second, .val (.int q1), .val (.int q2), .val (.int (0 : Int32)), .val (.ref nb2), .val (.long vv), .second, .val (.int (((q2.toUInt32 >>> ((1 : Int32) &&& 31).toUInt32).toInt32) &&& (15 : Int32))), .val (.long (((((q2.toUInt32 >>> ((5 : Int32) &&& 31).toUInt32).toInt32) % (3 : Int32)).toInt64) - (1 : Int64))), .second] [(.int (1 : Int32))]))
      refine own_by (fun _ k => XS.goto X23.here hx rfl (pc0 := 179) (pc' := 183) rfl (hb hby at_179) (by decide) (by decide) k) ?_
      show OEnds p e below s _ _ _ (T23.setTop (mkF m 183 #[.val (.long q0), .second, .val (.int q1), .val (.int q2), .val (.int (0 : Int32)), .val (.ref nb2), .val (.long vv), .second, .val (.int (((q2.toUInt32 >>> ((1 : Int32) &&& 31).toUInt32).toInt32) &&& (15 : Int32))), .val (.long (((((q2.toUInt32 >>> ((5 : Int32) &&& 31).toUInt32).toInt32) % (3 : Int32)).toInt64) - (1 : Int64))), .second] [(.int (1 : Int32))]))
      exact own_retN X23 hx hlk .boolean (by simp) Bd.returns (hb hby at_183) ⟨rfl, N18⟩ (by decide) (by decide)
  · refine own_by (fun _ k => XS.ifNo X0.here hx rfl (hb hby at_3) rfl ((if0 _ _).trans (feq hc3_1).1) k) ?_
    show OEnds p e below s _ _ _ (s₁.setTop (mkF m 6 #[.val (.long q0), .second, .val (.int q1), .val (.int q2), .unset, .unset, .unset, .unset, .unset, .unset, .unset] []))
    refine own_by (fun _ k => XS.iconst X0.here hx rfl (hb hby at_6) k) ?_
    show OEnds p e below s _ _ _ (s₁.setTop (mkF m 7 #[.val (.long q0), .second, .val (.int q1), .val (.int q2), .unset, .unset, .unset, .unset, .unset, .unset, .unset] [(.int (1 : Int32))]))
    refine own_by (fun _ k => XS.goto X0.here hx rfl (pc0 := 7) (pc' := 11) rfl (hb hby at_7) (by decide) (by decide) k) ?_
    show OEnds p e below s _ _ _ (s₁.setTop (mkF m 11 #[.val (.long q0), .second, .val (.int q1), .val (.int q2), .unset, .unset, .unset, .unset, .unset, .unset, .unset] [(.int (1 : Int32))]))
    refine own_by (fun _ k => XS.istore X0.here hx rfl (hb hby at_11) rfl (l' := #[.val (.long q0), .second, .val (.int q1), .val (.int q2), .val (.int (1 : Int32)), .unset, .unset, .unset, .unset, .unset, .unset]) rfl k) ?_
    show OEnds p e below s _ _ _ (s₁.setTop (mkF m 13 #[.val (.long q0), .second, .val (.int q1), .val (.int q2), .val (.int (1 : Int32)), .unset, .unset, .unset, .unset, .unset, .unset] []))
    refine own_by (fun _ k => XS.bipush X0.here hx rfl (hb hby at_13) k) ?_
    show OEnds p e below s _ _ _ (s₁.setTop (mkF m 15 #[.val (.long q0), .second, .val (.int q1), .val (.int q2), .val (.int (1 : Int32)), .unset, .unset, .unset, .unset, .unset, .unset] [(.int (16 : Int32))]))
    obtain ⟨T24, h24, k24, X24, e24, E24, A24, st24⟩ := newP X0 hx hZ (hw _ (List.mem_of_getElem? (i := 0) rfl)) e0 (g := (mkF m 15 #[.val (.long q0), .second, .val (.int q1), .val (.int q2), .val (.int (1 : Int32)), .unset, .unset, .unset, .unset, .unset, .unset] [(.int (16 : Int32))])) rfl (hb hby at_15) rfl (by decide) (cap := 16) (by decide) (by decide) (by decide) (by decide)
    obtain ⟨nb24, g24⟩ : ∃ z, z = h0.size := ⟨_, rfl⟩
    rw [← g24] at A24 st24
    refine own_by (st24) ?_
    have g_nb24 : n0 ≤ nb24 := Nat.le_trans Z0 (Nat.le_of_eq g24.symm)
    have Z24 : n0 ≤ h24.size := Nat.le_trans Z0 E24.1
    have F24 : FA Z h24 nb24 .long 16 (fun i => .long ((fun _ => (0 : Int64)) i)) := FA.new A24 (by decide) (by decide) rfl
    show OEnds p e below s _ _ _ (T24.setTop (mkF m 17 #[.val (.long q0), .second, .val (.int q1), .val (.int q2), .val (.int (1 : Int32)), .unset, .unset, .unset, .unset, .unset, .unset] [(.ref nb24)]))
    refine own_by (fun _ k => XS.dup X24.here hx rfl (hb hby at_17) rfl rfl k) ?_
    show OEnds p e below s _ _ _ (T24.setTop (mkF m 18 #[.val (.long q0), .second, .val (.int q1), .val (.int q2), .val (.int (1 : Int32)), .unset, .unset, .unset, .unset, .unset, .unset] [(.ref nb24), (.ref nb24)]))
    refine own_by (fun _ k => XS.iconst X24.here hx rfl (hb hby at_18) k) ?_
    show OEnds p e below s _ _ _ (T24.setTop (mkF m 19 #[.val (.long q0), .second, .val (.int q1), .val (.int q2), .val (.int (1 : Int32)), .unset, .unset, .unset, .unset, .unset, .unset] [(.int (0 : Int32)), (.ref nb24), (.ref nb24)]))
    refine own_by (X24.ldc2Long hx hown (mvT hZ (hw _ (List.mem_of_getElem? (i := 1) rfl))) (g := (mkF m 19 #[.val (.long q0), .second, .val (.int q1), .val (.int q2), .val (.int (1 : Int32)), .unset, .unset, .unset, .unset, .unset, .unset] [(.int (0 : Int32)), (.ref nb24), (.ref nb24)])) rfl (hb hby at_19)) ?_
    show OEnds p e below s _ _ _ (T24.setTop (mkF m 22 #[.val (.long q0), .second, .val (.int q1), .val (.int q2), .val (.int (1 : Int32)), .unset, .unset, .unset, .unset, .unset, .unset] [(.long (-9223372036854775808 : Int64)), (.int (0 : Int32)), (.ref nb24), (.ref nb24)]))
    obtain ⟨T25, h25, X25, e25, W25, st25⟩ := own_lastore X24 hx hZ e24 F24 0 (by decide) (by decide) (g := (mkF m 22 #[.val (.long q0), .second, .val (.int q1), .val (.int q2), .val (.int (1 : Int32)), .unset, .unset, .unset, .unset, .unset, .unset] [(.long (-9223372036854775808 : Int64)), (.int (0 : Int32)), (.ref nb24), (.ref nb24)])) rfl rfl (hb hby at_22)
    refine own_by (st25) ?_
    have F25 : FA Z h25 nb24 .long 16 (fun i => .long ((updL (fun _ => (0 : Int64)) 0 (-9223372036854775808 : Int64)) i)) := F24.setL W25
    obtain ⟨f25, ef25⟩ : ∃ f : Nat → Int64, f = (updL (fun _ => (0 : Int64)) 0 (-9223372036854775808 : Int64)) := ⟨_, rfl⟩
    rw [← ef25] at F25
    have N25 := Fr.snoc X25 N0 g_nb24
    have Z25 : n0 ≤ h25.size := Nat.le_trans Z24 (Keep.of_wr W25).1
    show OEnds p e below s _ _ _ (T25.setTop (mkF m 23 #[.val (.long q0), .second, .val (.int q1), .val (.int q2), .val (.int (1 : Int32)), .unset, .unset, .unset, .unset, .unset, .unset] [(.ref nb24)]))
    refine own_by (fun _ k => XS.dup X25.here hx rfl (hb hby at_23) rfl rfl k) ?_
    show OEnds p e below s _ _ _ (T25.setTop (mkF m 24 #[.val (.long q0), .second, .val (.int q1), .val (.int q2), .val (.int (1 : Int32)), .unset, .unset, .unset, .unset, .unset, .unset] [(.ref nb24), (.ref nb24)]))
    refine own_by (fun _ k => XS.iconst X25.here hx rfl (hb hby at_24) k) ?_
    show OEnds p e below s _ _ _ (T25.setTop (mkF m 25 #[.val (.long q0), .second, .val (.int q1), .val (.int q2), .val (.int (1 : Int32)), .unset, .unset, .unset, .unset, .unset, .unset] [(.int (1 : Int32)), (.ref nb24), (.ref nb24)]))
    refine own_by (X25.ldc2Long hx hown (mvT hZ (hw _ (List.mem_of_getElem? (i := 2) rfl))) (g := (mkF m 25 #[.val (.long q0), .second, .val (.int q1), .val (.int q2), .val (.int (1 : Int32)), .unset, .unset, .unset, .unset, .unset, .unset] [(.int (1 : Int32)), (.ref nb24), (.ref nb24)])) rfl (hb hby at_25)) ?_
    show OEnds p e below s _ _ _ (T25.setTop (mkF m 28 #[.val (.long q0), .second, .val (.int q1), .val (.int q2), .val (.int (1 : Int32)), .unset, .unset, .unset, .unset, .unset, .unset] [(.long (-1 : Int64)), (.int (1 : Int32)), (.ref nb24), (.ref nb24)]))
    obtain ⟨T26, h26, X26, e26, W26, st26⟩ := own_lastore X25 hx hZ e25 F25 1 (by decide) (by decide) (g := (mkF m 28 #[.val (.long q0), .second, .val (.int q1), .val (.int q2), .val (.int (1 : Int32)), .unset, .unset, .unset, .unset, .unset, .unset] [(.long (-1 : Int64)), (.int (1 : Int32)), (.ref nb24), (.ref nb24)])) rfl rfl (hb hby at_28)
    refine own_by (st26) ?_
    have F26 : FA Z h26 nb24 .long 16 (fun i => .long ((updL f25 1 (-1 : Int64)) i)) := F25.setL W26
    have N26 := Fr.snoc X26 N25 g_nb24
    have Z26 : n0 ≤ h26.size := Nat.le_trans Z25 (Keep.of_wr W26).1
    show OEnds p e below s _ _ _ (T26.setTop (mkF m 29 #[.val (.long q0), .second, .val (.int q1), .val (.int q2), .val (.int (1 : Int32)), .unset, .unset, .unset, .unset, .unset, .unset] [(.ref nb24)]))
    refine own_by (fun _ k => XS.dup X26.here hx rfl (hb hby at_29) rfl rfl k) ?_
    show OEnds p e below s _ _ _ (T26.setTop (mkF m 30 #[.val (.long q0), .second, .val (.int q1), .val (.int q2), .val (.int (1 : Int32)), .unset, .unset, .unset, .unset, .unset, .unset] [(.ref nb24), (.ref nb24)]))
    refine own_by (fun _ k => XS.iconst X26.here hx rfl (hb hby at_30) k) ?_
    show OEnds p e below s _ _ _ (T26.setTop (mkF m 31 #[.val (.long q0), .second, .val (.int q1), .val (.int q2), .val (.int (1 : Int32)), .unset, .unset, .unset, .unset, .unset, .unset] [(.int (2 : Int32)), (.ref nb24), (.ref nb24)]))
    refine own_by (fun _ k => XS.lconst X26.here hx rfl (hb hby at_31) k) ?_
    show OEnds p e below s _ _ _ (T26.setTop (mkF m 32 #[.val (.long q0), .second, .val (.int q1), .val (.int q2), .val (.int (1 : Int32)), .unset, .unset, .unset, .unset, .unset, .unset] [(.long (0 : Int64)), (.int (2 : Int32)), (.ref nb24), (.ref nb24)]))
    obtain ⟨T27, h27, X27, e27, W27, st27⟩ := own_lastore X26 hx hZ e26 F26 2 (by decide) (by decide) (g := (mkF m 32 #[.val (.long q0), .second, .val (.int q1), .val (.int q2), .val (.int (1 : Int32)), .unset, .unset, .unset, .unset, .unset, .unset] [(.long (0 : Int64)), (.int (2 : Int32)), (.ref nb24), (.ref nb24)])) rfl rfl (hb hby at_32)
    refine own_by (st27) ?_
    have F27 : FA Z h27 nb24 .long 16 (fun i => .long ((updL (updL f25 1 (-1 : Int64)) 2 (0 : Int64)) i)) := F26.setL W27
    have N27 := Fr.snoc X27 N26 g_nb24
    have Z27 : n0 ≤ h27.size := Nat.le_trans Z26 (Keep.of_wr W27).1
    show OEnds p e below s _ _ _ (T27.setTop (mkF m 33 #[.val (.long q0), .second, .val (.int q1), .val (.int q2), .val (.int (1 : Int32)), .unset, .unset, .unset, .unset, .unset, .unset] [(.ref nb24)]))
    refine own_by (fun _ k => XS.dup X27.here hx rfl (hb hby at_33) rfl rfl k) ?_
    show OEnds p e below s _ _ _ (T27.setTop (mkF m 34 #[.val (.long q0), .second, .val (.int q1), .val (.int q2), .val (.int (1 : Int32)), .unset, .unset, .unset, .unset, .unset, .unset] [(.ref nb24), (.ref nb24)]))
    refine own_by (fun _ k => XS.iconst X27.here hx rfl (hb hby at_34) k) ?_
    show OEnds p e below s _ _ _ (T27.setTop (mkF m 35 #[.val (.long q0), .second, .val (.int q1), .val (.int q2), .val (.int (1 : Int32)), .unset, .unset, .unset, .unset, .unset, .unset] [(.int (3 : Int32)), (.ref nb24), (.ref nb24)]))
    refine own_by (fun _ k => XS.lconst X27.here hx rfl (hb hby at_35) k) ?_
    show OEnds p e below s _ _ _ (T27.setTop (mkF m 36 #[.val (.long q0), .second, .val (.int q1), .val (.int q2), .val (.int (1 : Int32)), .unset, .unset, .unset, .unset, .unset, .unset] [(.long (1 : Int64)), (.int (3 : Int32)), (.ref nb24), (.ref nb24)]))
    obtain ⟨T28, h28, X28, e28, W28, st28⟩ := own_lastore X27 hx hZ e27 F27 3 (by decide) (by decide) (g := (mkF m 36 #[.val (.long q0), .second, .val (.int q1), .val (.int q2), .val (.int (1 : Int32)), .unset, .unset, .unset, .unset, .unset, .unset] [(.long (1 : Int64)), (.int (3 : Int32)), (.ref nb24), (.ref nb24)])) rfl rfl (hb hby at_36)
    refine own_by (st28) ?_
    have F28 : FA Z h28 nb24 .long 16 (fun i => .long ((updL (updL (updL f25 1 (-1 : Int64)) 2 (0 : Int64)) 3 (1 : Int64)) i)) := F27.setL W28
    obtain ⟨f28, ef28⟩ : ∃ f : Nat → Int64, f = (updL (updL (updL f25 1 (-1 : Int64)) 2 (0 : Int64)) 3 (1 : Int64)) := ⟨_, rfl⟩
    rw [← ef28] at F28
    have N28 := Fr.snoc X28 N27 g_nb24
    have Z28 : n0 ≤ h28.size := Nat.le_trans Z27 (Keep.of_wr W28).1
    show OEnds p e below s _ _ _ (T28.setTop (mkF m 37 #[.val (.long q0), .second, .val (.int q1), .val (.int q2), .val (.int (1 : Int32)), .unset, .unset, .unset, .unset, .unset, .unset] [(.ref nb24)]))
    refine own_by (fun _ k => XS.dup X28.here hx rfl (hb hby at_37) rfl rfl k) ?_
    show OEnds p e below s _ _ _ (T28.setTop (mkF m 38 #[.val (.long q0), .second, .val (.int q1), .val (.int q2), .val (.int (1 : Int32)), .unset, .unset, .unset, .unset, .unset, .unset] [(.ref nb24), (.ref nb24)]))
    refine own_by (fun _ k => XS.iconst X28.here hx rfl (hb hby at_38) k) ?_
    show OEnds p e below s _ _ _ (T28.setTop (mkF m 39 #[.val (.long q0), .second, .val (.int q1), .val (.int q2), .val (.int (1 : Int32)), .unset, .unset, .unset, .unset, .unset, .unset] [(.int (4 : Int32)), (.ref nb24), (.ref nb24)]))
    refine own_by (X28.ldc2Long hx hown (mvT hZ (hw _ (List.mem_of_getElem? (i := 3) rfl))) (g := (mkF m 39 #[.val (.long q0), .second, .val (.int q1), .val (.int q2), .val (.int (1 : Int32)), .unset, .unset, .unset, .unset, .unset, .unset] [(.int (4 : Int32)), (.ref nb24), (.ref nb24)])) rfl (hb hby at_39)) ?_
    show OEnds p e below s _ _ _ (T28.setTop (mkF m 42 #[.val (.long q0), .second, .val (.int q1), .val (.int q2), .val (.int (1 : Int32)), .unset, .unset, .unset, .unset, .unset, .unset] [(.long (8 : Int64)), (.int (4 : Int32)), (.ref nb24), (.ref nb24)]))
    obtain ⟨T29, h29, X29, e29, W29, st29⟩ := own_lastore X28 hx hZ e28 F28 4 (by decide) (by decide) (g := (mkF m 42 #[.val (.long q0), .second, .val (.int q1), .val (.int q2), .val (.int (1 : Int32)), .unset, .unset, .unset, .unset, .unset, .unset] [(.long (8 : Int64)), (.int (4 : Int32)), (.ref nb24), (.ref nb24)])) rfl rfl (hb hby at_42)
    refine own_by (st29) ?_
    have F29 : FA Z h29 nb24 .long 16 (fun i => .long ((updL f28 4 (8 : Int64)) i)) := F28.setL W29
    have N29 := Fr.snoc X29 N28 g_nb24
    have Z29 : n0 ≤ h29.size := Nat.le_trans Z28 (Keep.of_wr W29).1
    show OEnds p e below s _ _ _ (T29.setTop (mkF m 43 #[.val (.long q0), .second, .val (.int q1), .val (.int q2), .val (.int (1 : Int32)), .unset, .unset, .unset, .unset, .unset, .unset] [(.ref nb24)]))
    refine own_by (fun _ k => XS.dup X29.here hx rfl (hb hby at_43) rfl rfl k) ?_
    show OEnds p e below s _ _ _ (T29.setTop (mkF m 44 #[.val (.long q0), .second, .val (.int q1), .val (.int q2), .val (.int (1 : Int32)), .unset, .unset, .unset, .unset, .unset, .unset] [(.ref nb24), (.ref nb24)]))
    refine own_by (fun _ k => XS.iconst X29.here hx rfl (hb hby at_44) k) ?_
    show OEnds p e below s _ _ _ (T29.setTop (mkF m 45 #[.val (.long q0), .second, .val (.int q1), .val (.int q2), .val (.int (1 : Int32)), .unset, .unset, .unset, .unset, .unset, .unset] [(.int (5 : Int32)), (.ref nb24), (.ref nb24)]))
    refine own_by (X29.ldc2Long hx hown (mvT hZ (hw _ (List.mem_of_getElem? (i := 4) rfl))) (g := (mkF m 45 #[.val (.long q0), .second, .val (.int q1), .val (.int q2), .val (.int (1 : Int32)), .unset, .unset, .unset, .unset, .unset, .unset] [(.int (5 : Int32)), (.ref nb24), (.ref nb24)])) rfl (hb hby at_45)) ?_
    show OEnds p e below s _ _ _ (T29.setTop (mkF m 48 #[.val (.long q0), .second, .val (.int q1), .val (.int q2), .val (.int (1 : Int32)), .unset, .unset, .unset, .unset, .unset, .unset] [(.long (9 : Int64)), (.int (5 : Int32)), (.ref nb24), (.ref nb24)]))
    obtain ⟨T30, h30, X30, e30, W30, st30⟩ := own_lastore X29 hx hZ e29 F29 5 (by decide) (by decide) (g := (mkF m 48 #[.val (.long q0), .second, .val (.int q1), .val (.int q2), .val (.int (1 : Int32)), .unset, .unset, .unset, .unset, .unset, .unset] [(.long (9 : Int64)), (.int (5 : Int32)), (.ref nb24), (.ref nb24)])) rfl rfl (hb hby at_48)
    refine own_by (st30) ?_
    have F30 : FA Z h30 nb24 .long 16 (fun i => .long ((updL (updL f28 4 (8 : Int64)) 5 (9 : Int64)) i)) := F29.setL W30
    have N30 := Fr.snoc X30 N29 g_nb24
    have Z30 : n0 ≤ h30.size := Nat.le_trans Z29 (Keep.of_wr W30).1
    show OEnds p e below s _ _ _ (T30.setTop (mkF m 49 #[.val (.long q0), .second, .val (.int q1), .val (.int q2), .val (.int (1 : Int32)), .unset, .unset, .unset, .unset, .unset, .unset] [(.ref nb24)]))
    refine own_by (fun _ k => XS.dup X30.here hx rfl (hb hby at_49) rfl rfl k) ?_
    show OEnds p e below s _ _ _ (T30.setTop (mkF m 50 #[.val (.long q0), .second, .val (.int q1), .val (.int q2), .val (.int (1 : Int32)), .unset, .unset, .unset, .unset, .unset, .unset] [(.ref nb24), (.ref nb24)]))
    refine own_by (fun _ k => XS.bipush X30.here hx rfl (hb hby at_50) k) ?_
    show OEnds p e below s _ _ _ (T30.setTop (mkF m 52 #[.val (.long q0), .second, .val (.int q1), .val (.int q2), .val (.int (1 : Int32)), .unset, .unset, .unset, .unset, .unset, .unset] [(.int (6 : Int32)), (.ref nb24), (.ref nb24)]))
    refine own_by (X30.ldc2Long hx hown (mvT hZ (hw _ (List.mem_of_getElem? (i := 5) rfl))) (g := (mkF m 52 #[.val (.long q0), .second, .val (.int q1), .val (.int q2), .val (.int (1 : Int32)), .unset, .unset, .unset, .unset, .unset, .unset] [(.int (6 : Int32)), (.ref nb24), (.ref nb24)])) rfl (hb hby at_52)) ?_
    show OEnds p e below s _ _ _ (T30.setTop (mkF m 55 #[.val (.long q0), .second, .val (.int q1), .val (.int q2), .val (.int (1 : Int32)), .unset, .unset, .unset, .unset, .unset, .unset] [(.long (10 : Int64)), (.int (6 : Int32)), (.ref nb24), (.ref nb24)]))
    obtain ⟨T31, h31, X31, e31, W31, st31⟩ := own_lastore X30 hx hZ e30 F30 6 (by decide) (by decide) (g := (mkF m 55 #[.val (.long q0), .second, .val (.int q1), .val (.int q2), .val (.int (1 : Int32)), .unset, .unset, .unset, .unset, .unset, .unset] [(.long (10 : Int64)), (.int (6 : Int32)), (.ref nb24), (.ref nb24)])) rfl rfl (hb hby at_55)
    refine own_by (st31) ?_
    have F31 : FA Z h31 nb24 .long 16 (fun i => .long ((updL (updL (updL f28 4 (8 : Int64)) 5 (9 : Int64)) 6 (10 : Int64)) i)) := F30.setL W31
    obtain ⟨f31, ef31⟩ : ∃ f : Nat → Int64, f = (updL (updL (updL f28 4 (8 : Int64)) 5 (9 : Int64)) 6 (10 : Int64)) := ⟨_, rfl⟩
    rw [← ef31] at F31
    have N31 := Fr.snoc X31 N30 g_nb24
    have Z31 : n0 ≤ h31.size := Nat.le_trans Z30 (Keep.of_wr W31).1
    show OEnds p e below s _ _ _ (T31.setTop (mkF m 56 #[.val (.long q0), .second, .val (.int q1), .val (.int q2), .val (.int (1 : Int32)), .unset, .unset, .unset, .unset, .unset, .unset] [(.ref nb24)]))
    refine own_by (fun _ k => XS.dup X31.here hx rfl (hb hby at_56) rfl rfl k) ?_
    show OEnds p e below s _ _ _ (T31.setTop (mkF m 57 #[.val (.long q0), .second, .val (.int q1), .val (.int q2), .val (.int (1 : Int32)), .unset, .unset, .unset, .unset, .unset, .unset] [(.ref nb24), (.ref nb24)]))
    refine own_by (fun _ k => XS.bipush X31.here hx rfl (hb hby at_57) k) ?_
    show OEnds p e below s _ _ _ (T31.setTop (mkF m 59 #[.val (.long q0), .second, .val (.int q1), .val (.int q2), .val (.int (1 : Int32)), .unset, .unset, .unset, .unset, .unset, .unset] [(.int (7 : Int32)), (.ref nb24), (.ref nb24)]))
    refine own_by (X31.ldc2Long hx hown (mvT hZ (hw _ (List.mem_of_getElem? (i := 6) rfl))) (g := (mkF m 59 #[.val (.long q0), .second, .val (.int q1), .val (.int q2), .val (.int (1 : Int32)), .unset, .unset, .unset, .unset, .unset, .unset] [(.int (7 : Int32)), (.ref nb24), (.ref nb24)])) rfl (hb hby at_59)) ?_
    show OEnds p e below s _ _ _ (T31.setTop (mkF m 62 #[.val (.long q0), .second, .val (.int q1), .val (.int q2), .val (.int (1 : Int32)), .unset, .unset, .unset, .unset, .unset, .unset] [(.long (13 : Int64)), (.int (7 : Int32)), (.ref nb24), (.ref nb24)]))
    obtain ⟨T32, h32, X32, e32, W32, st32⟩ := own_lastore X31 hx hZ e31 F31 7 (by decide) (by decide) (g := (mkF m 62 #[.val (.long q0), .second, .val (.int q1), .val (.int q2), .val (.int (1 : Int32)), .unset, .unset, .unset, .unset, .unset, .unset] [(.long (13 : Int64)), (.int (7 : Int32)), (.ref nb24), (.ref nb24)])) rfl rfl (hb hby at_62)
    refine own_by (st32) ?_
    have F32 : FA Z h32 nb24 .long 16 (fun i => .long ((updL f31 7 (13 : Int64)) i)) := F31.setL W32
    have N32 := Fr.snoc X32 N31 g_nb24
    have Z32 : n0 ≤ h32.size := Nat.le_trans Z31 (Keep.of_wr W32).1
    show OEnds p e below s _ _ _ (T32.setTop (mkF m 63 #[.val (.long q0), .second, .val (.int q1), .val (.int q2), .val (.int (1 : Int32)), .unset, .unset, .unset, .unset, .unset, .unset] [(.ref nb24)]))
    refine own_by (fun _ k => XS.dup X32.here hx rfl (hb hby at_63) rfl rfl k) ?_
    show OEnds p e below s _ _ _ (T32.setTop (mkF m 64 #[.val (.long q0), .second, .val (.int q1), .val (.int q2), .val (.int (1 : Int32)), .unset, .unset, .unset, .unset, .unset, .unset] [(.ref nb24), (.ref nb24)]))
    refine own_by (fun _ k => XS.bipush X32.here hx rfl (hb hby at_64) k) ?_
    show OEnds p e below s _ _ _ (T32.setTop (mkF m 66 #[.val (.long q0), .second, .val (.int q1), .val (.int q2), .val (.int (1 : Int32)), .unset, .unset, .unset, .unset, .unset, .unset] [(.int (8 : Int32)), (.ref nb24), (.ref nb24)]))
    refine own_by (X32.ldc2Long hx hown (mvT hZ (hw _ (List.mem_of_getElem? (i := 7) rfl))) (g := (mkF m 66 #[.val (.long q0), .second, .val (.int q1), .val (.int q2), .val (.int (1 : Int32)), .unset, .unset, .unset, .unset, .unset, .unset] [(.int (8 : Int32)), (.ref nb24), (.ref nb24)])) rfl (hb hby at_66)) ?_
    show OEnds p e below s _ _ _ (T32.setTop (mkF m 69 #[.val (.long q0), .second, .val (.int q1), .val (.int q2), .val (.int (1 : Int32)), .unset, .unset, .unset, .unset, .unset, .unset] [(.long (31 : Int64)), (.int (8 : Int32)), (.ref nb24), (.ref nb24)]))
    obtain ⟨T33, h33, X33, e33, W33, st33⟩ := own_lastore X32 hx hZ e32 F32 8 (by decide) (by decide) (g := (mkF m 69 #[.val (.long q0), .second, .val (.int q1), .val (.int q2), .val (.int (1 : Int32)), .unset, .unset, .unset, .unset, .unset, .unset] [(.long (31 : Int64)), (.int (8 : Int32)), (.ref nb24), (.ref nb24)])) rfl rfl (hb hby at_69)
    refine own_by (st33) ?_
    have F33 : FA Z h33 nb24 .long 16 (fun i => .long ((updL (updL f31 7 (13 : Int64)) 8 (31 : Int64)) i)) := F32.setL W33
    have N33 := Fr.snoc X33 N32 g_nb24
    have Z33 : n0 ≤ h33.size := Nat.le_trans Z32 (Keep.of_wr W33).1
    show OEnds p e below s _ _ _ (T33.setTop (mkF m 70 #[.val (.long q0), .second, .val (.int q1), .val (.int q2), .val (.int (1 : Int32)), .unset, .unset, .unset, .unset, .unset, .unset] [(.ref nb24)]))
    refine own_by (fun _ k => XS.dup X33.here hx rfl (hb hby at_70) rfl rfl k) ?_
    show OEnds p e below s _ _ _ (T33.setTop (mkF m 71 #[.val (.long q0), .second, .val (.int q1), .val (.int q2), .val (.int (1 : Int32)), .unset, .unset, .unset, .unset, .unset, .unset] [(.ref nb24), (.ref nb24)]))
    refine own_by (fun _ k => XS.bipush X33.here hx rfl (hb hby at_71) k) ?_
    show OEnds p e below s _ _ _ (T33.setTop (mkF m 73 #[.val (.long q0), .second, .val (.int q1), .val (.int q2), .val (.int (1 : Int32)), .unset, .unset, .unset, .unset, .unset, .unset] [(.int (9 : Int32)), (.ref nb24), (.ref nb24)]))
    refine own_by (X33.ldc2Long hx hown (mvT hZ (hw _ (List.mem_of_getElem? (i := 8) rfl))) (g := (mkF m 73 #[.val (.long q0), .second, .val (.int q1), .val (.int q2), .val (.int (1 : Int32)), .unset, .unset, .unset, .unset, .unset, .unset] [(.int (9 : Int32)), (.ref nb24), (.ref nb24)])) rfl (hb hby at_73)) ?_
    show OEnds p e below s _ _ _ (T33.setTop (mkF m 76 #[.val (.long q0), .second, .val (.int q1), .val (.int q2), .val (.int (1 : Int32)), .unset, .unset, .unset, .unset, .unset, .unset] [(.long (32 : Int64)), (.int (9 : Int32)), (.ref nb24), (.ref nb24)]))
    obtain ⟨T34, h34, X34, e34, W34, st34⟩ := own_lastore X33 hx hZ e33 F33 9 (by decide) (by decide) (g := (mkF m 76 #[.val (.long q0), .second, .val (.int q1), .val (.int q2), .val (.int (1 : Int32)), .unset, .unset, .unset, .unset, .unset, .unset] [(.long (32 : Int64)), (.int (9 : Int32)), (.ref nb24), (.ref nb24)])) rfl rfl (hb hby at_76)
    refine own_by (st34) ?_
    have F34 : FA Z h34 nb24 .long 16 (fun i => .long ((updL (updL (updL f31 7 (13 : Int64)) 8 (31 : Int64)) 9 (32 : Int64)) i)) := F33.setL W34
    obtain ⟨f34, ef34⟩ : ∃ f : Nat → Int64, f = (updL (updL (updL f31 7 (13 : Int64)) 8 (31 : Int64)) 9 (32 : Int64)) := ⟨_, rfl⟩
    rw [← ef34] at F34
    have N34 := Fr.snoc X34 N33 g_nb24
    have Z34 : n0 ≤ h34.size := Nat.le_trans Z33 (Keep.of_wr W34).1
    show OEnds p e below s _ _ _ (T34.setTop (mkF m 77 #[.val (.long q0), .second, .val (.int q1), .val (.int q2), .val (.int (1 : Int32)), .unset, .unset, .unset, .unset, .unset, .unset] [(.ref nb24)]))
    refine own_by (fun _ k => XS.dup X34.here hx rfl (hb hby at_77) rfl rfl k) ?_
    show OEnds p e below s _ _ _ (T34.setTop (mkF m 78 #[.val (.long q0), .second, .val (.int q1), .val (.int q2), .val (.int (1 : Int32)), .unset, .unset, .unset, .unset, .unset, .unset] [(.ref nb24), (.ref nb24)]))
    refine own_by (fun _ k => XS.bipush X34.here hx rfl (hb hby at_78) k) ?_
    show OEnds p e below s _ _ _ (T34.setTop (mkF m 80 #[.val (.long q0), .second, .val (.int q1), .val (.int q2), .val (.int (1 : Int32)), .unset, .unset, .unset, .unset, .unset, .unset] [(.int (10 : Int32)), (.ref nb24), (.ref nb24)]))
    refine own_by (X34.ldc2Long hx hown (mvT hZ (hw _ (List.mem_of_getElem? (i := 9) rfl))) (g := (mkF m 80 #[.val (.long q0), .second, .val (.int q1), .val (.int q2), .val (.int (1 : Int32)), .unset, .unset, .unset, .unset, .unset, .unset] [(.int (10 : Int32)), (.ref nb24), (.ref nb24)])) rfl (hb hby at_80)) ?_
    show OEnds p e below s _ _ _ (T34.setTop (mkF m 83 #[.val (.long q0), .second, .val (.int q1), .val (.int q2), .val (.int (1 : Int32)), .unset, .unset, .unset, .unset, .unset, .unset] [(.long (55295 : Int64)), (.int (10 : Int32)), (.ref nb24), (.ref nb24)]))
    obtain ⟨T35, h35, X35, e35, W35, st35⟩ := own_lastore X34 hx hZ e34 F34 10 (by decide) (by decide) (g := (mkF m 83 #[.val (.long q0), .second, .val (.int q1), .val (.int q2), .val (.int (1 : Int32)), .unset, .unset, .unset, .unset, .unset, .unset] [(.long (55295 : Int64)), (.int (10 : Int32)), (.ref nb24), (.ref nb24)])) rfl rfl (hb hby at_83)
    refine own_by (st35) ?_
    have F35 : FA Z h35 nb24 .long 16 (fun i => .long ((updL f34 10 (55295 : Int64)) i)) := F34.setL W35
    have N35 := Fr.snoc X35 N34 g_nb24
    have Z35 : n0 ≤ h35.size := Nat.le_trans Z34 (Keep.of_wr W35).1
    show OEnds p e below s _ _ _ (T35.setTop (mkF m 84 #[.val (.long q0), .second, .val (.int q1), .val (.int q2), .val (.int (1 : Int32)), .unset, .unset, .unset, .unset, .unset, .unset] [(.ref nb24)]))
    refine own_by (fun _ k => XS.dup X35.here hx rfl (hb hby at_84) rfl rfl k) ?_
    show OEnds p e below s _ _ _ (T35.setTop (mkF m 85 #[.val (.long q0), .second, .val (.int q1), .val (.int q2), .val (.int (1 : Int32)), .unset, .unset, .unset, .unset, .unset, .unset] [(.ref nb24), (.ref nb24)]))
    refine own_by (fun _ k => XS.bipush X35.here hx rfl (hb hby at_85) k) ?_
    show OEnds p e below s _ _ _ (T35.setTop (mkF m 87 #[.val (.long q0), .second, .val (.int q1), .val (.int q2), .val (.int (1 : Int32)), .unset, .unset, .unset, .unset, .unset, .unset] [(.int (11 : Int32)), (.ref nb24), (.ref nb24)]))
    refine own_by (X35.ldc2Long hx hown (mvT hZ (hw _ (List.mem_of_getElem? (i := 10) rfl))) (g := (mkF m 87 #[.val (.long q0), .second, .val (.int q1), .val (.int q2), .val (.int (1 : Int32)), .unset, .unset, .unset, .unset, .unset, .unset] [(.int (11 : Int32)), (.ref nb24), (.ref nb24)])) rfl (hb hby at_87)) ?_
    show OEnds p e below s _ _ _ (T35.setTop (mkF m 90 #[.val (.long q0), .second, .val (.int q1), .val (.int q2), .val (.int (1 : Int32)), .unset, .unset, .unset, .unset, .unset, .unset] [(.long (57344 : Int64)), (.int (11 : Int32)), (.ref nb24), (.ref nb24)]))
    obtain ⟨T36, h36, X36, e36, W36, st36⟩ := own_lastore X35 hx hZ e35 F35 11 (by decide) (by decide) (g := (mkF m 90 #[.val (.long q0), .second, .val (.int q1), .val (.int q2), .val (.int (1 : Int32)), .unset, .unset, .unset, .unset, .unset, .unset] [(.long (57344 : Int64)), (.int (11 : Int32)), (.ref nb24), (.ref nb24)])) rfl rfl (hb hby at_90)
    refine own_by (st36) ?_
    have F36 : FA Z h36 nb24 .long 16 (fun i => .long ((updL (updL f34 10 (55295 : Int64)) 11 (57344 : Int64)) i)) := F35.setL W36
    have N36 := Fr.snoc X36 N35 g_nb24
    have Z36 : n0 ≤ h36.size := Nat.le_trans Z35 (Keep.of_wr W36).1
    show OEnds p e below s _ _ _ (T36.setTop (mkF m 91 #[.val (.long q0), .second, .val (.int q1), .val (.int q2), .val (.int (1 : Int32)), .unset, .unset, .unset, .unset, .unset, .unset] [(.ref nb24)]))
    refine own_by (fun _ k => XS.dup X36.here hx rfl (hb hby at_91) rfl rfl k) ?_
    show OEnds p e below s _ _ _ (T36.setTop (mkF m 92 #[.val (.long q0), .second, .val (.int q1), .val (.int q2), .val (.int (1 : Int32)), .unset, .unset, .unset, .unset, .unset, .unset] [(.ref nb24), (.ref nb24)]))
    refine own_by (fun _ k => XS.bipush X36.here hx rfl (hb hby at_92) k) ?_
    show OEnds p e below s _ _ _ (T36.setTop (mkF m 94 #[.val (.long q0), .second, .val (.int q1), .val (.int q2), .val (.int (1 : Int32)), .unset, .unset, .unset, .unset, .unset, .unset] [(.int (12 : Int32)), (.ref nb24), (.ref nb24)]))
    refine own_by (X36.ldc2Long hx hown (mvT hZ (hw _ (List.mem_of_getElem? (i := 11) rfl))) (g := (mkF m 94 #[.val (.long q0), .second, .val (.int q1), .val (.int q2), .val (.int (1 : Int32)), .unset, .unset, .unset, .unset, .unset, .unset] [(.int (12 : Int32)), (.ref nb24), (.ref nb24)])) rfl (hb hby at_94)) ?_
    show OEnds p e below s _ _ _ (T36.setTop (mkF m 97 #[.val (.long q0), .second, .val (.int q1), .val (.int q2), .val (.int (1 : Int32)), .unset, .unset, .unset, .unset, .unset, .unset] [(.long (65533 : Int64)), (.int (12 : Int32)), (.ref nb24), (.ref nb24)]))
    obtain ⟨T37, h37, X37, e37, W37, st37⟩ := own_lastore X36 hx hZ e36 F36 12 (by decide) (by decide) (g := (mkF m 97 #[.val (.long q0), .second, .val (.int q1), .val (.int q2), .val (.int (1 : Int32)), .unset, .unset, .unset, .unset, .unset, .unset] [(.long (65533 : Int64)), (.int (12 : Int32)), (.ref nb24), (.ref nb24)])) rfl rfl (hb hby at_97)
    refine own_by (st37) ?_
    have F37 : FA Z h37 nb24 .long 16 (fun i => .long ((updL (updL (updL f34 10 (55295 : Int64)) 11 (57344 : Int64)) 12 (65533 : Int64)) i)) := F36.setL W37
    obtain ⟨f37, ef37⟩ : ∃ f : Nat → Int64, f = (updL (updL (updL f34 10 (55295 : Int64)) 11 (57344 : Int64)) 12 (65533 : Int64)) := ⟨_, rfl⟩
    rw [← ef37] at F37
    have N37 := Fr.snoc X37 N36 g_nb24
    have Z37 : n0 ≤ h37.size := Nat.le_trans Z36 (Keep.of_wr W37).1
    show OEnds p e below s _ _ _ (T37.setTop (mkF m 98 #[.val (.long q0), .second, .val (.int q1), .val (.int q2), .val (.int (1 : Int32)), .unset, .unset, .unset, .unset, .unset, .unset] [(.ref nb24)]))
    refine own_by (fun _ k => XS.dup X37.here hx rfl (hb hby at_98) rfl rfl k) ?_
    show OEnds p e below s _ _ _ (T37.setTop (mkF m 99 #[.val (.long q0), .second, .val (.int q1), .val (.int q2), .val (.int (1 : Int32)), .unset, .unset, .unset, .unset, .unset, .unset] [(.ref nb24), (.ref nb24)]))
    refine own_by (fun _ k => XS.bipush X37.here hx rfl (hb hby at_99) k) ?_
    show OEnds p e below s _ _ _ (T37.setTop (mkF m 101 #[.val (.long q0), .second, .val (.int q1), .val (.int q2), .val (.int (1 : Int32)), .unset, .unset, .unset, .unset, .unset, .unset] [(.int (13 : Int32)), (.ref nb24), (.ref nb24)]))
    refine own_by (X37.ldc2Long hx hown (mvT hZ (hw _ (List.mem_of_getElem? (i := 12) rfl))) (g := (mkF m 101 #[.val (.long q0), .second, .val (.int q1), .val (.int q2), .val (.int (1 : Int32)), .unset, .unset, .unset, .unset, .unset, .unset] [(.int (13 : Int32)), (.ref nb24), (.ref nb24)])) rfl (hb hby at_101)) ?_
    show OEnds p e below s _ _ _ (T37.setTop (mkF m 104 #[.val (.long q0), .second, .val (.int q1), .val (.int q2), .val (.int (1 : Int32)), .unset, .unset, .unset, .unset, .unset, .unset] [(.long (65536 : Int64)), (.int (13 : Int32)), (.ref nb24), (.ref nb24)]))
    obtain ⟨T38, h38, X38, e38, W38, st38⟩ := own_lastore X37 hx hZ e37 F37 13 (by decide) (by decide) (g := (mkF m 104 #[.val (.long q0), .second, .val (.int q1), .val (.int q2), .val (.int (1 : Int32)), .unset, .unset, .unset, .unset, .unset, .unset] [(.long (65536 : Int64)), (.int (13 : Int32)), (.ref nb24), (.ref nb24)])) rfl rfl (hb hby at_104)
    refine own_by (st38) ?_
    have F38 : FA Z h38 nb24 .long 16 (fun i => .long ((updL f37 13 (65536 : Int64)) i)) := F37.setL W38
    have N38 := Fr.snoc X38 N37 g_nb24
    have Z38 : n0 ≤ h38.size := Nat.le_trans Z37 (Keep.of_wr W38).1
    show OEnds p e below s _ _ _ (T38.setTop (mkF m 105 #[.val (.long q0), .second, .val (.int q1), .val (.int q2), .val (.int (1 : Int32)), .unset, .unset, .unset, .unset, .unset, .unset] [(.ref nb24)]))
    refine own_by (fun _ k => XS.dup X38.here hx rfl (hb hby at_105) rfl rfl k) ?_
    show OEnds p e below s _ _ _ (T38.setTop (mkF m 106 #[.val (.long q0), .second, .val (.int q1), .val (.int q2), .val (.int (1 : Int32)), .unset, .unset, .unset, .unset, .unset, .unset] [(.ref nb24), (.ref nb24)]))
    refine own_by (fun _ k => XS.bipush X38.here hx rfl (hb hby at_106) k) ?_
    show OEnds p e below s _ _ _ (T38.setTop (mkF m 108 #[.val (.long q0), .second, .val (.int q1), .val (.int q2), .val (.int (1 : Int32)), .unset, .unset, .unset, .unset, .unset, .unset] [(.int (14 : Int32)), (.ref nb24), (.ref nb24)]))
    refine own_by (X38.ldc2Long hx hown (mvT hZ (hw _ (List.mem_of_getElem? (i := 13) rfl))) (g := (mkF m 108 #[.val (.long q0), .second, .val (.int q1), .val (.int q2), .val (.int (1 : Int32)), .unset, .unset, .unset, .unset, .unset, .unset] [(.int (14 : Int32)), (.ref nb24), (.ref nb24)])) rfl (hb hby at_108)) ?_
    show OEnds p e below s _ _ _ (T38.setTop (mkF m 111 #[.val (.long q0), .second, .val (.int q1), .val (.int q2), .val (.int (1 : Int32)), .unset, .unset, .unset, .unset, .unset, .unset] [(.long (1114111 : Int64)), (.int (14 : Int32)), (.ref nb24), (.ref nb24)]))
    obtain ⟨T39, h39, X39, e39, W39, st39⟩ := own_lastore X38 hx hZ e38 F38 14 (by decide) (by decide) (g := (mkF m 111 #[.val (.long q0), .second, .val (.int q1), .val (.int q2), .val (.int (1 : Int32)), .unset, .unset, .unset, .unset, .unset, .unset] [(.long (1114111 : Int64)), (.int (14 : Int32)), (.ref nb24), (.ref nb24)])) rfl rfl (hb hby at_111)
    refine own_by (st39) ?_
    have F39 : FA Z h39 nb24 .long 16 (fun i => .long ((updL (updL f37 13 (65536 : Int64)) 14 (1114111 : Int64)) i)) := F38.setL W39
    have N39 := Fr.snoc X39 N38 g_nb24
    have Z39 : n0 ≤ h39.size := Nat.le_trans Z38 (Keep.of_wr W39).1
    show OEnds p e below s _ _ _ (T39.setTop (mkF m 112 #[.val (.long q0), .second, .val (.int q1), .val (.int q2), .val (.int (1 : Int32)), .unset, .unset, .unset, .unset, .unset, .unset] [(.ref nb24)]))
    refine own_by (fun _ k => XS.dup X39.here hx rfl (hb hby at_112) rfl rfl k) ?_
    show OEnds p e below s _ _ _ (T39.setTop (mkF m 113 #[.val (.long q0), .second, .val (.int q1), .val (.int q2), .val (.int (1 : Int32)), .unset, .unset, .unset, .unset, .unset, .unset] [(.ref nb24), (.ref nb24)]))
    refine own_by (fun _ k => XS.bipush X39.here hx rfl (hb hby at_113) k) ?_
    show OEnds p e below s _ _ _ (T39.setTop (mkF m 115 #[.val (.long q0), .second, .val (.int q1), .val (.int q2), .val (.int (1 : Int32)), .unset, .unset, .unset, .unset, .unset, .unset] [(.int (15 : Int32)), (.ref nb24), (.ref nb24)]))
    refine own_by (X39.ldc2Long hx hown (mvT hZ (hw _ (List.mem_of_getElem? (i := 14) rfl))) (g := (mkF m 115 #[.val (.long q0), .second, .val (.int q1), .val (.int q2), .val (.int (1 : Int32)), .unset, .unset, .unset, .unset, .unset, .unset] [(.int (15 : Int32)), (.ref nb24), (.ref nb24)])) rfl (hb hby at_115)) ?_
    show OEnds p e below s _ _ _ (T39.setTop (mkF m 118 #[.val (.long q0), .second, .val (.int q1), .val (.int q2), .val (.int (1 : Int32)), .unset, .unset, .unset, .unset, .unset, .unset] [(.long (9223372036854775807 : Int64)), (.int (15 : Int32)), (.ref nb24), (.ref nb24)]))
    obtain ⟨T40, h40, X40, e40, W40, st40⟩ := own_lastore X39 hx hZ e39 F39 15 (by decide) (by decide) (g := (mkF m 118 #[.val (.long q0), .second, .val (.int q1), .val (.int q2), .val (.int (1 : Int32)), .unset, .unset, .unset, .unset, .unset, .unset] [(.long (9223372036854775807 : Int64)), (.int (15 : Int32)), (.ref nb24), (.ref nb24)])) rfl rfl (hb hby at_118)
    refine own_by (st40) ?_
    have F40 : FA Z h40 nb24 .long 16 (fun i => .long ((updL (updL (updL f37 13 (65536 : Int64)) 14 (1114111 : Int64)) 15 (9223372036854775807 : Int64)) i)) := F39.setL W40
    obtain ⟨f40, ef40⟩ : ∃ f : Nat → Int64, f = (updL (updL (updL f37 13 (65536 : Int64)) 14 (1114111 : Int64)) 15 (9223372036854775807 : Int64)) := ⟨_, rfl⟩
    rw [← ef40] at F40
    have N40 := Fr.snoc X40 N39 g_nb24
    have Z40 : n0 ≤ h40.size := Nat.le_trans Z39 (Keep.of_wr W40).1
    show OEnds p e below s _ _ _ (T40.setTop (mkF m 119 #[.val (.long q0), .second, .val (.int q1), .val (.int q2), .val (.int (1 : Int32)), .unset, .unset, .unset, .unset, .unset, .unset] [(.ref nb24)]))
    refine own_by (fun _ k => XS.astore X40.here hx rfl (hb hby at_119) rfl rfl (l' := #[.val (.long q0), .second, .val (.int q1), .val (.int q2), .val (.int (1 : Int32)), .val (.ref nb24), .unset, .unset, .unset, .unset, .unset]) rfl k) ?_
    show OEnds p e below s _ _ _ (T40.setTop (mkF m 121 #[.val (.long q0), .second, .val (.int q1), .val (.int q2), .val (.int (1 : Int32)), .val (.ref nb24), .unset, .unset, .unset, .unset, .unset] []))
    refine own_by (fun _ k => XS.iloadN X40.here hx rfl (hb hby at_121) rfl k) ?_
    show OEnds p e below s _ _ _ (T40.setTop (mkF m 122 #[.val (.long q0), .second, .val (.int q1), .val (.int q2), .val (.int (1 : Int32)), .val (.ref nb24), .unset, .unset, .unset, .unset, .unset] [(.int q2)]))
    refine own_by (fun _ k => XS.iconst X40.here hx rfl (hb hby at_122) k) ?_
    show OEnds p e below s _ _ _ (T40.setTop (mkF m 123 #[.val (.long q0), .second, .val (.int q1), .val (.int q2), .val (.int (1 : Int32)), .val (.ref nb24), .unset, .unset, .unset, .unset, .unset] [(.int (1 : Int32)), (.int q2)]))
    refine own_by (fun _ k => XS.iand X40.here hx rfl (hb hby at_123) rfl k) ?_
    show OEnds p e below s _ _ _ (T40.setTop (mkF m 124 #[.val (.long q0), .second, .val (.int q1), .val (.int q2), .val (.int (1 : Int32)), .val (.ref nb24), .unset, .unset, .unset, .unset, .unset] [(.int (q2 &&& (1 : Int32)))]))
    by_cases hc124_41 : (q2 &&& (1 : Int32)) = (0 : Int32)
    · refine own_by (fun _ k => XS.ifNo X40.here hx rfl (hb hby at_124) rfl ((if0 _ _).trans (teq hc124_41).2) k) ?_
      show OEnds p e below s _ _ _ (T40.setTop (mkF m 127 #[.val (.long q0), .second, .val (.int q1), .val (.int q2), .val (.int (1 : Int32)), .val (.ref nb24), .unset, .unset, .unset, .unset, .unset] []))
      refine own_by (fun _ k => XS.lloadN X40.here hx rfl (hb hby at_127) rfl k) ?_
      show OEnds p e below s _ _ _ (T40.setTop (mkF m 128 #[.val (.long q0), .second, .val (.int q1), .val (.int q2), .val (.int (1 : Int32)), .val (.ref nb24), .unset, .unset, .unset, .unset, .unset] [(.long q0)]))
      refine own_by (fun _ k => XS.lstore X40.here hx rfl (hb hby at_128) rfl (l' := #[.val (.long q0), .second, .val (.int q1), .val (.int q2), .val (.int (1 : Int32)), .val (.ref nb24), .val (.long q0), .second, .unset, .unset, .unset]) rfl k) ?_
      show OEnds p e below s _ _ _ (T40.setTop (mkF m 130 #[.val (.long q0), .second, .val (.int q1), .val (.int q2), .val (.int (1 : Int32)), .val (.ref nb24), .val (.long q0), .second, .unset, .unset, .unset] []))
      refine own_by (fun _ k => XS.goto X40.here hx rfl (pc0 := 130) (pc' := 161) rfl (hb hby at_130) (by decide) (by decide) k) ?_
      show OEnds p e below s _ _ _ (T40.setTop (mkF m 161 #[.val (.long q0), .second, .val (.int q1), .val (.int q2), .val (.int (1 : Int32)), .val (.ref nb24), .val (.long q0), .second, .unset, .unset, .unset] []))
      refine own_by (fun _ k => XS.lload X40.here hx rfl (hb hby at_161) rfl k) ?_
      show OEnds p e below s _ _ _ (T40.setTop (mkF m 163 #[.val (.long q0), .second, .val (.int q1), .val (.int q2), .val (.int (1 : Int32)), .val (.ref nb24), .val (.long q0), .second, .unset, .unset, .unset] [(.long q0)]))
      refine own_by (fun _ k => XS.iload X40.here hx rfl (hb hby at_163) rfl k) ?_
      show OEnds p e below s _ _ _ (T40.setTop (mkF m 165 #[.val (.long q0), .second, .val (.int q1), .val (.int q2), .val (.int (1 : Int32)), .val (.ref nb24), .val (.long q0), .second, .unset, .unset, .unset] [(.int (1 : Int32)), (.long q0)]))
      obtain ⟨T42, X42, e42, st42⟩ := own_callP X40 hx hZ (y := (⟨"com/example/boughcheck/boughcheck/DefaultReferences", "allowed", "(JZ)Z"⟩ : MethodName)) hown (hw _ (List.mem_of_getElem? (i := 15) rfl)) (hw _ (List.mem_of_getElem? (i := 16) rfl)) (hw _ (List.mem_of_getElem? (i := 17) rfl)) (hw _ (List.mem_of_getElem? (i := 18) rfl)) (by decide) (rm_allowed l Z a0 hw [] q0 (1 : Int32) h40) e40 (g := (mkF m 165 #[.val (.long q0), .second, .val (.int q1), .val (.int q2), .val (.int (1 : Int32)), .val (.ref nb24), .val (.long q0), .second, .unset, .unset, .unset] [(.int (1 : Int32)), (.long q0)])) rfl (by rw [hml]; rfl) (argsL := [(.long q0), (.int (1 : Int32))]) (rest := []) (lenOf pd_pJZrZ rfl) rfl (W := 0) (by show 2 * 0 + _ ≤ _; exact Nat.le_of_eq rfl) (hb hby at_165) (by decide) (by decide) (by decide) (by decide)
      refine own_by (st42) ?_
      show OEnds p e below s _ _ _ (T42.setTop (mkF m 168 #[.val (.long q0), .second, .val (.int q1), .val (.int q2), .val (.int (1 : Int32)), .val (.ref nb24), .val (.long q0), .second, .unset, .unset, .unset] [(.int (allowed q0 (1 : Int32)))]))
      refine own_by (fun _ k => XS.lload X42.here hx rfl (hb hby at_168) rfl k) ?_
      show OEnds p e below s _ _ _ (T42.setTop (mkF m 170 #[.val (.long q0), .second, .val (.int q1), .val (.int q2), .val (.int (1 : Int32)), .val (.ref nb24), .val (.long q0), .second, .unset, .unset, .unset] [(.long q0), (.int (allowed q0 (1 : Int32)))]))
      refine own_by (fun _ k => XS.iload X42.here hx rfl (hb hby at_170) rfl k) ?_
      show OEnds p e below s _ _ _ (T42.setTop (mkF m 172 #[.val (.long q0), .second, .val (.int q1), .val (.int q2), .val (.int (1 : Int32)), .val (.ref nb24), .val (.long q0), .second, .unset, .unset, .unset] [(.int (1 : Int32)), (.long q0), (.int (allowed q0 (1 : Int32)))]))
      obtain ⟨T43, X43, e43, st43⟩ := own_callP X42 hx hZ (y := (⟨"com/example/boughcheck/boughcheck/DefaultReferencesAllowedPinLaw", "reference", "(JZ)Z"⟩ : MethodName)) hown (hw _ (List.mem_of_getElem? (i := 28) rfl)) (hw _ (List.mem_of_getElem? (i := 29) rfl)) (hw _ (List.mem_of_getElem? (i := 30) rfl)) (hw _ (List.mem_of_getElem? (i := 31) rfl)) (by decide) (rm_refc l Z a0 hw [] q0 (1 : Int32) h40) e42 (g := (mkF m 172 #[.val (.long q0), .second, .val (.int q1), .val (.int q2), .val (.int (1 : Int32)), .val (.ref nb24), .val (.long q0), .second, .unset, .unset, .unset] [(.int (1 : Int32)), (.long q0), (.int (allowed q0 (1 : Int32)))])) rfl (by rw [hml]; rfl) (argsL := [(.long q0), (.int (1 : Int32))]) (rest := [(.int (allowed q0 (1 : Int32)))]) (lenOf pd_pJZrZ rfl) rfl (W := 1) (by show 2 * 0 + _ ≤ _; exact Nat.le_of_eq rfl) (hb hby at_172) (by decide) (by decide) (by decide) (by decide)
      refine own_by (st43) ?_
      show OEnds p e below s _ _ _ (T43.setTop (mkF m 175 #[.val (.long q0), .second, .val (.int q1), .val (.int q2), .val (.int (1 : Int32)), .val (.ref nb24), .val (.long q0), .second, .unset, .unset, .unset] [(.int (refc q0 (1 : Int32))), (.int (allowed q0 (1 : Int32)))]))
      refine own_by (fun _ k => XS.icmpNo X43.here hx rfl (hb hby at_175) rfl (teq (own_same _ _ (by decide))).2 k) ?_
      show OEnds p e below s _ _ _ (T43.setTop (mkF m 178 #[.val (.long q0), .second, .val (.int q1), .val (.int q2), .val (.int (1 : Int32)), .val (.ref nb24), .val (.long q0), .second, .unset, .unset, .unset] []))
      refine own_by (fun _ k => XS.iconst X43.here hx rfl (hb hby at_178) k) ?_
      show OEnds p e below s _ _ _ (T43.setTop (mkF m 179 #[.val (.long q0), .second, .val (.int q1), .val (.int q2), .val (.int (1 : Int32)), .val (.ref nb24), .val (.long q0), .second, .unset, .unset, .unset] [(.int (1 : Int32))]))
      refine own_by (fun _ k => XS.goto X43.here hx rfl (pc0 := 179) (pc' := 183) rfl (hb hby at_179) (by decide) (by decide) k) ?_
      show OEnds p e below s _ _ _ (T43.setTop (mkF m 183 #[.val (.long q0), .second, .val (.int q1), .val (.int q2), .val (.int (1 : Int32)), .val (.ref nb24), .val (.long q0), .second, .unset, .unset, .unset] [(.int (1 : Int32))]))
      exact own_retN X43 hx hlk .boolean (by simp) Bd.returns (hb hby at_183) ⟨rfl, N40⟩ (by decide) (by decide)
    · refine own_by (fun _ k => XS.ifYes X40.here hx rfl (pc0 := 124) (pc' := 133) rfl (hb hby at_124) rfl ((if0 _ _).trans (feq hc124_41).2) (by decide) (by decide) k) ?_
      show OEnds p e below s _ _ _ (T40.setTop (mkF m 133 #[.val (.long q0), .second, .val (.int q1), .val (.int q2), .val (.int (1 : Int32)), .val (.ref nb24), .unset, .unset, .unset, .unset, .unset] []))
      refine own_by (fun _ k => XS.iloadN X40.here hx rfl (hb hby at_133) rfl k) ?_
      show OEnds p e below s _ _ _ (T40.setTop (mkF m 134 #[.val (.long q0), .second, .val (.int q1), .val (.int q2), .val (.int (1 : Int32)), .val (.ref nb24), .unset, .unset, .unset, .unset, .unset] [(.int q2)]))
      refine own_by (fun _ k => XS.iconst X40.here hx rfl (hb hby at_134) k) ?_
      show OEnds p e below s _ _ _ (T40.setTop (mkF m 135 #[.val (.long q0), .second, .val (.int q1), .val (.int q2), .val (.int (1 : Int32)), .val (.ref nb24), .unset, .unset, .unset, .unset, .unset] [(.int (1 : Int32)), (.int q2)]))
      refine own_by (fun _ k => XS.iushr X40.here hx rfl (hb hby at_135) rfl k) ?_
      show OEnds p e below s _ _ _ (T40.setTop (mkF m 136 #[.val (.long q0), .second, .val (.int q1), .val (.int q2), .val (.int (1 : Int32)), .val (.ref nb24), .unset, .unset, .unset, .unset, .unset] [(.int ((q2.toUInt32 >>> ((1 : Int32) &&& 31).toUInt32).toInt32))]))
      refine own_by (fun _ k => XS.bipush X40.here hx rfl (hb hby at_136) k) ?_
      show OEnds p e below s _ _ _ (T40.setTop (mkF m 138 #[.val (.long q0), .second, .val (.int q1), .val (.int q2), .val (.int (1 : Int32)), .val (.ref nb24), .unset, .unset, .unset, .unset, .unset] [(.int (15 : Int32)), (.int ((q2.toUInt32 >>> ((1 : Int32) &&& 31).toUInt32).toInt32))]))
      refine own_by (fun _ k => XS.iand X40.here hx rfl (hb hby at_138) rfl k) ?_
      show OEnds p e below s _ _ _ (T40.setTop (mkF m 139 #[.val (.long q0), .second, .val (.int q1), .val (.int q2), .val (.int (1 : Int32)), .val (.ref nb24), .unset, .unset, .unset, .unset, .unset] [(.int (((q2.toUInt32 >>> ((1 : Int32) &&& 31).toUInt32).toInt32) &&& (15 : Int32)))]))
      refine own_by (fun _ k => XS.istore X40.here hx rfl (hb hby at_139) rfl (l' := #[.val (.long q0), .second, .val (.int q1), .val (.int q2), .val (.int (1 : Int32)), .val (.ref nb24), .unset, .unset, .val (.int (((q2.toUInt32 >>> ((1 : Int32) &&& 31).toUInt32).toInt32) &&& (15 : Int32))), .unset, .unset]) rfl k) ?_
      show OEnds p e below s _ _ _ (T40.setTop (mkF m 141 #[.val (.long q0), .second, .val (.int q1), .val (.int q2), .val (.int (1 : Int32)), .val (.ref nb24), .unset, .unset, .val (.int (((q2.toUInt32 >>> ((1 : Int32) &&& 31).toUInt32).toInt32) &&& (15 : Int32))), .unset, .unset] []))
      refine own_by (fun _ k => XS.iloadN X40.here hx rfl (hb hby at_141) rfl k) ?_
      show OEnds p e below s _ _ _ (T40.setTop (mkF m 142 #[.val (.long q0), .second, .val (.int q1), .val (.int q2), .val (.int (1 : Int32)), .val (.ref nb24), .unset, .unset, .val (.int (((q2.toUInt32 >>> ((1 : Int32) &&& 31).toUInt32).toInt32) &&& (15 : Int32))), .unset, .unset] [(.int q2)]))
      refine own_by (fun _ k => XS.iconst X40.here hx rfl (hb hby at_142) k) ?_
      show OEnds p e below s _ _ _ (T40.setTop (mkF m 143 #[.val (.long q0), .second, .val (.int q1), .val (.int q2), .val (.int (1 : Int32)), .val (.ref nb24), .unset, .unset, .val (.int (((q2.toUInt32 >>> ((1 : Int32) &&& 31).toUInt32).toInt32) &&& (15 : Int32))), .unset, .unset] [(.int (5 : Int32)), (.int q2)]))
      refine own_by (fun _ k => XS.iushr X40.here hx rfl (hb hby at_143) rfl k) ?_
      show OEnds p e below s _ _ _ (T40.setTop (mkF m 144 #[.val (.long q0), .second, .val (.int q1), .val (.int q2), .val (.int (1 : Int32)), .val (.ref nb24), .unset, .unset, .val (.int (((q2.toUInt32 >>> ((1 : Int32) &&& 31).toUInt32).toInt32) &&& (15 : Int32))), .unset, .unset] [(.int ((q2.toUInt32 >>> ((5 : Int32) &&& 31).toUInt32).toInt32))]))
      refine own_by (fun _ k => XS.iconst X40.here hx rfl (hb hby at_144) k) ?_
      show OEnds p e below s _ _ _ (T40.setTop (mkF m 145 #[.val (.long q0), .second, .val (.int q1), .val (.int q2), .val (.int (1 : Int32)), .val (.ref nb24), .unset, .unset, .val (.int (((q2.toUInt32 >>> ((1 : Int32) &&& 31).toUInt32).toInt32) &&& (15 : Int32))), .unset, .unset] [(.int (3 : Int32)), (.int ((q2.toUInt32 >>> ((5 : Int32) &&& 31).toUInt32).toInt32))]))
      refine own_by (fun _ k => iremM X40 hx rfl (hb hby at_145) rfl (by decide) k) ?_
      show OEnds p e below s _ _ _ (T40.setTop (mkF m 146 #[.val (.long q0), .second, .val (.int q1), .val (.int q2), .val (.int (1 : Int32)), .val (.ref nb24), .unset, .unset, .val (.int (((q2.toUInt32 >>> ((1 : Int32) &&& 31).toUInt32).toInt32) &&& (15 : Int32))), .unset, .unset] [(.int (((q2.toUInt32 >>> ((5 : Int32) &&& 31).toUInt32).toInt32) % (3 : Int32)))]))
      refine own_by (fun _ k => XS.i2l X40.here hx rfl (hb hby at_146) rfl k) ?_
      show OEnds p e below s _ _ _ (T40.setTop (mkF m 147 #[.val (.long q0), .second, .val (.int q1), .val (.int q2), .val (.int (1 : Int32)), .val (.ref nb24), .unset, .unset, .val (.int (((q2.toUInt32 >>> ((1 : Int32) &&& 31).toUInt32).toInt32) &&& (15 : Int32))), .unset, .unset] [(.long ((((q2.toUInt32 >>> ((5 : Int32) &&& 31).toUInt32).toInt32) % (3 : Int32)).toInt64))]))
      refine own_by (fun _ k => XS.lconst X40.here hx rfl (hb hby at_147) k) ?_
      show OEnds p e below s _ _ _ (T40.setTop (mkF m 148 #[.val (.long q0), .second, .val (.int q1), .val (.int q2), .val (.int (1 : Int32)), .val (.ref nb24), .unset, .unset, .val (.int (((q2.toUInt32 >>> ((1 : Int32) &&& 31).toUInt32).toInt32) &&& (15 : Int32))), .unset, .unset] [(.long (1 : Int64)), (.long ((((q2.toUInt32 >>> ((5 : Int32) &&& 31).toUInt32).toInt32) % (3 : Int32)).toInt64))]))
      refine own_by (fun _ k => XS.lsub X40.here hx rfl (hb hby at_148) rfl k) ?_
      show OEnds p e below s _ _ _ (T40.setTop (mkF m 149 #[.val (.long q0), .second, .val (.int q1), .val (.int q2), .val (.int (1 : Int32)), .val (.ref nb24), .unset, .unset, .val (.int (((q2.toUInt32 >>> ((1 : Int32) &&& 31).toUInt32).toInt32) &&& (15 : Int32))), .unset, .unset] [(.long (((((q2.toUInt32 >>> ((5 : Int32) &&& 31).toUInt32).toInt32) % (3 : Int32)).toInt64) - (1 : Int64)))]))
      refine own_by (fun _ k => XS.lstore X40.here hx rfl (hb hby at_149) rfl (l' := #[.val (.long q0), .second, .val (.int q1), .val (.int q2), .val (.int (1 : Int32)), .val (.ref nb24), .unset, .unset, .val (.int (((q2.toUInt32 >>> ((1 : Int32) &&& 31).toUInt32).toInt32) &&& (15 : Int32))), .val (.long (((((q2.toUInt32 >>> ((5 : Int32) &&& 31).toUInt32).toInt32) % (3 : Int32)).toInt64) - (1 : Int64))), .second]) rfl k) ?_
      show OEnds p e below s _ _ _ (T40.setTop (mkF m 151 #[.val (.long q0), .second, .val (.int q1), .val (.int q2), .val (.int (1 : Int32)), .val (.ref nb24), .unset, .unset, .val (.int (((q2.toUInt32 >>> ((1 : Int32) &&& 31).toUInt32).toInt32) &&& (15 : Int32))), .val (.long (((((q2.toUInt32 >>> ((5 : Int32) &&& 31).toUInt32).toInt32) % (3 : Int32)).toInt64) - (1 : Int64))), .second] []))
      refine own_by (fun _ k => XS.aload X40.here hx rfl (hb hby at_151) rfl rfl k) ?_
      show OEnds p e below s _ _ _ (T40.setTop (mkF m 153 #[.val (.long q0), .second, .val (.int q1), .val (.int q2), .val (.int (1 : Int32)), .val (.ref nb24), .unset, .unset, .val (.int (((q2.toUInt32 >>> ((1 : Int32) &&& 31).toUInt32).toInt32) &&& (15 : Int32))), .val (.long (((((q2.toUInt32 >>> ((5 : Int32) &&& 31).toUInt32).toInt32) % (3 : Int32)).toInt64) - (1 : Int64))), .second] [(.ref nb24)]))
      refine own_by (fun _ k => XS.iload X40.here hx rfl (hb hby at_153) rfl k) ?_
      show OEnds p e below s _ _ _ (T40.setTop (mkF m 155 #[.val (.long q0), .second, .val (.int q1), .val (.int q2), .val (.int (1 : Int32)), .val (.ref nb24), .unset, .unset, .val (.int (((q2.toUInt32 >>> ((1 : Int32) &&& 31).toUInt32).toInt32) &&& (15 : Int32))), .val (.long (((((q2.toUInt32 >>> ((5 : Int32) &&& 31).toUInt32).toInt32) % (3 : Int32)).toInt64) - (1 : Int64))), .second] [(.int (((q2.toUInt32 >>> ((1 : Int32) &&& 31).toUInt32).toInt32) &&& (15 : Int32))), (.ref nb24)]))
      refine own_by (own_laload X40 hx hZ e40 F40 (((q2.toUInt32 >>> ((1 : Int32) &&& 31).toUInt32).toInt32) &&& (15 : Int32)).toInt.toNat (own_idx q2).1 (own_idx q2).2 rfl (g := (mkF m 155 #[.val (.long q0), .second, .val (.int q1), .val (.int q2), .val (.int (1 : Int32)), .val (.ref nb24), .unset, .unset, .val (.int (((q2.toUInt32 >>> ((1 : Int32) &&& 31).toUInt32).toInt32) &&& (15 : Int32))), .val (.long (((((q2.toUInt32 >>> ((5 : Int32) &&& 31).toUInt32).toInt32) % (3 : Int32)).toInt64) - (1 : Int64))), .second] [(.int (((q2.toUInt32 >>> ((1 : Int32) &&& 31).toUInt32).toInt32) &&& (15 : Int32))), (.ref nb24)])) rfl rfl (hb hby at_155)) ?_
      show OEnds p e below s _ _ _ (T40.setTop (mkF m 156 #[.val (.long q0), .second, .val (.int q1), .val (.int q2), .val (.int (1 : Int32)), .val (.ref nb24), .unset, .unset, .val (.int (((q2.toUInt32 >>> ((1 : Int32) &&& 31).toUInt32).toInt32) &&& (15 : Int32))), .val (.long (((((q2.toUInt32 >>> ((5 : Int32) &&& 31).toUInt32).toInt32) % (3 : Int32)).toInt64) - (1 : Int64))), .second] [(.long (f40 (((q2.toUInt32 >>> ((1 : Int32) &&& 31).toUInt32).toInt32) &&& (15 : Int32)).toInt.toNat))]))
      refine own_by (fun _ k => XS.lload X40.here hx rfl (hb hby at_156) rfl k) ?_
      show OEnds p e below s _ _ _ (T40.setTop (mkF m 158 #[.val (.long q0), .second, .val (.int q1), .val (.int q2), .val (.int (1 : Int32)), .val (.ref nb24), .unset, .unset, .val (.int (((q2.toUInt32 >>> ((1 : Int32) &&& 31).toUInt32).toInt32) &&& (15 : Int32))), .val (.long (((((q2.toUInt32 >>> ((5 : Int32) &&& 31).toUInt32).toInt32) % (3 : Int32)).toInt64) - (1 : Int64))), .second] [(.long (((((q2.toUInt32 >>> ((5 : Int32) &&& 31).toUInt32).toInt32) % (3 : Int32)).toInt64) - (1 : Int64))), (.long (f40 (((q2.toUInt32 >>> ((1 : Int32) &&& 31).toUInt32).toInt32) &&& (15 : Int32)).toInt.toNat))]))
      refine own_by (fun _ k => XS.ladd X40.here hx rfl (hb hby at_158) rfl k) ?_
      show OEnds p e below s _ _ _ (T40.setTop (mkF m 159 #[.val (.long q0), .second, .val (.int q1), .val (.int q2), .val (.int (1 : Int32)), .val (.ref nb24), .unset, .unset, .val (.int (((q2.toUInt32 >>> ((1 : Int32) &&& 31).toUInt32).toInt32) &&& (15 : Int32))), .val (.long (((((q2.toUInt32 >>> ((5 : Int32) &&& 31).toUInt32).toInt32) % (3 : Int32)).toInt64) - (1 : Int64))), .second] [(.long ((f40 (((q2.toUInt32 >>> ((1 : Int32) &&& 31).toUInt32).toInt32) &&& (15 : Int32)).toInt.toNat) + (((((q2.toUInt32 >>> ((5 : Int32) &&& 31).toUInt32).toInt32) % (3 : Int32)).toInt64) - (1 : Int64))))]))
      refine own_by (fun _ k => XS.lstore X40.here hx rfl (hb hby at_159) rfl (l' := #[.val (.long q0), .second, .val (.int q1), .val (.int q2), .val (.int (1 : Int32)), .val (.ref nb24), .val (.long ((f40 (((q2.toUInt32 >>> ((1 : Int32) &&& 31).toUInt32).toInt32) &&& (15 : Int32)).toInt.toNat) + (((((q2.toUInt32 >>> ((5 : Int32) &&& 31).toUInt32).toInt32) % (3 : Int32)).toInt64) - (1 : Int64)))), .second, .val (.int (((q2.toUInt32 >>> ((1 : Int32) &&& 31).toUInt32).toInt32) &&& (15 : Int32))), .val (.long (((((q2.toUInt32 >>> ((5 : Int32) &&& 31).toUInt32).toInt32) % (3 : Int32)).toInt64) - (1 : Int64))), .second]) rfl k) ?_
      show OEnds p e below s _ _ _ (T40.setTop (mkF m 161 #[.val (.long q0), .second, .val (.int q1), .val (.int q2), .val (.int (1 : Int32)), .val (.ref nb24), .val (.long ((f40 (((q2.toUInt32 >>> ((1 : Int32) &&& 31).toUInt32).toInt32) &&& (15 : Int32)).toInt.toNat) + (((((q2.toUInt32 >>> ((5 : Int32) &&& 31).toUInt32).toInt32) % (3 : Int32)).toInt64) - (1 : Int64)))), .second, .val (.int (((q2.toUInt32 >>> ((1 : Int32) &&& 31).toUInt32).toInt32) &&& (15 : Int32))), .val (.long (((((q2.toUInt32 >>> ((5 : Int32) &&& 31).toUInt32).toInt32) % (3 : Int32)).toInt64) - (1 : Int64))), .second] []))
      generalize ((f40 (((q2.toUInt32 >>> ((1 : Int32) &&& 31).toUInt32).toInt32) &&& (15 : Int32)).toInt.toNat) + (((((q2.toUInt32 >>> ((5 : Int32) &&& 31).toUInt32).toInt32) % (3 : Int32)).toInt64) - (1 : Int64))) = vv
      show OEnds p e below s _ _ _ (T40.setTop (mkF m 161 #[.val (.long q0), .second, .val (.int q1), .val (.int q2), .val (.int (1 : Int32)), .val (.ref nb24), .val (.long vv), .second, .val (.int (((q2.toUInt32 >>> ((1 : Int32) &&& 31).toUInt32).toInt32) &&& (15 : Int32))), .val (.long (((((q2.toUInt32 >>> ((5 : Int32) &&& 31).toUInt32).toInt32) % (3 : Int32)).toInt64) - (1 : Int64))), .second] []))
      refine own_by (fun _ k => XS.lload X40.here hx rfl (hb hby at_161) rfl k) ?_
      show OEnds p e below s _ _ _ (T40.setTop (mkF m 163 #[.val (.long q0), .second, .val (.int q1), .val (.int q2), .val (.int (1 : Int32)), .val (.ref nb24), .val (.long vv), .second, .val (.int (((q2.toUInt32 >>> ((1 : Int32) &&& 31).toUInt32).toInt32) &&& (15 : Int32))), .val (.long (((((q2.toUInt32 >>> ((5 : Int32) &&& 31).toUInt32).toInt32) % (3 : Int32)).toInt64) - (1 : Int64))), .second] [(.long vv)]))
      refine own_by (fun _ k => XS.iload X40.here hx rfl (hb hby at_163) rfl k) ?_
      show OEnds p e below s _ _ _ (T40.setTop (mkF m 165 #[.val (.long q0), .second, .val (.int q1), .val (.int q2), .val (.int (1 : Int32)), .val (.ref nb24), .val (.long vv), .second, .val (.int (((q2.toUInt32 >>> ((1 : Int32) &&& 31).toUInt32).toInt32) &&& (15 : Int32))), .val (.long (((((q2.toUInt32 >>> ((5 : Int32) &&& 31).toUInt32).toInt32) % (3 : Int32)).toInt64) - (1 : Int64))), .second] [(.int (1 : Int32)), (.long vv)]))
      obtain ⟨T44, X44, e44, st44⟩ := own_callP X40 hx hZ (y := (⟨"com/example/boughcheck/boughcheck/DefaultReferences", "allowed", "(JZ)Z"⟩ : MethodName)) hown (hw _ (List.mem_of_getElem? (i := 15) rfl)) (hw _ (List.mem_of_getElem? (i := 16) rfl)) (hw _ (List.mem_of_getElem? (i := 17) rfl)) (hw _ (List.mem_of_getElem? (i := 18) rfl)) (by decide) (rm_allowed l Z a0 hw [] vv (1 : Int32) h40) e40 (g := (mkF m 165 #[.val (.long q0), .second, .val (.int q1), .val (.int q2), .val (.int (1 : Int32)), .val (.ref nb24), .val (.long vv), .second, .val (.int (((q2.toUInt32 >>> ((1 : Int32) &&& 31).toUInt32).toInt32) &&& (15 : Int32))), .val (.long (((((q2.toUInt32 >>> ((5 : Int32) &&& 31).toUInt32).toInt32) % (3 : Int32)).toInt64) - (1 : Int64))), .second] [(.int (1 : Int32)), (.long vv)])) rfl (by rw [hml]; rfl) (argsL := [(.long vv), (.int (1 : Int32))]) (rest := []) (lenOf pd_pJZrZ rfl) rfl (W := 0) (by show 2 * 0 + _ ≤ _; exact Nat.le_of_eq rfl) (hb hby at_165) (by decide) (by decide) (by decide) (by decide)
      refine own_by (st44) ?_
      show OEnds p e below s _ _ _ (T44.setTop (mkF m 168 #[.val (.long q0), .second, .val (.int q1), .val (.int q2), .val (.int (1 : Int32)), .val (.ref nb24), .val (.long vv), .second, .val (.int (((q2.toUInt32 >>> ((1 : Int32) &&& 31).toUInt32).toInt32) &&& (15 : Int32))), .val (.long (((((q2.toUInt32 >>> ((5 : Int32) &&& 31).toUInt32).toInt32) % (3 : Int32)).toInt64) - (1 : Int64))), .second] [(.int (allowed vv (1 : Int32)))]))
      refine own_by (fun _ k => XS.lload X44.here hx rfl (hb hby at_168) rfl k) ?_
      show OEnds p e below s _ _ _ (T44.setTop (mkF m 170 #[.val (.long q0), .second, .val (.int q1), .val (.int q2), .val (.int (1 : Int32)), .val (.ref nb24), .val (.long vv), .second, .val (.int (((q2.toUInt32 >>> ((1 : Int32) &&& 31).toUInt32).toInt32) &&& (15 : Int32))), .val (.long (((((q2.toUInt32 >>> ((5 : Int32) &&& 31).toUInt32).toInt32) % (3 : Int32)).toInt64) - (1 : Int64))), .second] [(.long vv), (.int (allowed vv (1 : Int32)))]))
      refine own_by (fun _ k => XS.iload X44.here hx rfl (hb hby at_170) rfl k) ?_
      show OEnds p e below s _ _ _ (T44.setTop (mkF m 172 #[.val (.long q0), .second, .val (.int q1), .val (.int q2), .val (.int (1 : Int32)), .val (.ref nb24), .val (.long vv), .second, .val (.int (((q2.toUInt32 >>> ((1 : Int32) &&& 31).toUInt32).toInt32) &&& (15 : Int32))), .val (.long (((((q2.toUInt32 >>> ((5 : Int32) &&& 31).toUInt32).toInt32) % (3 : Int32)).toInt64) - (1 : Int64))), .second] [(.int (1 : Int32)), (.long vv), (.int (allowed vv (1 : Int32)))]))
      obtain ⟨T45, X45, e45, st45⟩ := own_callP X44 hx hZ (y := (⟨"com/example/boughcheck/boughcheck/DefaultReferencesAllowedPinLaw", "reference", "(JZ)Z"⟩ : MethodName)) hown (hw _ (List.mem_of_getElem? (i := 28) rfl)) (hw _ (List.mem_of_getElem? (i := 29) rfl)) (hw _ (List.mem_of_getElem? (i := 30) rfl)) (hw _ (List.mem_of_getElem? (i := 31) rfl)) (by decide) (rm_refc l Z a0 hw [] vv (1 : Int32) h40) e44 (g := (mkF m 172 #[.val (.long q0), .second, .val (.int q1), .val (.int q2), .val (.int (1 : Int32)), .val (.ref nb24), .val (.long vv), .second, .val (.int (((q2.toUInt32 >>> ((1 : Int32) &&& 31).toUInt32).toInt32) &&& (15 : Int32))), .val (.long (((((q2.toUInt32 >>> ((5 : Int32) &&& 31).toUInt32).toInt32) % (3 : Int32)).toInt64) - (1 : Int64))), .second] [(.int (1 : Int32)), (.long vv), (.int (allowed vv (1 : Int32)))])) rfl (by rw [hml]; rfl) (argsL := [(.long vv), (.int (1 : Int32))]) (rest := [(.int (allowed vv (1 : Int32)))]) (lenOf pd_pJZrZ rfl) rfl (W := 1) (by show 2 * 0 + _ ≤ _; exact Nat.le_of_eq rfl) (hb hby at_172) (by decide) (by decide) (by decide) (by decide)
      refine own_by (st45) ?_
      show OEnds p e below s _ _ _ (T45.setTop (mkF m 175 #[.val (.long q0), .second, .val (.int q1), .val (.int q2), .val (.int (1 : Int32)), .val (.ref nb24), .val (.long vv), .second, .val (.int (((q2.toUInt32 >>> ((1 : Int32) &&& 31).toUInt32).toInt32) &&& (15 : Int32))), .val (.long (((((q2.toUInt32 >>> ((5 : Int32) &&& 31).toUInt32).toInt32) % (3 : Int32)).toInt64) - (1 : Int64))), .second] [(.int (refc vv (1 : Int32))), (.int (allowed vv (1 : Int32)))]))
      refine own_by (fun _ k => XS.icmpNo X45.here hx rfl (hb hby at_175) rfl (teq (own_same _ _ (by decide))).2 k) ?_
      show OEnds p e below s _ _ _ (T45.setTop (mkF m 178 #[.val (.long q0), .second, .val (.int q1), .val (.int q2), .val (.int (1 : Int32)), .val (.ref nb24), .val (.long vv), .second, .val (.int (((q2.toUInt32 >>> ((1 : Int32) &&& 31).toUInt32).toInt32) &&& (15 : Int32))), .val (.long (((((q2.toUInt32 >>> ((5 : Int32) &&& 31).toUInt32).toInt32) % (3 : Int32)).toInt64) - (1 : Int64))), .second] []))
      refine own_by (fun _ k => XS.iconst X45.here hx rfl (hb hby at_178) k) ?_
      show OEnds p e below s _ _ _ (T45.setTop (mkF m 179 #[.val (.long q0), .second, .val (.int q1), .val (.int q2), .val (.int (1 : Int32)), .val (.ref nb24), .val (.long vv), .second, .val (.int (((q2.toUInt32 >>> ((1 : Int32) &&& 31).toUInt32).toInt32) &&& (15 : Int32))), .val (.long (((((q2.toUInt32 >>> ((5 : Int32) &&& 31).toUInt32).toInt32) % (3 : Int32)).toInt64) - (1 : Int64))), .second] [(.int (1 : Int32))]))
      refine own_by (fun _ k => XS.goto X45.here hx rfl (pc0 := 179) (pc' := 183) rfl (hb hby at_179) (by decide) (by decide) k) ?_
      show OEnds p e below s _ _ _ (T45.setTop (mkF m 183 #[.val (.long q0), .second, .val (.int q1), .val (.int q2), .val (.int (1 : Int32)), .val (.ref nb24), .val (.long vv), .second, .val (.int (((q2.toUInt32 >>> ((1 : Int32) &&& 31).toUInt32).toInt32) &&& (15 : Int32))), .val (.long (((((q2.toUInt32 >>> ((5 : Int32) &&& 31).toUInt32).toInt32) % (3 : Int32)).toInt64) - (1 : Int64))), .second] [(.int (1 : Int32))]))
      exact own_retN X45 hx hlk .boolean (by simp) Bd.returns (hb hby at_183) ⟨rfl, N40⟩ (by decide) (by decide)
set_option maxRecDepth 65536 in
set_option maxHeartbeats 40000000 in
theorem comes_1 {Post : Tables → Env → Array Value → State → Outcome → State → Prop} (hpost : ∀ tb e args s v u, (limb_1_1.after args s (.returned v) u = true ∧ limb_1_2.after args s (.returned v) u = true ∧ True) → FrameEnd s (.returned v) u (Jvm.fieldLocs frame_1_writes args s ++ Jvm.arrayLocs frame_1_arrays args s ++ Jvm.staticLocs frame_1_statics s) 16 128 → Post tb e args s (.returned v) u) :
    ArmFor flags0 classFile x code maxLocals ret World_1 tables_1 room_1 Calls_1 rest_1 Pre_1 Post := by
  intro l hfl _ _ p e ha hc hk s m args below hf hA hF happ hP
  obtain ⟨hcalls, hrest, hpre⟩ := hP
  obtain ⟨-, -, -, hnamed, -, -, -, hat⟩ := (Spec.applies_iff hf).mp happ
  obtain ⟨hg, hn⟩ := and_e (Cond.before_iff.mp (show (Jvm.Cond.and given_1 narrow_1).before args s = true from hpre))
  obtain ⟨hct, hg0⟩ := and_e hg
  obtain ⟨ga0, hg1⟩ := and_e hg0
  obtain ⟨ga1, hg2⟩ := and_e hg1
  have ga2 := hg2
  obtain ⟨w0, w1, w2, rfl⟩ : ∃ w0 w1 w2 : Value, args = #[w0, w1, w2] := by
    have hs : args.size = 3 := by simpa [Cond.value, given_1] using hct
    obtain ⟨L⟩ := args
    match L, hs with
    | [w0, w1, w2], _ => exact ⟨w0, w1, w2, rfl⟩
  have hw := fun d (hd : d ∈ tables_1) => atoms_spec (ws := Jvm.Cond.code x code maxLocals ret :: tables_1) hat d (List.mem_cons_of_mem _ hd)
  obtain ⟨i0, ei0⟩ := isL_v ga0
  obtain rfl : w0 = (.long i0) := Option.some.inj ei0
  obtain ⟨i1, ei1⟩ := is_v ga1
  obtain rfl : w1 = (.int i1) := Option.some.inj ei1
  obtain ⟨i2, ei2⟩ := is_v ga2
  obtain rfl : w2 = (.int i2) := Option.some.inj ei2
  obtain ⟨n, o, h1, h2, h3, _, L, rfl, ⟨rfl, N⟩, hq⟩ := rm_law l s _ hw tables_1 i0 i1 i2 s.heap s.heap.size (Nat.le_refl _) p e ha hc hk s m _ below hf ((Spec.applies_iff_loose hf).mp happ).1 ⟨rfl, State.Warmed39.refl s, rfl⟩ trivial
  refine ⟨n, _, h1, h2, h3, hpost _ _ _ _ _ _ ⟨Cond.after_iff.mpr rfl, Cond.after_iff.mpr (eq_i res_at (Term.int_eval (1)) rfl), trivial⟩ ⟨hq.1, hq.2.1, (hq.2.2.sift fun y hy => Or.inr (N y hy)).mono (by decide) (by decide)⟩⟩
theorem main_1_1 : Claimed_1_1 := comes_1 fun _ _ _ _ _ _ h hF => ⟨h.1, hF⟩
theorem main_1_2 : Claimed_1_2 := comes_1 fun _ _ _ _ _ _ h hF => ⟨h.2.1, hF⟩
end Jvm.Pilot.@@N@@
namespace Jvm.Pilot.@@N@@
open Jvm Jvm.ClassFile Sem Op Lib Jvm.Free Jvm.Stand Jvm.Pilot.@@N@@.Jvm.D
/-! MADE BY PROGRAM (witnessworld.py) out of the Statement's table words and the real class files: 11 classes; the members and pool entries that the words name. The judged class is class 1, her method 2. -/
namespace start1
open Jvm.ClassFile
def u (s : String) : CpInfo := .utf8 (stringToUtf16 s)
/-- a pool by its gaps: so many unusable entries, then the entry; so many at the end -/
def gap : Nat → List CpInfo → List CpInfo
  | 0, r => r
  | n + 1, r => .unusable :: gap n r
def poolList (es : List (Nat × CpInfo)) (last : Nat) : List CpInfo := es.foldr (fun e r => gap e.1 (e.2 :: r)) (gap last [])
def pool (es : List (Nat × CpInfo)) (last : Nat) : Array CpInfo := ⟨poolList es last⟩
def fileOf (pool : Array CpInfo) (this : Nat) (attrs : Array Attribute := #[]) (ms : Array MethodInfo := #[]) (fl : Nat := 33) (sup : Nat := 0) (ifs : Array Nat := #[]) (fds : Array FieldInfo := #[]) : ClassFile where
  minorVersion := 0
  majorVersion := 65
  constantPool := pool
  accessFlags := fl
  thisClass := this
  superClass := sup
  interfaces := ifs
  fields := fds
  methods := ms
  attributes := attrs
def plain (name : String) (sup : Option ClassId) : Class where
  name := name
  kind := .ordinary
  loader := none
  accessFlags := 33
  super := sup
  interfaces := #[]
  cf := none
  fields := #[]
  methods := #[]
  instanceTypes := #[]
  staticTypes := #[]
  resolved := #[]
  callSites := []
  init := .initialized
  statics := none
  mirror := none

def pool0 : Array CpInfo := pool [(5, u "<init>"), (0, u "()V"), (1, .class_ 10), (1, u "java/lang/Object")] 113

def k0m0 : Method := { name := "<init>", desc := "()V", sig := { parameters := [], returnType := none }, accessFlags := 1, code := none }
/-- java/lang/Object -/
def k0 : Class := { plain "java/lang/Object" none with
  accessFlags := 33
  interfaces := #[]
  cf := some (fileOf pool0 8 #[] #[{ accessFlags := 1, nameIndex := 5, descriptorIndex := 6, attributes := #[] }] 33 0 #[] #[])
  fields := #[]
  methods := #[k0m0]
  instanceTypes := #[]
  staticTypes := #[]
  resolved := Array.replicate 124 none
  statics := none }

def pool1 : Array CpInfo := pool [(2, .class_ 4), (1, u "java/lang/Object"), (0, u "<init>"), (0, u "()V"), (0, .long 57344), (1, .long 65533), (1, .long 65536), (1, .long 1114111), (1, .long 55295), (1, .long 9), (1, .long 10), (1, .long 13), (1, .long 32), (3, .long 9223372036854775808), (1, .long 18446744073709551615), (1, .long 8), (1, .long 31), (1, .long 9223372036854775807), (1, .methodref 38 39), (0, .class_ 40), (0, .nameAndType 41 42), (0, u "com/example/boughcheck/boughcheck/DefaultReferences"), (0, u "allowed"), (0, u "(JZ)Z"), (0, .methodref 44 45), (0, .class_ 46), (0, .nameAndType 47 42), (0, u "com/example/boughcheck/boughcheck/DefaultReferencesAllowedPinLaw"), (0, u "reference"), (3, u "law"), (0, u "(JII)Z")] 4

def k1m0 : Method := { name := "<init>", desc := "()V", sig := { parameters := [], returnType := none }, accessFlags := 2, code := none }
def k1c1 : Code := { maxStack := 4, maxLocals := 5, code := method_2_code, exceptionTable := #[], attributes := #[] }
def k1m1 : Method := { name := "reference", desc := "(JZ)Z", sig := { parameters := [.long, .boolean], returnType := some .boolean }, accessFlags := 10, code := some k1c1 }
def k1c2 : Code := { maxStack := 5, maxLocals := 11, code := code, exceptionTable := #[], attributes := #[] }
def k1m2 : Method := { name := "law", desc := "(JII)Z", sig := { parameters := [.long, .int, .int], returnType := some .boolean }, accessFlags := 9, code := some k1c2 }
/-- com/example/boughcheck/boughcheck/DefaultReferencesAllowedPinLaw -/
def k1 : Class := { plain "com/example/boughcheck/boughcheck/DefaultReferencesAllowedPinLaw" (some 0) with
  accessFlags := 49
  interfaces := #[]
  cf := some (fileOf pool1 44 #[] #[{ accessFlags := 2, nameIndex := 5, descriptorIndex := 6, attributes := #[] }, { accessFlags := 10, nameIndex := 47, descriptorIndex := 42, attributes := #[] }, { accessFlags := 9, nameIndex := 51, descriptorIndex := 52, attributes := #[] }] 49 2 #[] #[])
  fields := #[]
  methods := #[k1m0, k1m1, k1m2]
  instanceTypes := #[]
  staticTypes := #[]
  resolved := Array.replicate 57 none
  statics := none }

def pool2 : Array CpInfo := pool [(2, .class_ 4), (1, u "java/lang/Object"), (6, .class_ 13), (1, u "com/example/boughcheck/boughcheck/DefaultReferences"), (0, u "generals"), (0, u "Ljava/util/Map;"), (5, u "sound"), (0, u "Ljava/util/Set;"), (2, u "skipping"), (2, u "restsOn"), (2, u "restingOn"), (2, u "levels"), (2, u "levelResting"), (2, u "faulty"), (2, u "xml11"), (0, u "Z"), (2, u "standalone"), (10, u "externalParameter"), (6, .class_ 66), (0, u "com/example/boughcheck/boughcheck/DefaultReferences$General"), (54, .class_ 122), (0, u "com/example/boughcheck/boughcheck/DefaultReferences$Declaring"), (42, .class_ 166), (0, u "com/example/boughcheck/boughcheck/DefaultReferences$Expansion"), (83, u "allowed"), (0, u "(JZ)Z"), (54, u "restsMade"), (0, u "J"), (28, .long 32), (1, .long 9), (1, .long 10), (1, .long 13), (1, .long 55295), (1, .long 57344), (1, .long 65533), (1, .long 65536), (3, .long 1114111), (34, .class_ 390), (0, u "com/example/boughcheck/boughcheck/DefaultReferences$Search")] 59

def k2c0 : Code := { maxStack := 4, maxLocals := 6, code := prog_82_method_18_code, exceptionTable := #[], attributes := #[] }
def k2m0 : Method := { name := "allowed", desc := "(JZ)Z", sig := { parameters := [.long, .boolean], returnType := some .boolean }, accessFlags := 8, code := some k2c0 }
/-- com/example/boughcheck/boughcheck/DefaultReferences -/
def k2 : Class := { plain "com/example/boughcheck/boughcheck/DefaultReferences" (some 0) with
  accessFlags := 48
  interfaces := #[]
  cf := some (fileOf pool2 11 #[.nestMembers #[165, 389, 121, 65]] #[{ accessFlags := 8, nameIndex := 250, descriptorIndex := 251, attributes := #[] }] 48 2 #[] #[{ accessFlags := 18, nameIndex := 43, descriptorIndex := 44, attributes := #[] }, { accessFlags := 18, nameIndex := 47, descriptorIndex := 44, attributes := #[] }, { accessFlags := 18, nameIndex := 14, descriptorIndex := 15, attributes := #[] }, { accessFlags := 18, nameIndex := 21, descriptorIndex := 22, attributes := #[] }, { accessFlags := 18, nameIndex := 25, descriptorIndex := 22, attributes := #[] }, { accessFlags := 18, nameIndex := 28, descriptorIndex := 15, attributes := #[] }, { accessFlags := 18, nameIndex := 31, descriptorIndex := 15, attributes := #[] }, { accessFlags := 18, nameIndex := 34, descriptorIndex := 15, attributes := #[] }, { accessFlags := 18, nameIndex := 37, descriptorIndex := 15, attributes := #[] }, { accessFlags := 2, nameIndex := 306, descriptorIndex := 307, attributes := #[] }, { accessFlags := 18, nameIndex := 40, descriptorIndex := 22, attributes := #[] }, { accessFlags := 2, nameIndex := 58, descriptorIndex := 44, attributes := #[] }])
  fields := #[{ name := "xml11", type := .boolean, accessFlags := 18, slot := 0, constantValue := 0 }, { name := "standalone", type := .boolean, accessFlags := 18, slot := 1, constantValue := 0 }, { name := "generals", type := (.object "java/util/Map"), accessFlags := 18, slot := 2, constantValue := 0 }, { name := "sound", type := (.object "java/util/Set"), accessFlags := 18, slot := 3, constantValue := 0 }, { name := "skipping", type := (.object "java/util/Set"), accessFlags := 18, slot := 4, constantValue := 0 }, { name := "restsOn", type := (.object "java/util/Map"), accessFlags := 18, slot := 5, constantValue := 0 }, { name := "restingOn", type := (.object "java/util/Map"), accessFlags := 18, slot := 6, constantValue := 0 }, { name := "levels", type := (.object "java/util/Map"), accessFlags := 18, slot := 7, constantValue := 0 }, { name := "levelResting", type := (.object "java/util/Map"), accessFlags := 18, slot := 8, constantValue := 0 }, { name := "restsMade", type := .long, accessFlags := 2, slot := 9, constantValue := 0 }, { name := "faulty", type := (.object "java/util/Set"), accessFlags := 18, slot := 10, constantValue := 0 }, { name := "externalParameter", type := .boolean, accessFlags := 2, slot := 11, constantValue := 0 }]
  methods := #[k2m0]
  instanceTypes := #[.boolean, .boolean, (.object "java/util/Map"), (.object "java/util/Set"), (.object "java/util/Set"), (.object "java/util/Map"), (.object "java/util/Map"), (.object "java/util/Map"), (.object "java/util/Map"), .long, (.object "java/util/Set"), .boolean]
  staticTypes := #[]
  resolved := Array.replicate 450 none
  statics := none }

def pool3 : Array CpInfo := pool [(1, u "java/lang/Cloneable"), (0, .class_ 1), (0, u "java/lang/Object"), (0, .class_ 3)] 3

/-- java/lang/Cloneable -/
def k3 : Class := { plain "java/lang/Cloneable" (some 0) with
  accessFlags := 1537
  interfaces := #[]
  cf := some (fileOf pool3 2 #[] #[] 1537 4 #[] #[])
  fields := #[]
  methods := #[]
  instanceTypes := #[]
  staticTypes := #[]
  resolved := Array.replicate 8 none
  statics := none }

def pool4 : Array CpInfo := pool [(1, u "java/io/Serializable"), (0, .class_ 1), (0, u "java/lang/Object"), (0, .class_ 3)] 3

/-- java/io/Serializable -/
def k4 : Class := { plain "java/io/Serializable" (some 0) with
  accessFlags := 1537
  interfaces := #[]
  cf := some (fileOf pool4 2 #[] #[] 1537 4 #[] #[])
  fields := #[]
  methods := #[]
  instanceTypes := #[]
  staticTypes := #[]
  resolved := Array.replicate 8 none
  statics := none }

/-- the primitive byte -/
def k5 : Class := { plain "byte" none with kind := .primitive 'B', accessFlags := 0x411 }
/-- [B -/
def k6 : Class := { plain "[B" (some 0) with kind := .array 5 .byte, interfaces := #[3, 4], accessFlags := 1041 }

/-- the primitive int -/
def k7 : Class := { plain "int" none with kind := .primitive 'I', accessFlags := 0x411 }
/-- [I -/
def k8 : Class := { plain "[I" (some 0) with kind := .array 7 .int, interfaces := #[3, 4], accessFlags := 1041 }

/-- the primitive long -/
def k9 : Class := { plain "long" none with kind := .primitive 'J', accessFlags := 0x411 }
/-- [J -/
def k10 : Class := { plain "[J" (some 0) with kind := .array 9 .long, interfaces := #[3, 4], accessFlags := 1041 }

def heap : Heap := #[]
def classes : Array Class := #[k0, k1, k2, k3, k4, k5, k6, k7, k8, k9, k10]
def interned : List (Array UInt16 × Addr) := []
def slotsUsed : Nat := 0
def theMethod : MethodId := ⟨1, 2⟩
def args0 : Array Value := #[.long 5, .int 1, .int 3]
def aboutOver (below : List Frame) : State where
  vm := { classes := classes, interned := interned.toArray }
  heap := heap
  slotsUsed := slotsUsed
  threads := #[{ frames := .invoking theMethod args0 :: below }]
def below0 : List Frame := [.native { method := ⟨0, 0⟩, args := #[] }]
def about1 : State := aboutOver below0
def p0 : Program := .bare "" "" ""
def e0 : Env := launch0.env 0 0 0
theorem w_frames : about1.frames = Frame.invoking theMethod args0 :: below0 := rfl
set_option maxRecDepth 65536 in
theorem w_args : argsFit about1.vm theMethod args0 = true := by decide +kernel
set_option maxRecDepth 65536 in
theorem w_heap : heapFits about1 = true := by decide +kernel
set_option maxRecDepth 65536 in
theorem w_runnable : about1.curStatus? = some .runnable := by decide +kernel
set_option maxRecDepth 65536 in
theorem w_alone : about1.alone = true := by decide +kernel
set_option maxRecDepth 65536 in
theorem w_named : about1.methodNamed? x = some theMethod := by decide +kernel
set_option maxRecDepth 65536 in
theorem w_hears : about1.hears theMethod below0 = true := by decide +kernel
set_option maxRecDepth 65536 in
theorem w_ripe : about1.ripe theMethod args0 below0 = true := by decide +kernel
theorem w_running : about1.status = .running := rfl
set_option maxRecDepth 65536 in
theorem w_room : about1.hasRoom e0.platform room_1 = true :=
  launch0.hasRoom_least _ room_1 (by decide +kernel) (by decide +kernel) (by decide +kernel) (by decide +kernel) (by decide +kernel) (by decide +kernel)
theorem allAtoms_all (ts : List Jvm.Cond) (a : Array Jvm.Value) (st : Jvm.State) : (allAtoms ts).before a st = ts.all (fun c => c.before a st) := by
  induction ts with
  | nil => rfl
  | cons c t ih =>
    show (Jvm.Cond.and c (allAtoms t)).before a st = _
    rw [Jvm.Cond.before_and, ih, List.all_cons]
def words1 : List Jvm.Cond := Jvm.Cond.code x code maxLocals ret :: tables_1
/-- a 'code' word, met by the world's own term for the bytes: nothing is compared byte by byte -/
theorem code_word {y : MethodName} {bytes : ByteArray} {mx : Nat} {rt : Option FieldType} {a : Array Value} {s : State} {m : MethodId} {meth : Method} {c : Code} (h1 : s.methodNamed? y = some m) (h2 : s.vm.method? m = some meth) (h3 : meth.code = some c) (h4 : c.code = bytes)
    (h5 : (c.maxLocals == mx && c.exceptionTable.isEmpty && decide (c.maxStack ≤ mostOperands) && decide (meth.sig.returnType = rt) && !meth.locks && decide (parseMethodDescriptor y.desc = some meth.sig)) = true) : (Jvm.Cond.code y bytes mx rt).before a s = true := by
  simp only [Bool.and_eq_true, beq_iff_eq, Bool.not_eq_true', decide_eq_true_eq] at h5
  obtain ⟨⟨⟨⟨⟨g1, g2⟩, g3⟩, g4⟩, g5⟩, g6⟩ := h5
  simp [Cond.before, Cond.holds, Cond.value, h1, h2, h3, h4, g1, g2, g3, g4, g5, g6]
def isCode : Jvm.Cond → Bool
  | .code _ _ _ _ => true
  | _ => false
theorem all_split {L : List Jvm.Cond} {P : Jvm.Cond → Bool} (h1 : L.all (fun c => isCode c || P c) = true) (h2 : ∀ c ∈ L.filter isCode, P c = true) : L.all P = true := by
  refine List.all_eq_true.mpr fun c hc => ?_
  have h := List.all_eq_true.mp h1 c hc
  rcases Bool.eq_false_or_eq_true (isCode c) with hi | hi
  · exact h2 c (List.mem_filter.mpr ⟨hc, hi⟩)
  · simpa [hi] using h
set_option maxRecDepth 65536 in
theorem w_c0 : (Jvm.Cond.code x code maxLocals ret).before args0 about1 = true := code_word (m := ⟨1, 2⟩) (meth := k1m2) (c := k1c2) (by decide +kernel) rfl rfl rfl (by decide +kernel)
set_option maxRecDepth 65536 in
theorem w_c1 : (Jvm.Cond.code ({ cls := "com/example/boughcheck/boughcheck/DefaultReferences", name := "allowed", desc := "(JZ)Z" } : Jvm.MethodName) prog_82_method_18_code (6 : Nat) (Option.some Jvm.ClassFile.FieldType.boolean)).before args0 about1 = true := code_word (m := ⟨2, 0⟩) (meth := k2m0) (c := k2c0) (by decide +kernel) rfl rfl rfl (by decide +kernel)
set_option maxRecDepth 65536 in
theorem w_c2 : (Jvm.Cond.code ({ cls := "com/example/boughcheck/boughcheck/DefaultReferencesAllowedPinLaw", name := "reference", desc := "(JZ)Z" } : Jvm.MethodName) method_2_code (5 : Nat) (Option.some Jvm.ClassFile.FieldType.boolean)).before args0 about1 = true := code_word (m := ⟨1, 1⟩) (meth := k1m1) (c := k1c1) (by decide +kernel) rfl rfl rfl (by decide +kernel)
def codes1 : List Jvm.Cond := [Jvm.Cond.code x code maxLocals ret, Jvm.Cond.code ({ cls := "com/example/boughcheck/boughcheck/DefaultReferences", name := "allowed", desc := "(JZ)Z" } : Jvm.MethodName) prog_82_method_18_code (6 : Nat) (Option.some Jvm.ClassFile.FieldType.boolean), Jvm.Cond.code ({ cls := "com/example/boughcheck/boughcheck/DefaultReferencesAllowedPinLaw", name := "reference", desc := "(JZ)Z" } : Jvm.MethodName) method_2_code (5 : Nat) (Option.some Jvm.ClassFile.FieldType.boolean)]
set_option maxRecDepth 65536 in
theorem codes_eq : words1.filter isCode = codes1 := rfl
theorem w_codes : ∀ c ∈ words1.filter isCode, c.before args0 about1 = true := by
  rw [codes_eq]
  intro c hc
  simp only [codes1, List.mem_cons, List.not_mem_nil, or_false] at hc
  rcases hc with rfl | rfl | rfl
  · exact w_c0
  · exact w_c1
  · exact w_c2
set_option maxRecDepth 65536 in
theorem w_t1 : (words1.take 24).all (fun c => isCode c || c.before args0 about1) = true := by decide +kernel
set_option maxRecDepth 65536 in
theorem w_t2 : (words1.drop 24).all (fun c => isCode c || c.before args0 about1) = true := by decide +kernel
theorem w_tables : (allAtoms (Jvm.Cond.code x code maxLocals ret :: tables_1)).before args0 about1 = true := by
  rw [allAtoms_all]
  show words1.all (fun c => c.before args0 about1) = true
  refine all_split ?_ w_codes
  rw [← List.take_append_drop 24 words1, List.all_append, w_t1, w_t2]
  rfl
set_option maxRecDepth 65536 in
theorem w_case : (Jvm.Cond.and given_1 narrow_1).before args0 about1 = true := by decide +kernel
theorem w_applies : (headSpec (Jvm.Cond.code x code maxLocals ret :: tables_1) room_1).applies x e0.platform about1 = true :=
  (Spec.applies_iff w_frames).mpr ⟨w_running, w_runnable, w_alone, w_named, w_hears, w_ripe, w_room, w_tables⟩
theorem atStart : AtStart classFile x code maxLocals ret World_1 tables_1 room_1 Calls_1 rest_1 Pre_1 launch0 p0 e0 about1 theMethod args0 below0 :=
  ⟨lists_1, trivial, launch0.admits_env _ _ _, launch0.least_env, fairChoices_fair.cas, fairChoices_fair.clock, w_frames, w_args, w_heap, w_applies, trivial, trivial, w_case⟩
end start1
theorem witness_1 : WitnessClaimed_1 := ⟨start1.p0, start1.e0, start1.about1, start1.theMethod, start1.args0, start1.below0, start1.atStart⟩
end Jvm.Pilot.@@N@@
