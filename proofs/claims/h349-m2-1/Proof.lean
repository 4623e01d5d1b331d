import JvmDerived
import JvmDerived.Pilot.@@N@@Statement
import JvmDerived.Pilot.@@N@@Code
set_option linter.unusedVariables false
set_option linter.unusedSimpArgs false
namespace Jvm.Pilot.@@N@@
open Jvm Jvm.ClassFile Sem Op Lib Jvm.Free Jvm.Stand Jvm.LawKit Jvm.RoadKit Bundle Jvm.Pilot.@@N@@.Jvm.D
section Own
variable {p : Program} {l : Launch} {e : Env} {R : Room} {s : State} {m : MethodId} {args : Array Value} {below : List Frame} {meth : Method} {c : Code} {T : State} {locs : List Loc} {cells slots : Nat} {Z : State} {a0 : Array Value} {h h' : Heap}
/-- from S the walk comes to the method's end, where Q holds of what is returned, the heap and the written places -/
def OEnds (p : Program) (e : Env) (below : List Frame) (s : State) (Q : Option Value → Heap → List Loc → Prop) (K N : Nat) (S : State) : Prop :=
  ∃ s₂ o, Steps p.tables e below S s₂ ∧ s₂.status = .running ∧ Ended s₂ below o ∧ ∃ v L, o = .returned v ∧ Q v s₂.heap L ∧ FrameEnd s o s₂ L K N
variable {Q Q' : Option Value → Heap → List Loc → Prop} {K N : Nat} {S S' : State}
theorem own_by (st : ∀ t, Steps p.tables e below S' t → Steps p.tables e below S t) (k : OEnds p e below s Q K N S') : OEnds p e below s Q K N S := by
  obtain ⟨a, o, h1, h2⟩ := k
  exact ⟨a, o, st _ h1, h2⟩
theorem own_tr (st : Steps p.tables e below S S') (k : OEnds p e below s Q K N S') : OEnds p e below s Q K N S := by
  obtain ⟨a, o, h1, h2⟩ := k
  exact ⟨a, o, st.trans h1, h2⟩
theorem own_mono (f : ∀ v h L, Q' v h L → Q v h L) (k : OEnds p e below s Q' K N S) : OEnds p e below s Q K N S := by
  obtain ⟨a, o, h1, h2, h3, v, L, h4, h5, h6⟩ := k
  exact ⟨a, o, h1, h2, h3, v, L, h4, f _ _ _ h5, h6⟩
theorem own_fin (X : Stand p l e R s m args below meth c T locs cells slots) (hlk : meth.locks = false) {v : Option Value} (hv : meth.sig.returnType = none → v = none) (hQ : Q v T.heap locs) (hK : cells ≤ K) (hN : slots ≤ N)
    (hst : ∀ fs, (∀ (f : JFrame) (acts : List Action), f.method = m → f.locked = none → f.entered = [] → (doReturn e (T.setTop f) acts v).1 = T.setFrames fs) → Steps p.tables e below S (T.setFrames fs)) : OEnds p e below s Q K N S := by
  obtain ⟨fs, hr, hrun, hended, hW, hsame⟩ := X.leave hv hlk
  exact ⟨_, _, hst fs hr, hrun, hended, _, _, rfl, hQ, ⟨_, rfl⟩, hW, hsame.mono hK hN⟩
theorem own_retI (X : Stand p l e R s m args below meth c T locs cells slots) (hx : p.tables.exec = Jvm.exec) (hlk : meth.locks = false) {pc : Nat} {Ls : Array Slot} {z : Int32} {rest : List Value} (hret : meth.sig.returnType = some .int) (hd : decode c.code pc = .ok (.ireturn, 1))
    (hQ : Q (some (.int z)) T.heap locs) (hK : cells ≤ K) (hN : slots ≤ N) : OEnds p e below s Q K N (T.setTop (mkF m pc Ls (.int z :: rest))) :=
  own_fin X hlk (fun q => by rw [hret] at q; cases q) hQ hK hN fun _ hr => retOut X hx hret rfl (Or.inl ⟨rfl, Or.inl rfl, _, rfl⟩) hd hr
theorem own_retN (X : Stand p l e R s m args below meth c T locs cells slots) (hx : p.tables.exec = Jvm.exec) (hlk : meth.locks = false) (t : FieldType) (ht : t = .boolean ∨ t = .byte ∨ t = .char ∨ t = .short) {pc : Nat} {Ls : Array Slot} {z : Int32} {rest : List Value} (hret : meth.sig.returnType = some t) (hd : decode c.code pc = .ok (.ireturn, 1))
    (hQ : Q (some (.int (nar t z))) T.heap locs) (hK : cells ≤ K) (hN : slots ≤ N) : OEnds p e below s Q K N (T.setTop (mkF m pc Ls (.int z :: rest))) :=
  own_fin X hlk (fun q => by rw [hret] at q; cases q) hQ hK hN fun _ hr => retN X hx hret ht hd hr
theorem own_retJ (X : Stand p l e R s m args below meth c T locs cells slots) (hx : p.tables.exec = Jvm.exec) (hlk : meth.locks = false) {pc : Nat} {Ls : Array Slot} {z : Int64} {rest : List Value} (hret : meth.sig.returnType = some .long) (hd : decode c.code pc = .ok (.lreturn, 1))
    (hQ : Q (some (.long z)) T.heap locs) (hK : cells ≤ K) (hN : slots ≤ N) : OEnds p e below s Q K N (T.setTop (mkF m pc Ls (.long z :: rest))) :=
  own_fin X hlk (fun q => by rw [hret] at q; cases q) hQ hK hN fun _ hr => retOut X hx hret rfl (Or.inr (Or.inl ⟨rfl, rfl, _, rfl⟩)) hd hr
theorem own_retA (X : Stand p l e R s m args below meth c T locs cells slots) (hx : p.tables.exec = Jvm.exec) (hlk : meth.locks = false) {t : FieldType} (ht : t.isReference = true) {pc : Nat} {Ls : Array Slot} {a : Addr} {rest : List Value} (hret : meth.sig.returnType = some t) (hn : narrow t (.ref a) = .ref a) (hd : decode c.code pc = .ok (.areturn, 1))
    (hQ : Q (some (.ref a)) T.heap locs) (hK : cells ≤ K) (hN : slots ≤ N) : OEnds p e below s Q K N (T.setTop (mkF m pc Ls (.ref a :: rest))) :=
  own_fin X hlk (fun q => by rw [hret] at q; cases q) hQ hK hN fun _ hr => retOut X hx hret hn (Or.inr (Or.inr (Or.inr (Or.inr ⟨rfl, ht, rfl⟩)))) hd hr
theorem own_retV (X : Stand p l e R s m args below meth c T locs cells slots) (hx : p.tables.exec = Jvm.exec) (hlk : meth.locks = false) {pc : Nat} {Ls : Array Slot} (hret : meth.sig.returnType = none) (hd : decode c.code pc = .ok (.return_, 1))
    (hQ : Q none T.heap locs) (hK : cells ≤ K) (hN : slots ≤ N) : OEnds p e below s Q K N (T.setTop (mkF m pc Ls [])) :=
  own_fin X hlk (fun _ => rfl) hQ hK hN fun _ hr => X.returnOut hx hret hd hr
/-- what a plain method leaves: its value, nothing written, the heap as it was -/
def QP (r : Value) (h0 : Heap) (v : Option Value) (h : Heap) (L : List Loc) : Prop := v = some r ∧ L = [] ∧ h = h0
theorem own_eq {r r' : Value} {h0 : Heap} (q : r = r') (k : OEnds p e below s (QP r' h0) K N S) : OEnds p e below s (QP r h0) K N S := by subst q; exact k
theorem own_lrem {g : JFrame} {target : State} (X : Stand p l e R s m args below meth c T locs cells slots) (hx : p.tables.exec = Jvm.exec) (hg : g.method = m) {x y : Int64} {rest : List Value} (hd : decode c.code g.pc = .ok (.lrem, 1)) (hs : g.stack = .long y :: .long x :: rest) (hy : y ≠ 0)
    (hr : Steps p.tables e below (T.setTop { g with pc := g.pc + 1, stack := .long (x % y) :: rest }) target) : Steps p.tables e below (T.setTop g) target := by
  have q : x - x / y * y = x % y := lrem_mod x y
  exact XS.lrem X.here hx hg hd hs hy (by rw [q]; exact hr)
/-- a call of a plain static method by its contract -/
theorem own_callP (X : Stand p l e R s m args below meth c T locs cells slots) (hx : p.tables.exec = Jvm.exec) (hZ : Z.Warmed39 s.vm) {own : String} {index : Nat} {y : MethodName} {bytes : ByteArray} {maxL : Nat} {ret : Option FieldType} {fr lo : Nat} {r : Value} {argsL rest : List Value} {g : JFrame}
    (hown : s.vm.findClass own = some m.cls) (w1 : (Cond.methodLink own index y).before a0 Z = true) (w2 : (Cond.static y).before a0 Z = true) (w3 : (Cond.initialized y.cls).before a0 Z = true) (w4 : (Cond.code y bytes maxL ret).before a0 Z = true)
    (hy : y.cls ≠ "java/lang/invoke/MethodHandle" ∧ y.cls ≠ "java/lang/invoke/VarHandle")
    (hM : MetFree l y (head1 [Cond.code y bytes maxL ret] ({ frames := fr, cells := 0, slots := 0, locals := lo } : Room)) (fun a U => a = argsL.toArray ∧ Z.Warmed39 U.vm ∧ U.heap = h) (fun _ _ _ _ _ => True) (fun _ U o U' => ∃ v L, o = .returned v ∧ QP r h v U'.heap L ∧ FrameEnd U o U' L 0 0))
    (eT : T.heap = h) (hg : g.method = m) (hsize : g.locals.size = c.maxLocals) (hlen : ∀ sig, parseMethodDescriptor y.desc = some sig → argsL.length = sig.parameters.length) (hstack : g.stack = argsL.reverse ++ rest) {W : Nat} (hW : 2 * g.monitorRoom + (rest.map fun v => v.category).sum ≤ W)
    (hd : decode c.code g.pc = .ok (.invokestatic index, 3)) (hf : fr + 1 ≤ R.frames) (hl : W + (maxL + 11) + lo ≤ R.locals) (hc : cells ≤ R.cells) (hs : slots ≤ R.slots) :
    ∃ T', Stand p l e R s m args below meth c T' locs cells slots ∧ T'.heap = h ∧ ∀ target, Steps p.tables e below (T'.setTop { g with pc := g.pc + 3, stack := r :: rest }) target → Steps p.tables e below (T.setTop g) target := by
  obtain ⟨_, _, ⟨T1, L1, k1, n1⟩, -, X1, ⟨Lc, hQ, l1, y1, z1⟩, st⟩ := Jvm.LawKit.callS X hx (y := y) hown (mvT hZ w1) (mvT hZ w2) (mvT hZ w3) (mvT hZ w4) hy (backOf (rm := ({ frames := fr, cells := 0, slots := 0, locals := lo } : Room)) (W := W) hM hZ w4 w3 hf hl) (g := g) hg hsize (argsL := argsL) (rest := rest) hlen hstack hW hd (fun _ _ => ⟨rfl, eT, hc, hs⟩)
  dsimp only [Pt.U, Pt.locs, Pt.cells, Pt.slots] at X1 l1 y1 z1 st hQ
  subst l1 y1 z1
  obtain ⟨rfl, rfl, e1⟩ := hQ
  rw [List.append_nil] at X1
  exact ⟨T1, X1, e1, st⟩
end Own
section Own2
variable {p : Program} {l : Launch} {e : Env} {R : Room} {s : State} {m : MethodId} {args : Array Value} {below : List Frame} {meth : Method} {c : Code} {T : State} {locs : List Loc} {cells slots : Nat} {Z : State} {a0 : Array Value} {h h' : Heap}
  {a b : Addr} {C : String} {sch : List (String × String)} {vs : List Value} {ws : List Addr} {sl : Nat} {v : Value}
/-- the object at a is exactly a C, and its fields (in the order of sch) hold vs -/
def Obj (Z : State) (h : Heap) (a : Addr) (C : String) (sch : List (String × String)) (vs : List Value) : Prop :=
  Exa Z h a C ∧ ∀ (i : Nat) (n d : String) (v : Value), sch[i]? = some (n, d) → vs[i]? = some v → Fld Z h a C n d v
def SchOk (Z : State) (a0 : Array Value) (C : String) (sch : List (String × String)) : Prop :=
  (∀ q ∈ sch, Laid Z a0 C C q.1 q.2) ∧ (∀ q ∈ sch, (parseFieldDescriptor q.2).isSome = true) ∧ (sch.map (·.1)).Nodup
theorem Obj.exa (O : Obj Z h a C sch vs) : Exa Z h a C := O.1
theorem Obj.lt (O : Obj Z h a C sch vs) : a < h.size := O.1.lt
theorem Obj.fld (O : Obj Z h a C sch vs) (i : Nat) {n d : String} {v : Value} (h1 : sch[i]? = some (n, d)) (h2 : vs[i]? = some v) : Fld Z h a C n d v := O.2 i n d v h1 h2
theorem Obj.ext (O : Obj Z h a C sch vs) (E : Ext h h') : Obj Z h' a C sch vs := ⟨O.1.ext E, fun i n d v h1 h2 => (O.2 i n d v h1 h2).ext E⟩
theorem Obj.other (O : Obj Z h b C sch vs) (W : Wr h h' a sl v) (q : b ≠ a) : Obj Z h' b C sch vs := ⟨O.1.wr W, fun i n d v h1 h2 => (O.2 i n d v h1 h2).other W (Or.inl q)⟩
theorem Obj.keep (O : Obj Z h a C sch vs) (K : Keep h h' ws) (q : a ∉ ws) : Obj Z h' a C sch vs := ⟨O.1.keep K, fun i n d v h1 h2 => (O.2 i n d v h1 h2).keep K q⟩
theorem sch_ne (S : SchOk Z a0 C sch) {i j : Nat} {n d n' d' : String} (hi : sch[i]? = some (n, d)) (hj : sch[j]? = some (n', d')) (ne : i ≠ j) : n ≠ n' := by
  intro q
  have h3 := S.2.2
  rw [List.nodup_iff_pairwise_ne, List.pairwise_iff_getElem] at h3
  have e1 : (sch.map (·.1))[i]? = some n := by rw [List.getElem?_map, hi]; rfl
  have e2 : (sch.map (·.1))[j]? = some n' := by rw [List.getElem?_map, hj]; rfl
  obtain ⟨l1, f1⟩ := List.getElem?_eq_some_iff.mp e1
  obtain ⟨l2, f2⟩ := List.getElem?_eq_some_iff.mp e2
  rcases Nat.lt_or_gt_of_ne ne with k | k
  · exact h3 i j l1 l2 k (by rw [f1, f2, q])
  · exact h3 j i l2 l1 k (by rw [f1, f2, q])
theorem sch_ty (S : SchOk Z a0 C sch) {i : Nat} {n d : String} (hi : sch[i]? = some (n, d)) : ∃ t, parseFieldDescriptor d = some t :=
  Option.isSome_iff_exists.mp (S.2.1 _ (List.mem_of_getElem? hi))
theorem Obj.set (O : Obj Z h a C sch vs) (S : SchOk Z a0 C sch) {n d : String} (W : Wr h h' a (Jvm.RoadKit.slotOf Z C n d) v) (i : Nat) (hi : sch[i]? = some (n, d)) (hl : i < vs.length) : Obj Z h' a C sch (vs.set i v) := by
  refine ⟨O.1.wr W, fun j n' d' w h1 h2 => ?_⟩
  by_cases q : j = i
  · subst q
    cases hi.symm.trans h1
    rw [List.getElem?_set_self hl] at h2
    cases h2
    exact Fld.same W (O.2 j n d _ hi (List.getElem?_eq_getElem hl))
  · rw [List.getElem?_set_ne (Ne.symm q)] at h2
    obtain ⟨t, ht⟩ := sch_ty S hi
    obtain ⟨t', ht'⟩ := sch_ty S h1
    have L1 : Laid Z a0 C C n' d' := S.1 (n', d') (List.mem_of_getElem? h1)
    have L2 : Laid Z a0 C C n d := S.1 (n, d) (List.mem_of_getElem? hi)
    exact Fld.other W (O.2 j n' d' w h1 h2) (Or.inr (slot_ne L1 L2 (sch_ne S h1 hi q) ht' ht))
theorem Obj.new (S : SchOk Z a0 C sch) (A : Exa Z h a C) (D : ∀ {O nm d : String} {ty : FieldType}, Laid Z a0 C O nm d → parseFieldDescriptor d = some ty → Fld Z h a O nm d (defaultValue ty)) (tys : List FieldType) (ht : sch.map (fun q => parseFieldDescriptor q.2) = tys.map some) : Obj Z h a C sch (tys.map defaultValue) := by
  refine ⟨A, fun i n d v h1 h2 => ?_⟩
  rw [List.getElem?_map] at h2
  have e1 : (sch.map (fun q => parseFieldDescriptor q.2))[i]? = some (parseFieldDescriptor d) := by rw [List.getElem?_map, h1]; rfl
  rw [ht, List.getElem?_map] at e1
  cases hq : tys[i]? with
  | none => rw [hq] at e1; cases e1
  | some t =>
    rw [hq] at e1 h2
    cases h2
    exact D (S.1 _ (List.mem_of_getElem? h1)) (Option.some.inj e1).symm
/-- an array of n places whose i-th holds f i -/
def FA (Z : State) (h : Heap) (a : Addr) (ty : FieldType) (n : Nat) (f : Nat → Value) : Prop :=
  ∃ c : Cell, Arr Z h a c ty ∧ c.slots.size = n ∧ n < 2 ^ 31 ∧ ∀ i, i < n → c.slots[i]? = some (f i)
variable {ty ty' : FieldType} {n n' : Nat} {f f' : Nat → Value}
theorem FA.lt (F : FA Z h a ty n f) : a < h.size := by obtain ⟨c, A, -⟩ := F; exact A.lt
theorem FA.ext (F : FA Z h a ty n f) (E : Ext h h') : FA Z h' a ty n f := by obtain ⟨c, A, r⟩ := F; exact ⟨c, A.ext E, r⟩
theorem FA.other (F : FA Z h b ty n f) (W : Wr h h' a sl v) (q : b ≠ a) : FA Z h' b ty n f := by obtain ⟨c, A, r⟩ := F; exact ⟨c, A.other W q, r⟩
theorem FA.keep (F : FA Z h a ty n f) (K : Keep h h' ws) (q : a ∉ ws) : FA Z h' a ty n f := by obtain ⟨c, A, r⟩ := F; exact ⟨c, ⟨K.2.1 _ _ A.1 q, A.2⟩, r⟩
theorem FA.congr (F : FA Z h a ty n f) (q : ∀ i, i < n → f i = f' i) : FA Z h a ty n f' := by
  obtain ⟨c, A, r1, r2, r3⟩ := F
  exact ⟨c, A, r1, r2, fun i hi => by rw [r3 i hi, q i hi]⟩
theorem FA.new {k : ClassId} {z : Int32} (A : Arr Z h a (newA k ty z) ty) (q : ¬ z < 0) (hn : z.toNatClampNeg = n) {d : Value} (hd : defaultValue ty = d) : FA Z h a ty n (fun _ => d) := by
  subst hn hd
  refine ⟨_, A, sz_new _ _ _, (back32 q).2, fun i hi => ?_⟩
  show (Array.replicate z.toNatClampNeg (defaultValue ty))[i]? = _
  simp [hi]
theorem FA.set (F : FA Z h a ty n f) {k : Nat} (W : Wr h h' a k v) : FA Z h' a ty n (fun i => if i = k then v else f i) := by
  obtain ⟨c, A, r1, r2, r3⟩ := F
  refine ⟨c.setSlot k v, A.same W, by rw [sz_set]; exact r1, r2, fun i hi => ?_⟩
  show (c.slots.setIfInBounds k v)[i]? = _
  by_cases q : i = k
  · subst q; simp [r1, hi]
  · rw [Array.getElem?_setIfInBounds_ne (Ne.symm q), r3 i hi]; simp [q]
theorem FA.ne_ty (F : FA Z h a ty n f) (G : FA Z h b ty' n' f') (q : ty ≠ ty') : a ≠ b := fun e => by
  subst e
  obtain ⟨c, A, -⟩ := F
  obtain ⟨c', A', -⟩ := G
  cases A.1.symm.trans A'.1
  obtain ⟨-, k1, j1, comp, j2⟩ := A.2.1
  obtain ⟨-, k2, i1, comp', i2⟩ := A'.2.1
  cases j1.symm.trans i1
  rw [j2] at i2
  cases i2
  exact q rfl
theorem Obj.ne_fa {kk : Nat} (O : Obj Z h a C sch vs) (wi : (Cond.instantiable C kk).before a0 Z = true) (F : FA Z h b ty n f) : a ≠ b := by
  obtain ⟨c, A, -⟩ := F
  exact ne_arr O.1 wi A
theorem nat_at {j : Int32} {k : Nat} (hk : j.toInt = (k : Int)) : j.toNatClampNeg = k ∧ ¬ j < 0 := by
  refine ⟨by show j.toInt.toNat = k; rw [hk]; rfl, fun q => ?_⟩
  rw [Int32.lt_iff_toInt_lt, hk] at q
  have : (0 : Int32).toInt = 0 := by decide
  omega
theorem inb {j : Int32} {k : Nat} {c : Cell} (hk : j.toInt = (k : Int)) (hn : c.slots.size = n) (hl : k < n) : ¬ (j < 0 ∨ c.slots.size ≤ j.toNatClampNeg) := by
  obtain ⟨h1, h2⟩ := nat_at hk
  rw [h1, hn]
  rintro (q | q)
  · exact h2 q
  · omega
theorem own_laload (X : Stand p l e R s m args below meth c T locs cells slots) (hx : p.tables.exec = Jvm.exec) (hZ : Z.Warmed39 s.vm) (eT : T.heap = h) (F : FA Z h a .long n f) {j : Int32} (k : Nat) (hk : j.toInt = (k : Int)) (hl : k < n) (hv : f k = v)
    {g : JFrame} (hg : g.method = m) {rest : List Value} (hs : g.stack = .int j :: .ref a :: rest) (hd : decode c.code g.pc = .ok (.laload, 1)) : ∀ target, Steps p.tables e below (T.setTop { g with pc := g.pc + 1, stack := v :: rest }) target → Steps p.tables e below (T.setTop g) target := by
  obtain ⟨cl, A, r1, r2, r3⟩ := F
  exact fun t k' => X.laload hx (by rw [eT]; exact A.1) (State.isArrayOf_alike hZ.alike A.2.1) A.2.2 (inb hk r1 hl) (by rw [(nat_at hk).1, r3 k hl, hv]) hg hs hd t k'
theorem own_iaload (X : Stand p l e R s m args below meth c T locs cells slots) (hx : p.tables.exec = Jvm.exec) (hZ : Z.Warmed39 s.vm) (eT : T.heap = h) (F : FA Z h a .int n f) {j : Int32} (k : Nat) (hk : j.toInt = (k : Int)) (hl : k < n) (hv : f k = v)
    {g : JFrame} (hg : g.method = m) {rest : List Value} (hs : g.stack = .int j :: .ref a :: rest) (hd : decode c.code g.pc = .ok (.iaload, 1)) : ∀ target, Steps p.tables e below (T.setTop { g with pc := g.pc + 1, stack := v :: rest }) target → Steps p.tables e below (T.setTop g) target := by
  obtain ⟨cl, A, r1, r2, r3⟩ := F
  exact fun t k' => X.iaload hx (by rw [eT]; exact A.1) (State.isArrayOf_alike hZ.alike A.2.1) A.2.2 (inb hk r1 hl) (by rw [(nat_at hk).1, r3 k hl, hv]) hg hs hd t k'
theorem own_baload (X : Stand p l e R s m args below meth c T locs cells slots) (hx : p.tables.exec = Jvm.exec) (hZ : Z.Warmed39 s.vm) (eT : T.heap = h) (F : FA Z h a .byte n f) {j : Int32} (k : Nat) (hk : j.toInt = (k : Int)) (hl : k < n) (hv : f k = v)
    {g : JFrame} (hg : g.method = m) {rest : List Value} (hs : g.stack = .int j :: .ref a :: rest) (hd : decode c.code g.pc = .ok (.baload, 1)) : ∀ target, Steps p.tables e below (T.setTop { g with pc := g.pc + 1, stack := v :: rest }) target → Steps p.tables e below (T.setTop g) target := by
  obtain ⟨cl, A, r1, r2, r3⟩ := F
  exact fun t k' => X.baloadBytes hx (by rw [eT]; exact A.1) (State.isArrayOf_alike hZ.alike A.2.1) A.2.2 (inb hk r1 hl) (by rw [(nat_at hk).1, r3 k hl, hv]) hg hs hd t k'
theorem own_aaload (X : Stand p l e R s m args below meth c T locs cells slots) (hx : p.tables.exec = Jvm.exec) (hZ : Z.Warmed39 s.vm) (eT : T.heap = h) (F : FA Z h a ty n f) (hty : ty.isReference = true) {j : Int32} (k : Nat) (hk : j.toInt = (k : Int)) (hl : k < n) (hv : f k = v)
    {g : JFrame} (hg : g.method = m) {rest : List Value} (hs : g.stack = .int j :: .ref a :: rest) (hd : decode c.code g.pc = .ok (.aaload, 1)) : ∀ target, Steps p.tables e below (T.setTop { g with pc := g.pc + 1, stack := v :: rest }) target → Steps p.tables e below (T.setTop g) target := by
  obtain ⟨cl, A, r1, r2, r3⟩ := F
  exact fun t k' => X.aaload hx (by rw [eT]; exact A.1) (State.isArrayOf_alike hZ.alike A.2.1) hty A.2.2 (inb hk r1 hl) (by rw [(nat_at hk).1, r3 k hl, hv]) hg hs hd t k'
theorem own_len (X : Stand p l e R s m args below meth c T locs cells slots) (hx : p.tables.exec = Jvm.exec) (hZ : Z.Warmed39 s.vm) (eT : T.heap = h) (F : FA Z h a ty n f) {z : Int32} (hz : n.toInt32 = z)
    {g : JFrame} (hg : g.method = m) {rest : List Value} (hs : g.stack = .ref a :: rest) (hd : decode c.code g.pc = .ok (.arraylength, 1)) : ∀ target, Steps p.tables e below (T.setTop { g with pc := g.pc + 1, stack := .int z :: rest }) target → Steps p.tables e below (T.setTop g) target := by
  obtain ⟨cl, A, r1, r2, r3⟩ := F
  refine fun t k' => X.arraylength hx (by rw [eT]; exact A.1) (State.isArrayOf_alike hZ.alike A.2.1) hg hs hd t ?_
  rw [r1, hz]; exact k'
theorem own_iastore (X : Stand p l e R s m args below meth c T locs cells slots) (hx : p.tables.exec = Jvm.exec) (hZ : Z.Warmed39 s.vm) (eT : T.heap = h) (F : FA Z h a .int n f) {j x : Int32} (k : Nat) (hk : j.toInt = (k : Int)) (hl : k < n)
    {g : JFrame} (hg : g.method = m) {rest : List Value} (hs : g.stack = .int x :: .int j :: .ref a :: rest) (hd : decode c.code g.pc = .ok (.iastore, 1)) :
    ∃ T' h', Stand p l e R s m args below meth c T' (locs ++ [⟨a, k⟩]) cells slots ∧ T'.heap = h' ∧ Wr h h' a k (.int x) ∧ ∀ target, Steps p.tables e below (T'.setTop { g with pc := g.pc + 1, stack := rest }) target → Steps p.tables e below (T.setTop g) target := by
  obtain ⟨cl, A, r1, r2, r3⟩ := F
  have q := stI X hx hZ eT A (x := x) (inb hk r1 hl) hg hs hd
  rw [(nat_at hk).1] at q
  exact q
theorem own_lastore (X : Stand p l e R s m args below meth c T locs cells slots) (hx : p.tables.exec = Jvm.exec) (hZ : Z.Warmed39 s.vm) (eT : T.heap = h) (F : FA Z h a .long n f) {j : Int32} {x : Int64} (k : Nat) (hk : j.toInt = (k : Int)) (hl : k < n)
    {g : JFrame} (hg : g.method = m) {rest : List Value} (hs : g.stack = .long x :: .int j :: .ref a :: rest) (hd : decode c.code g.pc = .ok (.lastore, 1)) :
    ∃ T' h', Stand p l e R s m args below meth c T' (locs ++ [⟨a, k⟩]) cells slots ∧ T'.heap = h' ∧ Wr h h' a k (.long x) ∧ ∀ target, Steps p.tables e below (T'.setTop { g with pc := g.pc + 1, stack := rest }) target → Steps p.tables e below (T.setTop g) target := by
  obtain ⟨cl, A, r1, r2, r3⟩ := F
  have q := stJ X hx hZ eT A (x := x) (inb hk r1 hl) hg hs hd
  rw [(nat_at hk).1] at q
  exact q
theorem own_bastore (X : Stand p l e R s m args below meth c T locs cells slots) (hx : p.tables.exec = Jvm.exec) (hZ : Z.Warmed39 s.vm) (eT : T.heap = h) (F : FA Z h a .byte n f) {j x : Int32} (k : Nat) (hk : j.toInt = (k : Int)) (hl : k < n)
    {g : JFrame} (hg : g.method = m) {rest : List Value} (hs : g.stack = .int x :: .int j :: .ref a :: rest) (hd : decode c.code g.pc = .ok (.bastore, 1)) :
    ∃ T' h', Stand p l e R s m args below meth c T' (locs ++ [⟨a, k⟩]) cells slots ∧ T'.heap = h' ∧ Wr h h' a k (.int (nar .byte x)) ∧ ∀ target, Steps p.tables e below (T'.setTop { g with pc := g.pc + 1, stack := rest }) target → Steps p.tables e below (T.setTop g) target := by
  obtain ⟨cl, A, r1, r2, r3⟩ := F
  have q := stB X hx hZ eT A (x := x) (inb hk r1 hl) hg hs hd
  rw [(nat_at hk).1] at q
  exact q
/-- the typed updates -/
def updL (f : Nat → Int64) (k : Nat) (x : Int64) : Nat → Int64 := fun i => if i = k then x else f i
def updI (f : Nat → Int32) (k : Nat) (x : Int32) : Nat → Int32 := fun i => if i = k then x else f i
theorem FA.setL {f : Nat → Int64} {x : Int64} (F : FA Z h a ty n (fun i => .long (f i))) {k : Nat} (W : Wr h h' a k (.long x)) : FA Z h' a ty n (fun i => .long (updL f k x i)) :=
  (F.set W).congr fun i _ => by by_cases q : i = k <;> simp [updL, q]
theorem FA.setI {f : Nat → Int32} {x : Int32} (F : FA Z h a ty n (fun i => .int (f i))) {k : Nat} (W : Wr h h' a k (.int x)) : FA Z h' a ty n (fun i => .int (updI f k x i)) :=
  (F.set W).congr fun i _ => by by_cases q : i = k <;> simp [updI, q]
/-- a call by a contract, whatever it writes or makes: static, virtual, a constructor's -/
theorem own_callS (X : Stand p l e R s m args below meth c T locs cells slots) (hx : p.tables.exec = Jvm.exec) (hZ : Z.Warmed39 s.vm) {own : String} {index : Nat} {y : MethodName} {bytes : ByteArray} {maxL : Nat} {ret : Option FieldType} {rm : Room} {Q : Option Value → Heap → List Loc → Prop} {argsL rest : List Value} {g : JFrame}
    (hown : s.vm.findClass own = some m.cls) (w1 : (Cond.methodLink own index y).before a0 Z = true) (w2 : (Cond.static y).before a0 Z = true) (w3 : (Cond.initialized y.cls).before a0 Z = true) (w4 : (Cond.code y bytes maxL ret).before a0 Z = true)
    (hy : y.cls ≠ "java/lang/invoke/MethodHandle" ∧ y.cls ≠ "java/lang/invoke/VarHandle")
    (hM : MetFree l y (head1 [Cond.code y bytes maxL ret] rm) (fun a U => a = argsL.toArray ∧ Z.Warmed39 U.vm ∧ U.heap = h) (fun _ _ _ _ _ => True) (fun _ U o U' => ∃ v L, o = .returned v ∧ Q v U'.heap L ∧ FrameEnd U o U' L rm.cells rm.slots))
    (eT : T.heap = h) (hg : g.method = m) (hsize : g.locals.size = c.maxLocals) (hlen : ∀ sig, parseMethodDescriptor y.desc = some sig → argsL.length = sig.parameters.length) (hstack : g.stack = argsL.reverse ++ rest) {W : Nat} (hW : 2 * g.monitorRoom + (rest.map fun v => v.category).sum ≤ W)
    (hd : decode c.code g.pc = .ok (.invokestatic index, 3)) (hf : rm.frames + 1 ≤ R.frames) (hl : W + (maxL + 11) + rm.locals ≤ R.locals) (hc : cells + rm.cells ≤ R.cells) (hs : slots + rm.slots ≤ R.slots) :
    ∃ v T' L h', Stand p l e R s m args below meth c T' (locs ++ L) (cells + rm.cells) (slots + rm.slots) ∧ T'.heap = h' ∧ Q v h' L ∧ Steps p.tables e below (T.setTop g) (T'.setTop { g with pc := g.pc + 3, stack := v.toList ++ rest }) := by
  obtain ⟨v, _, ⟨T1, L1, k1, n1⟩, -, X1, ⟨Lc, hQ, l1, y1, z1⟩, st⟩ := Jvm.LawKit.callS X hx (y := y) hown (mvT hZ w1) (mvT hZ w2) (mvT hZ w3) (mvT hZ w4) hy (backOf (rm := rm) (W := W) hM hZ w4 w3 hf hl) (g := g) hg hsize (argsL := argsL) (rest := rest) hlen hstack hW hd (fun _ _ => ⟨rfl, eT, hc, hs⟩)
  dsimp only [Pt.U, Pt.locs, Pt.cells, Pt.slots] at X1 l1 y1 z1 st hQ
  subst l1 y1 z1
  exact ⟨v, T1, Lc, _, X1, rfl, hQ, st _ (Steps.refl _)⟩
theorem own_callV (X : Stand p l e R s m args below meth c T locs cells slots) (hx : p.tables.exec = Jvm.exec) (hZ : Z.Warmed39 s.vm) {own : String} {index : Nat} {y : MethodName} {bytes : ByteArray} {maxL : Nat} {ret : Option FieldType} {rm : Room} {Q : Option Value → Heap → List Loc → Prop} {argsL rest : List Value} {g : JFrame}
    (hown : s.vm.findClass own = some m.cls) (w1 : (Cond.methodLink own index y).before a0 Z = true) (w2 : (Cond.declares y).before a0 Z = true) (w3 : (Cond.selects C y y).before a0 Z = true) (w4 : (Cond.instanceMethod y).before a0 Z = true) (w5 : (Cond.code y bytes maxL ret).before a0 Z = true) (w6 : (Cond.initialized y.cls).before a0 Z = true)
    (hy : y.cls ≠ "java/lang/invoke/MethodHandle" ∧ y.cls ≠ "java/lang/invoke/VarHandle") (E : Exa Z h b C)
    (hM : MetFree l y (head1 [Cond.code y bytes maxL ret] rm) (fun a U => a = (.ref b :: argsL).toArray ∧ Z.Warmed39 U.vm ∧ U.heap = h) (fun _ _ _ _ _ => True) (fun _ U o U' => ∃ v L, o = .returned v ∧ Q v U'.heap L ∧ FrameEnd U o U' L rm.cells rm.slots))
    (eT : T.heap = h) (hg : g.method = m) (hsize : g.locals.size = c.maxLocals) (hlen : ∀ sig, parseMethodDescriptor y.desc = some sig → argsL.length = sig.parameters.length) (hstack : g.stack = argsL.reverse ++ .ref b :: rest) {W : Nat} (hW : 2 * g.monitorRoom + (rest.map fun v => v.category).sum ≤ W)
    (hd : decode c.code g.pc = .ok (.invokevirtual index, 3)) (hf : rm.frames + 1 ≤ R.frames) (hl : W + (maxL + 11) + rm.locals ≤ R.locals) (hc : cells + rm.cells ≤ R.cells) (hs : slots + rm.slots ≤ R.slots) :
    ∃ v T' L h', Stand p l e R s m args below meth c T' (locs ++ L) (cells + rm.cells) (slots + rm.slots) ∧ T'.heap = h' ∧ Q v h' L ∧ Steps p.tables e below (T.setTop g) (T'.setTop { g with pc := g.pc + 3, stack := v.toList ++ rest }) := by
  obtain ⟨cq, kq, qa, qb, qc⟩ := isOf hZ eT E
  obtain ⟨v, _, ⟨T1, L1, k1, n1⟩, -, X1, ⟨Lc, hQ, l1, y1, z1⟩, st⟩ := X.virtualBack hx (y := y) (z := y) hown (mvT hZ w1) (mvT hZ w2) (notFace_of_selects (args := #[]) (mvT hZ w3)) (mvT hZ w3) (mvT hZ w4) hy (backOf (rm := rm) (W := W) hM hZ w5 w6 hf hl) qa qc (g := g) hg hsize (Steps.refl _) (argsL := argsL) (rest := rest) hlen hstack hW hd (fun _ _ => ⟨rfl, eT, hc, hs⟩)
  dsimp only [Pt.U, Pt.locs, Pt.cells, Pt.slots] at X1 l1 y1 z1 st hQ
  subst l1 y1 z1
  exact ⟨v, T1, Lc, _, X1, rfl, hQ, st⟩
theorem own_callI (X : Stand p l e R s m args below meth c T locs cells slots) (hx : p.tables.exec = Jvm.exec) (hZ : Z.Warmed39 s.vm) {own : String} {index : Nat} {y : MethodName} {bytes : ByteArray} {maxL : Nat} {rm : Room} {Q : Option Value → Heap → List Loc → Prop} {argsL rest : List Value} {g : JFrame} (hy1 : y.name = "<init>")
    (hown : s.vm.findClass own = some m.cls) (w1 : (Cond.methodLink own index y).before a0 Z = true) (w2 : (Cond.instanceMethod y).before a0 Z = true) (w3 : (Cond.code y bytes maxL none).before a0 Z = true) (w4 : (Cond.initialized y.cls).before a0 Z = true)
    (hy : y.cls ≠ "java/lang/invoke/MethodHandle" ∧ y.cls ≠ "java/lang/invoke/VarHandle")
    (hM : MetFree l y (head1 [Cond.code y bytes maxL none] rm) (fun a U => a = (.ref b :: argsL).toArray ∧ Z.Warmed39 U.vm ∧ U.heap = h) (fun _ _ _ _ _ => True) (fun _ U o U' => ∃ v L, o = .returned v ∧ Q v U'.heap L ∧ FrameEnd U o U' L rm.cells rm.slots))
    (eT : T.heap = h) (hg : g.method = m) (hsize : g.locals.size = c.maxLocals) (hlen : ∀ sig, parseMethodDescriptor y.desc = some sig → argsL.length = sig.parameters.length) (hstack : g.stack = argsL.reverse ++ .ref b :: rest) {W : Nat} (hW : 2 * g.monitorRoom + (rest.map fun v => v.category).sum ≤ W)
    (hd : decode c.code g.pc = .ok (.invokespecial index, 3)) (hf : rm.frames + 1 ≤ R.frames) (hl : W + (maxL + 11) + rm.locals ≤ R.locals) (hc : cells + rm.cells ≤ R.cells) (hs : slots + rm.slots ≤ R.slots) :
    ∃ v T' L h', Stand p l e R s m args below meth c T' (locs ++ L) (cells + rm.cells) (slots + rm.slots) ∧ T'.heap = h' ∧ Q v h' L ∧ Steps p.tables e below (T.setTop g) (T'.setTop { g with pc := g.pc + 3, stack := v.toList ++ rest }) := by
  obtain ⟨v, _, ⟨T1, L1, k1, n1⟩, -, X1, ⟨Lc, hQ, l1, y1, z1⟩, st⟩ := X.specialBack hx (y := y) hy1 hown (mvT hZ w1) (mvT hZ w2) (mvT hZ w3) hy (backOf (rm := rm) (W := W) hM hZ w3 w4 hf hl) (g := g) hg hsize (Steps.refl _) (a := b) (argsL := argsL) (rest := rest) hlen hstack hW hd (fun _ _ => ⟨rfl, eT, hc, hs⟩)
  dsimp only [Pt.U, Pt.locs, Pt.cells, Pt.slots] at X1 l1 y1 z1 st hQ
  subst l1 y1 z1
  exact ⟨v, T1, Lc, _, X1, rfl, hQ, st⟩
end Own2
section Own3
variable {p : Program} {l : Launch} {e : Env} {R : Room} {s : State} {m : MethodId} {args : Array Value} {below : List Frame} {meth : Method} {c : Code} {T : State} {locs : List Loc} {cells slots : Nat} {Z : State} {a0 : Array Value} {h h' : Heap} {a b : Addr} {C : String}
/-- a call of an instance method that writes nothing -/
theorem own_callR (X : Stand p l e R s m args below meth c T locs cells slots) (hx : p.tables.exec = Jvm.exec) (hZ : Z.Warmed39 s.vm) {own : String} {index : Nat} {y : MethodName} {bytes : ByteArray} {maxL : Nat} {ret : Option FieldType} {fr lo : Nat} {r : Value} {argsL rest : List Value} {g : JFrame}
    (hown : s.vm.findClass own = some m.cls) (w1 : (Cond.methodLink own index y).before a0 Z = true) (w2 : (Cond.declares y).before a0 Z = true) (w3 : (Cond.selects C y y).before a0 Z = true) (w4 : (Cond.instanceMethod y).before a0 Z = true) (w5 : (Cond.code y bytes maxL ret).before a0 Z = true) (w6 : (Cond.initialized y.cls).before a0 Z = true)
    (hy : y.cls ≠ "java/lang/invoke/MethodHandle" ∧ y.cls ≠ "java/lang/invoke/VarHandle") (E : Exa Z h b C)
    (hM : MetFree l y (head1 [Cond.code y bytes maxL ret] ({ frames := fr, cells := 0, slots := 0, locals := lo } : Room)) (fun a U => a = (.ref b :: argsL).toArray ∧ Z.Warmed39 U.vm ∧ U.heap = h) (fun _ _ _ _ _ => True) (fun _ U o U' => ∃ v L, o = .returned v ∧ QP r h v U'.heap L ∧ FrameEnd U o U' L 0 0))
    (eT : T.heap = h) (hg : g.method = m) (hsize : g.locals.size = c.maxLocals) (hlen : ∀ sig, parseMethodDescriptor y.desc = some sig → argsL.length = sig.parameters.length) (hstack : g.stack = argsL.reverse ++ .ref b :: rest) {W : Nat} (hW : 2 * g.monitorRoom + (rest.map fun v => v.category).sum ≤ W)
    (hd : decode c.code g.pc = .ok (.invokevirtual index, 3)) (hf : fr + 1 ≤ R.frames) (hl : W + (maxL + 11) + lo ≤ R.locals) (hc : cells ≤ R.cells) (hs : slots ≤ R.slots) :
    ∃ T', Stand p l e R s m args below meth c T' locs cells slots ∧ T'.heap = h ∧ ∀ target, Steps p.tables e below (T'.setTop { g with pc := g.pc + 3, stack := r :: rest }) target → Steps p.tables e below (T.setTop g) target := by
  obtain ⟨v, T1, L1, h1, X1, e1, ⟨rfl, rfl, q⟩, st⟩ := own_callV X hx hZ hown w1 w2 w3 w4 w5 w6 hy E (rm := ({ frames := fr, cells := 0, slots := 0, locals := lo } : Room)) hM eT hg hsize hlen hstack hW hd hf hl hc hs
  rw [List.append_nil] at X1
  exact ⟨T1, X1, e1.trans q, fun t k => st.trans k⟩
/-- a call of a private instance method by its contract -/
theorem own_callX (X : Stand p l e R s m args below meth c T locs cells slots) (hx : p.tables.exec = Jvm.exec) (hZ : Z.Warmed39 s.vm) {own : String} {index : Nat} {y : MethodName} {bytes : ByteArray} {maxL kk : Nat} {ret : Option FieldType} {rm : Room} {Q : Option Value → Heap → List Loc → Prop} {argsL rest : List Value} {g : JFrame}
    (hown : s.vm.findClass own = some m.cls) (w1 : (Cond.methodLink own index y).before a0 Z = true) (w2 : (Cond.instanceMethod y).before a0 Z = true) (w3 : (Cond.privateMethod y).before a0 Z = true) (w4 : (Cond.code y bytes maxL ret).before a0 Z = true) (w5 : (Cond.initialized y.cls).before a0 Z = true) (w6 : (Cond.instantiable y.cls kk).before a0 Z = true)
    (hy : y.cls ≠ "java/lang/invoke/MethodHandle" ∧ y.cls ≠ "java/lang/invoke/VarHandle") (E : Exa Z h b C)
    (hM : MetFree l y (head1 [Cond.code y bytes maxL ret] rm) (fun a U => a = (.ref b :: argsL).toArray ∧ Z.Warmed39 U.vm ∧ U.heap = h) (fun _ _ _ _ _ => True) (fun _ U o U' => ∃ v L, o = .returned v ∧ Q v U'.heap L ∧ FrameEnd U o U' L rm.cells rm.slots))
    (eT : T.heap = h) (hg : g.method = m) (hsize : g.locals.size = c.maxLocals) (hlen : ∀ sig, parseMethodDescriptor y.desc = some sig → argsL.length = sig.parameters.length) (hstack : g.stack = argsL.reverse ++ .ref b :: rest) {W : Nat} (hW : 2 * g.monitorRoom + (rest.map fun v => v.category).sum ≤ W)
    (hd : decode c.code g.pc = .ok (.invokevirtual index, 3)) (hf : rm.frames + 1 ≤ R.frames) (hl : W + (maxL + 11) + rm.locals ≤ R.locals) (hc : cells + rm.cells ≤ R.cells) (hs : slots + rm.slots ≤ R.slots) :
    ∃ v T' L h', Stand p l e R s m args below meth c T' (locs ++ L) (cells + rm.cells) (slots + rm.slots) ∧ T'.heap = h' ∧ Q v h' L ∧ Steps p.tables e below (T.setTop g) (T'.setTop { g with pc := g.pc + 3, stack := v.toList ++ rest }) := by
  have v2 : (Cond.instanceMethod y).before args s = true := mvT hZ w2
  have v4 : (Cond.code y bytes maxL ret).before args s = true := mvT hZ w4
  have v6 : (Cond.instantiable y.cls kk).before args s = true := mv hZ w6
  obtain ⟨mk, me, n1, n2, n3, n4⟩ := Cond.instanceMethod_spec v2
  obtain ⟨me', cM, n5, -, -, -, -, -, -, n6⟩ := Cond.code_spec n1 v4
  cases n2.symm.trans n5
  obtain ⟨cI, kI, i1, i2, -, i4, -⟩ := Cond.instantiable_spec v6
  cases (findClass_of_methodNamed n1).symm.trans i1
  have ni : kI.isInterface = false := by simp only [Bool.or_eq_false_iff] at i4; exact i4.1
  obtain ⟨cell, c1, c2⟩ := E.cell
  have pr := Cond.privateMethod_at (mvP hZ w3 (args := args)) mk me n1 n2
  obtain ⟨vm₁, X₁, s₁⟩ := X.invokevirtual hx hown (mvT hZ w1) n1 n2 n3 i2 ni hy (a := b) (cell := cell) (by rw [eT]; exact c1) c2 (selectMethod_private n2 pr) n2 n4 i2 ni (g := g) hg (argsL := argsL) (rest := rest) (hlen _ n6) hstack hd
  obtain ⟨v, ⟨T1, L1, k1, n1'⟩, X1, ⟨Lc, hQ, l1, y1, z1⟩, st⟩ := backOf (rm := rm) (W := W) hM hZ w4 w5 hf hl m meth c ⟨T.setVm vm₁, locs, cells, slots⟩ { g with stack := rest } (.invokevirtual index) mk (.ref b :: argsL).toArray X₁ hg hsize hd hW (X₁.named n1) ⟨rfl, eT, hc, hs⟩
  dsimp only [Pt.U, Pt.locs, Pt.cells, Pt.slots] at X1 l1 y1 z1 st hQ
  subst l1 y1 z1
  exact ⟨v, T1, Lc, _, X1, rfl, hQ, (s₁ _ fun acts => by rw [doInvoke_state]; exact Steps.refl _).trans st⟩
theorem own_callXR (X : Stand p l e R s m args below meth c T locs cells slots) (hx : p.tables.exec = Jvm.exec) (hZ : Z.Warmed39 s.vm) {own : String} {index : Nat} {y : MethodName} {bytes : ByteArray} {maxL kk : Nat} {ret : Option FieldType} {fr lo : Nat} {r : Value} {argsL rest : List Value} {g : JFrame}
    (hown : s.vm.findClass own = some m.cls) (w1 : (Cond.methodLink own index y).before a0 Z = true) (w2 : (Cond.instanceMethod y).before a0 Z = true) (w3 : (Cond.privateMethod y).before a0 Z = true) (w4 : (Cond.code y bytes maxL ret).before a0 Z = true) (w5 : (Cond.initialized y.cls).before a0 Z = true) (w6 : (Cond.instantiable y.cls kk).before a0 Z = true)
    (hy : y.cls ≠ "java/lang/invoke/MethodHandle" ∧ y.cls ≠ "java/lang/invoke/VarHandle") (E : Exa Z h b C)
    (hM : MetFree l y (head1 [Cond.code y bytes maxL ret] ({ frames := fr, cells := 0, slots := 0, locals := lo } : Room)) (fun a U => a = (.ref b :: argsL).toArray ∧ Z.Warmed39 U.vm ∧ U.heap = h) (fun _ _ _ _ _ => True) (fun _ U o U' => ∃ v L, o = .returned v ∧ QP r h v U'.heap L ∧ FrameEnd U o U' L 0 0))
    (eT : T.heap = h) (hg : g.method = m) (hsize : g.locals.size = c.maxLocals) (hlen : ∀ sig, parseMethodDescriptor y.desc = some sig → argsL.length = sig.parameters.length) (hstack : g.stack = argsL.reverse ++ .ref b :: rest) {W : Nat} (hW : 2 * g.monitorRoom + (rest.map fun v => v.category).sum ≤ W)
    (hd : decode c.code g.pc = .ok (.invokevirtual index, 3)) (hf : fr + 1 ≤ R.frames) (hl : W + (maxL + 11) + lo ≤ R.locals) (hc : cells ≤ R.cells) (hs : slots ≤ R.slots) :
    ∃ T', Stand p l e R s m args below meth c T' locs cells slots ∧ T'.heap = h ∧ ∀ target, Steps p.tables e below (T'.setTop { g with pc := g.pc + 3, stack := r :: rest }) target → Steps p.tables e below (T.setTop g) target := by
  obtain ⟨v, T1, L1, h1, X1, e1, ⟨rfl, rfl, q⟩, st⟩ := own_callX X hx hZ hown w1 w2 w3 w4 w5 w6 hy E (rm := ({ frames := fr, cells := 0, slots := 0, locals := lo } : Room)) hM eT hg hsize hlen hstack hW hd hf hl hc hs
  rw [List.append_nil] at X1
  exact ⟨T1, X1, e1.trans q, fun t k => st.trans k⟩
end Own3
theorem pd_prJ : parseMethodDescriptor "()J" = some ⟨[], some .long⟩ := by decide +kernel
theorem pd_pCrV : parseMethodDescriptor "(C)V" = some ⟨[.char], none⟩ := by decide +kernel
theorem pd_pCZrZ : parseMethodDescriptor "(CZ)Z" = some ⟨[.char, .boolean], some .boolean⟩ := by decide +kernel
theorem pd_pIrC : parseMethodDescriptor "(I)C" = some ⟨[.int], some .char⟩ := by decide +kernel
theorem pd_pZrV : parseMethodDescriptor "(Z)V" = some ⟨[.boolean], none⟩ := by decide +kernel
theorem pd_pZCZrJ : parseMethodDescriptor "(ZCZ)J" = some ⟨[.boolean, .char, .boolean], some .long⟩ := by decide +kernel
def sch_lines : List (String × String) := [("xml11", "Z"), ("column", "J"), ("afterCarriageReturn", "Z"), ("ends", "J")]
theorem so_sch_lines {Z : State} {a0 : Array Value} (hw : ∀ d ∈ tables_1, d.before a0 Z = true) : SchOk Z a0 "com/example/boughcheck/boughcheck/DoctypeScan$Lines" sch_lines := by
  refine ⟨fun q hq => ?_, by decide, by decide⟩
  simp only [sch_lines, List.mem_cons, List.not_mem_nil, or_false] at hq
  rcases hq with rfl | rfl | rfl | rfl
  · exact Or.inr (hw _ (List.mem_of_getElem? (i := 14) rfl))
  · exact Or.inl (hw _ (List.mem_of_getElem? (i := 21) rfl))
  · exact Or.inl (hw _ (List.mem_of_getElem? (i := 23) rfl))
  · exact Or.inl (hw _ (List.mem_of_getElem? (i := 37) rfl))
theorem d1_0 : decode method_2_code 0 = .ok (.iload_n 0, 1) := by decide +kernel
theorem d1_1 : decode method_2_code 1 = .ok (.bipush 7, 2) := by decide +kernel
theorem d1_3 : decode method_2_code 3 = .ok (.iand, 1) := by decide +kernel
theorem d1_4 : decode method_2_code 4 = .ok (.istore_n 1, 1) := by decide +kernel
theorem d1_5 : decode method_2_code 5 = .ok (.iload_n 1, 1) := by decide +kernel
theorem d1_6 : decode method_2_code 6 = .ok (.ifCond .ne 6, 3) := by decide +kernel
theorem d1_9 : decode method_2_code 9 = .ok (.bipush 13, 2) := by decide +kernel
theorem d1_11 : decode method_2_code 11 = .ok (.ireturn, 1) := by decide +kernel
theorem d1_12 : decode method_2_code 12 = .ok (.iload_n 1, 1) := by decide +kernel
theorem d1_13 : decode method_2_code 13 = .ok (.iconst 1, 1) := by decide +kernel
theorem d1_14 : decode method_2_code 14 = .ok (.if_icmp .ne 6, 3) := by decide +kernel
theorem d1_17 : decode method_2_code 17 = .ok (.bipush 10, 2) := by decide +kernel
theorem d1_19 : decode method_2_code 19 = .ok (.ireturn, 1) := by decide +kernel
theorem d1_20 : decode method_2_code 20 = .ok (.iload_n 1, 1) := by decide +kernel
theorem d1_21 : decode method_2_code 21 = .ok (.iconst 2, 1) := by decide +kernel
theorem d1_22 : decode method_2_code 22 = .ok (.if_icmp .ne 7, 3) := by decide +kernel
theorem d1_25 : decode method_2_code 25 = .ok (.sipush 133, 3) := by decide +kernel
theorem d1_28 : decode method_2_code 28 = .ok (.ireturn, 1) := by decide +kernel
theorem d1_29 : decode method_2_code 29 = .ok (.iload_n 1, 1) := by decide +kernel
theorem d1_30 : decode method_2_code 30 = .ok (.iconst 3, 1) := by decide +kernel
theorem d1_31 : decode method_2_code 31 = .ok (.if_icmp .ne 7, 3) := by decide +kernel
theorem d1_34 : decode method_2_code 34 = .ok (.sipush 8232, 3) := by decide +kernel
theorem d1_37 : decode method_2_code 37 = .ok (.ireturn, 1) := by decide +kernel
theorem d1_38 : decode method_2_code 38 = .ok (.iload_n 0, 1) := by decide +kernel
theorem d1_39 : decode method_2_code 39 = .ok (.iconst 3, 1) := by decide +kernel
theorem d1_40 : decode method_2_code 40 = .ok (.iushr, 1) := by decide +kernel
theorem d1_41 : decode method_2_code 41 = .ok (.i2c, 1) := by decide +kernel
theorem d1_42 : decode method_2_code 42 = .ok (.ireturn, 1) := by decide +kernel
theorem pn_1 : plainName "com/example/boughcheck/boughcheck/LinesTakePinLaw" = true := by first | (simp [plainName, overriddenIn]; done) | decide +kernel
theorem ef_1 (m : MethodId) (q0 : Int32) : entryFrame m #[(.int q0)] 2 = mkF m 0 #[.val (.int q0), .unset] [] := by first | (simp [entryFrame, mkF, argsToLocals, Value.category]; done) | rfl
def draw (q0 : Int32) : Int32 := if (q0 &&& (7 : Int32)) = (0 : Int32) then (13 : Int32) else if (q0 &&& (7 : Int32)) = (1 : Int32) then (10 : Int32) else if (q0 &&& (7 : Int32)) = (2 : Int32) then (133 : Int32) else if (q0 &&& (7 : Int32)) = (3 : Int32) then (8232 : Int32) else (nar .char (((q0.toUInt32 >>> ((3 : Int32) &&& 31).toUInt32).toInt32).toUInt32.toUInt16.toUInt32.toInt32))
set_option maxRecDepth 65536 in
set_option maxHeartbeats 40000000 in
theorem rm_draw (l : Launch) (Z : State) (a0 : Array Value) (hw : ∀ d ∈ tables_1, d.before a0 Z = true) (ws : List Jvm.Cond) (q0 : Int32) (h0 : Heap) :
    MetFree l (⟨"com/example/boughcheck/boughcheck/LinesTakePinLaw", "draw", "(I)C"⟩ : MethodName) (head1 (Jvm.Cond.code (⟨"com/example/boughcheck/boughcheck/LinesTakePinLaw", "draw", "(I)C"⟩ : MethodName) method_2_code 2 (some .char) :: ws) ({ frames := 0, cells := 0, slots := 0, locals := 0 } : Room)) (fun a U => a = #[(.int q0)] ∧ Z.Warmed39 U.vm ∧ U.heap = h0) (fun _ _ _ _ _ => True) (fun _ U o U' => ∃ v L, o = .returned v ∧ QP (Value.int (draw q0)) h0 v U'.heap L ∧ FrameEnd U o U' L 0 0) := by
  refine MetFree.of_bodySF (plainFor_of_name pn_1) hisR ?_
  intro p e s m args below meth c s₁ Bd hml0 hP hK
  obtain ⟨rfl, hZ, hh⟩ := hP
  have hx := Bd.exec
  have hby := Bd.bytes
  have hlk : meth.locks = false := Bd.notSynchronized
  have hml : c.maxLocals = 2 := hml0
  have hown : s.vm.findClass "com/example/boughcheck/boughcheck/LinesTakePinLaw" = some m.cls := findClass_of_methodNamed Bd.named
  have X0 : Stand p l e ({ frames := 0, cells := 0, slots := 0, locals := 0 } : Room) s m #[(.int q0)] below meth c s₁ [] 0 0 := Stand.of_body Bd
  have e0 : s₁.heap = h0 := by rw [← hh, Bd.state]; rfl
  show OEnds p e below s _ _ _ _
  refine own_by (fun t k => castTop (ef_1 m q0) k) ?_
  show OEnds p e below s _ _ _ (s₁.setTop (mkF m 0 #[.val (.int q0), .unset] []))
  refine own_by (fun _ k => XS.iloadN X0.here hx rfl (hb hby d1_0) rfl k) ?_
  show OEnds p e below s _ _ _ (s₁.setTop (mkF m 1 #[.val (.int q0), .unset] [(.int q0)]))
  refine own_by (fun _ k => XS.bipush X0.here hx rfl (hb hby d1_1) k) ?_
  show OEnds p e below s _ _ _ (s₁.setTop (mkF m 3 #[.val (.int q0), .unset] [(.int (7 : Int32)), (.int q0)]))
  refine own_by (fun _ k => XS.iand X0.here hx rfl (hb hby d1_3) rfl k) ?_
  show OEnds p e below s _ _ _ (s₁.setTop (mkF m 4 #[.val (.int q0), .unset] [(.int (q0 &&& (7 : Int32)))]))
  refine own_by (fun _ k => XS.istoreN X0.here hx rfl (hb hby d1_4) rfl (l' := #[.val (.int q0), .val (.int (q0 &&& (7 : Int32)))]) rfl k) ?_
  show OEnds p e below s _ _ _ (s₁.setTop (mkF m 5 #[.val (.int q0), .val (.int (q0 &&& (7 : Int32)))] []))
  refine own_by (fun _ k => XS.iloadN X0.here hx rfl (hb hby d1_5) rfl k) ?_
  show OEnds p e below s _ _ _ (s₁.setTop (mkF m 6 #[.val (.int q0), .val (.int (q0 &&& (7 : Int32)))] [(.int (q0 &&& (7 : Int32)))]))
  by_cases hc6 : (q0 &&& (7 : Int32)) = (0 : Int32)
  · refine own_by (fun _ k => XS.ifNo X0.here hx rfl (hb hby d1_6) rfl ((if0 _ _).trans (teq hc6).2) k) ?_
    show OEnds p e below s _ _ _ (s₁.setTop (mkF m 9 #[.val (.int q0), .val (.int (q0 &&& (7 : Int32)))] []))
    refine own_by (fun _ k => XS.bipush X0.here hx rfl (hb hby d1_9) k) ?_
    show OEnds p e below s _ _ _ (s₁.setTop (mkF m 11 #[.val (.int q0), .val (.int (q0 &&& (7 : Int32)))] [(.int (13 : Int32))]))
    exact own_retN X0 hx hlk .char (by simp) Bd.returns (hb hby d1_11) ⟨congrArg (fun z => some (Value.int z)) (Eq.symm (by rw [draw, if_pos hc6] <;> rfl)), rfl, e0⟩ (Nat.le_refl _) (Nat.le_refl _)
  · refine own_by (fun _ k => XS.ifYes X0.here hx rfl (pc0 := 6) (pc' := 12) rfl (hb hby d1_6) rfl ((if0 _ _).trans (feq hc6).2) (by decide) (by decide) k) ?_
    show OEnds p e below s _ _ _ (s₁.setTop (mkF m 12 #[.val (.int q0), .val (.int (q0 &&& (7 : Int32)))] []))
    refine own_by (fun _ k => XS.iloadN X0.here hx rfl (hb hby d1_12) rfl k) ?_
    show OEnds p e below s _ _ _ (s₁.setTop (mkF m 13 #[.val (.int q0), .val (.int (q0 &&& (7 : Int32)))] [(.int (q0 &&& (7 : Int32)))]))
    refine own_by (fun _ k => XS.iconst X0.here hx rfl (hb hby d1_13) k) ?_
    show OEnds p e below s _ _ _ (s₁.setTop (mkF m 14 #[.val (.int q0), .val (.int (q0 &&& (7 : Int32)))] [(.int (1 : Int32)), (.int (q0 &&& (7 : Int32)))]))
    by_cases hc14 : (q0 &&& (7 : Int32)) = (1 : Int32)
    · refine own_by (fun _ k => XS.icmpNo X0.here hx rfl (hb hby d1_14) rfl (teq hc14).2 k) ?_
      show OEnds p e below s _ _ _ (s₁.setTop (mkF m 17 #[.val (.int q0), .val (.int (q0 &&& (7 : Int32)))] []))
      refine own_by (fun _ k => XS.bipush X0.here hx rfl (hb hby d1_17) k) ?_
      show OEnds p e below s _ _ _ (s₁.setTop (mkF m 19 #[.val (.int q0), .val (.int (q0 &&& (7 : Int32)))] [(.int (10 : Int32))]))
      exact own_retN X0 hx hlk .char (by simp) Bd.returns (hb hby d1_19) ⟨congrArg (fun z => some (Value.int z)) (Eq.symm (by rw [draw, if_neg hc6, if_pos hc14] <;> rfl)), rfl, e0⟩ (Nat.le_refl _) (Nat.le_refl _)
    · refine own_by (fun _ k => XS.icmpYes X0.here hx rfl (pc0 := 14) (pc' := 20) rfl (hb hby d1_14) rfl (feq hc14).2 (by decide) (by decide) k) ?_
      show OEnds p e below s _ _ _ (s₁.setTop (mkF m 20 #[.val (.int q0), .val (.int (q0 &&& (7 : Int32)))] []))
      refine own_by (fun _ k => XS.iloadN X0.here hx rfl (hb hby d1_20) rfl k) ?_
      show OEnds p e below s _ _ _ (s₁.setTop (mkF m 21 #[.val (.int q0), .val (.int (q0 &&& (7 : Int32)))] [(.int (q0 &&& (7 : Int32)))]))
      refine own_by (fun _ k => XS.iconst X0.here hx rfl (hb hby d1_21) k) ?_
      show OEnds p e below s _ _ _ (s₁.setTop (mkF m 22 #[.val (.int q0), .val (.int (q0 &&& (7 : Int32)))] [(.int (2 : Int32)), (.int (q0 &&& (7 : Int32)))]))
      by_cases hc22 : (q0 &&& (7 : Int32)) = (2 : Int32)
      · refine own_by (fun _ k => XS.icmpNo X0.here hx rfl (hb hby d1_22) rfl (teq hc22).2 k) ?_
        show OEnds p e below s _ _ _ (s₁.setTop (mkF m 25 #[.val (.int q0), .val (.int (q0 &&& (7 : Int32)))] []))
        refine own_by (fun _ k => XS.sipush X0.here hx rfl (hb hby d1_25) k) ?_
        show OEnds p e below s _ _ _ (s₁.setTop (mkF m 28 #[.val (.int q0), .val (.int (q0 &&& (7 : Int32)))] [(.int (133 : Int32))]))
        exact own_retN X0 hx hlk .char (by simp) Bd.returns (hb hby d1_28) ⟨congrArg (fun z => some (Value.int z)) (Eq.symm (by rw [draw, if_neg hc6, if_neg hc14, if_pos hc22] <;> rfl)), rfl, e0⟩ (Nat.le_refl _) (Nat.le_refl _)
      · refine own_by (fun _ k => XS.icmpYes X0.here hx rfl (pc0 := 22) (pc' := 29) rfl (hb hby d1_22) rfl (feq hc22).2 (by decide) (by decide) k) ?_
        show OEnds p e below s _ _ _ (s₁.setTop (mkF m 29 #[.val (.int q0), .val (.int (q0 &&& (7 : Int32)))] []))
        refine own_by (fun _ k => XS.iloadN X0.here hx rfl (hb hby d1_29) rfl k) ?_
        show OEnds p e below s _ _ _ (s₁.setTop (mkF m 30 #[.val (.int q0), .val (.int (q0 &&& (7 : Int32)))] [(.int (q0 &&& (7 : Int32)))]))
        refine own_by (fun _ k => XS.iconst X0.here hx rfl (hb hby d1_30) k) ?_
        show OEnds p e below s _ _ _ (s₁.setTop (mkF m 31 #[.val (.int q0), .val (.int (q0 &&& (7 : Int32)))] [(.int (3 : Int32)), (.int (q0 &&& (7 : Int32)))]))
        by_cases hc31 : (q0 &&& (7 : Int32)) = (3 : Int32)
        · refine own_by (fun _ k => XS.icmpNo X0.here hx rfl (hb hby d1_31) rfl (teq hc31).2 k) ?_
          show OEnds p e below s _ _ _ (s₁.setTop (mkF m 34 #[.val (.int q0), .val (.int (q0 &&& (7 : Int32)))] []))
          refine own_by (fun _ k => XS.sipush X0.here hx rfl (hb hby d1_34) k) ?_
          show OEnds p e below s _ _ _ (s₁.setTop (mkF m 37 #[.val (.int q0), .val (.int (q0 &&& (7 : Int32)))] [(.int (8232 : Int32))]))
          exact own_retN X0 hx hlk .char (by simp) Bd.returns (hb hby d1_37) ⟨congrArg (fun z => some (Value.int z)) (Eq.symm (by rw [draw, if_neg hc6, if_neg hc14, if_neg hc22, if_pos hc31] <;> rfl)), rfl, e0⟩ (Nat.le_refl _) (Nat.le_refl _)
        · refine own_by (fun _ k => XS.icmpYes X0.here hx rfl (pc0 := 31) (pc' := 38) rfl (hb hby d1_31) rfl (feq hc31).2 (by decide) (by decide) k) ?_
          show OEnds p e below s _ _ _ (s₁.setTop (mkF m 38 #[.val (.int q0), .val (.int (q0 &&& (7 : Int32)))] []))
          refine own_by (fun _ k => XS.iloadN X0.here hx rfl (hb hby d1_38) rfl k) ?_
          show OEnds p e below s _ _ _ (s₁.setTop (mkF m 39 #[.val (.int q0), .val (.int (q0 &&& (7 : Int32)))] [(.int q0)]))
          refine own_by (fun _ k => XS.iconst X0.here hx rfl (hb hby d1_39) k) ?_
          show OEnds p e below s _ _ _ (s₁.setTop (mkF m 40 #[.val (.int q0), .val (.int (q0 &&& (7 : Int32)))] [(.int (3 : Int32)), (.int q0)]))
          refine own_by (fun _ k => XS.iushr X0.here hx rfl (hb hby d1_40) rfl k) ?_
          show OEnds p e below s _ _ _ (s₁.setTop (mkF m 41 #[.val (.int q0), .val (.int (q0 &&& (7 : Int32)))] [(.int ((q0.toUInt32 >>> ((3 : Int32) &&& 31).toUInt32).toInt32))]))
          refine own_by (fun _ k => XS.i2c X0.here hx rfl (hb hby d1_41) rfl k) ?_
          show OEnds p e below s _ _ _ (s₁.setTop (mkF m 42 #[.val (.int q0), .val (.int (q0 &&& (7 : Int32)))] [(.int (((q0.toUInt32 >>> ((3 : Int32) &&& 31).toUInt32).toInt32).toUInt32.toUInt16.toUInt32.toInt32))]))
          exact own_retN X0 hx hlk .char (by simp) Bd.returns (hb hby d1_42) ⟨congrArg (fun z => some (Value.int z)) (Eq.symm (by rw [draw, if_neg hc6, if_neg hc14, if_neg hc22, if_neg hc31] <;> rfl)), rfl, e0⟩ (Nat.le_refl _) (Nat.le_refl _)
theorem d5_0 : decode method_4_code 0 = .ok (.iload_n 1, 1) := by decide +kernel
theorem d5_1 : decode method_4_code 1 = .ok (.bipush 13, 2) := by decide +kernel
theorem d5_3 : decode method_4_code 3 = .ok (.if_icmp .eq 14, 3) := by decide +kernel
theorem d5_6 : decode method_4_code 6 = .ok (.iload_n 2, 1) := by decide +kernel
theorem d5_7 : decode method_4_code 7 = .ok (.ifCond .eq 14, 3) := by decide +kernel
theorem d5_10 : decode method_4_code 10 = .ok (.iload_n 1, 1) := by decide +kernel
theorem d5_11 : decode method_4_code 11 = .ok (.sipush 8232, 3) := by decide +kernel
theorem d5_14 : decode method_4_code 14 = .ok (.if_icmp .ne 7, 3) := by decide +kernel
theorem d5_17 : decode method_4_code 17 = .ok (.iconst 1, 1) := by decide +kernel
theorem d5_18 : decode method_4_code 18 = .ok (.goto 4, 3) := by decide +kernel
theorem d5_21 : decode method_4_code 21 = .ok (.iconst 0, 1) := by decide +kernel
theorem d5_22 : decode method_4_code 22 = .ok (.istore_n 3, 1) := by decide +kernel
theorem d5_23 : decode method_4_code 23 = .ok (.iload_n 1, 1) := by decide +kernel
theorem d5_24 : decode method_4_code 24 = .ok (.bipush 10, 2) := by decide +kernel
theorem d5_26 : decode method_4_code 26 = .ok (.if_icmp .eq 14, 3) := by decide +kernel
theorem d5_29 : decode method_4_code 29 = .ok (.iload_n 2, 1) := by decide +kernel
theorem d5_30 : decode method_4_code 30 = .ok (.ifCond .eq 14, 3) := by decide +kernel
theorem d5_33 : decode method_4_code 33 = .ok (.iload_n 1, 1) := by decide +kernel
theorem d5_34 : decode method_4_code 34 = .ok (.sipush 133, 3) := by decide +kernel
theorem d5_37 : decode method_4_code 37 = .ok (.if_icmp .ne 7, 3) := by decide +kernel
theorem d5_40 : decode method_4_code 40 = .ok (.iconst 1, 1) := by decide +kernel
theorem d5_41 : decode method_4_code 41 = .ok (.goto 4, 3) := by decide +kernel
theorem d5_44 : decode method_4_code 44 = .ok (.iconst 0, 1) := by decide +kernel
theorem d5_45 : decode method_4_code 45 = .ok (.istore 4, 2) := by decide +kernel
theorem d5_47 : decode method_4_code 47 = .ok (.iload_n 3, 1) := by decide +kernel
theorem d5_48 : decode method_4_code 48 = .ok (.ifCond .eq 5, 3) := by decide +kernel
theorem d5_51 : decode method_4_code 51 = .ok (.lconst 1, 1) := by decide +kernel
theorem d5_52 : decode method_4_code 52 = .ok (.lreturn, 1) := by decide +kernel
theorem d5_53 : decode method_4_code 53 = .ok (.iload 4, 2) := by decide +kernel
theorem d5_55 : decode method_4_code 55 = .ok (.ifCond .eq 9, 3) := by decide +kernel
theorem d5_58 : decode method_4_code 58 = .ok (.iload_n 0, 1) := by decide +kernel
theorem d5_59 : decode method_4_code 59 = .ok (.ifCond .ne 5, 3) := by decide +kernel
theorem d5_62 : decode method_4_code 62 = .ok (.lconst 1, 1) := by decide +kernel
theorem d5_63 : decode method_4_code 63 = .ok (.lreturn, 1) := by decide +kernel
theorem d5_64 : decode method_4_code 64 = .ok (.lconst 0, 1) := by decide +kernel
theorem d5_65 : decode method_4_code 65 = .ok (.lreturn, 1) := by decide +kernel
theorem pn_5 : plainName "com/example/boughcheck/boughcheck/LinesTakePinLaw" = true := by first | (simp [plainName, overriddenIn]; done) | decide +kernel
theorem ef_5 (m : MethodId) (q0 : Int32) (q1 : Int32) (q2 : Int32) : entryFrame m #[(.int q0), (.int q1), (.int q2)] 5 = mkF m 0 #[.val (.int q0), .val (.int q1), .val (.int q2), .unset, .unset] [] := by first | (simp [entryFrame, mkF, argsToLocals, Value.category]; done) | rfl
def endsLine_64  : Int64 := (0 : Int64)
def endsLine_45 (q0 : Int32) (v22_s0 : Int32) (v45_s0 : Int32) : Int64 := if v22_s0 = (0 : Int32) then if v45_s0 = (0 : Int32) then endsLine_64 else if q0 = (0 : Int32) then (1 : Int64) else endsLine_64 else (1 : Int64)
def endsLine_44 (q0 : Int32) (v22_s0 : Int32) : Int64 := (endsLine_45 q0 v22_s0 (0 : Int32))
def endsLine_40 (q0 : Int32) (v22_s0 : Int32) : Int64 := (endsLine_45 q0 v22_s0 (1 : Int32))
def endsLine_22 (q0 : Int32) (q1 : Int32) (q2 : Int32) (v22_s0 : Int32) : Int64 := if q1 = (10 : Int32) then (endsLine_40 q0 v22_s0) else if q2 = (0 : Int32) then (endsLine_44 q0 v22_s0) else if q1 = (133 : Int32) then (endsLine_40 q0 v22_s0) else (endsLine_44 q0 v22_s0)
def endsLine_21 (q0 : Int32) (q1 : Int32) (q2 : Int32) : Int64 := (endsLine_22 q0 q1 q2 (0 : Int32))
def endsLine_17 (q0 : Int32) (q1 : Int32) (q2 : Int32) : Int64 := (endsLine_22 q0 q1 q2 (1 : Int32))
def endsLine (q0 : Int32) (q1 : Int32) (q2 : Int32) : Int64 := if q1 = (13 : Int32) then (endsLine_17 q0 q1 q2) else if q2 = (0 : Int32) then (endsLine_21 q0 q1 q2) else if q1 = (8232 : Int32) then (endsLine_17 q0 q1 q2) else (endsLine_21 q0 q1 q2)
set_option maxRecDepth 65536 in
set_option maxHeartbeats 40000000 in
theorem rm_endsLine (l : Launch) (Z : State) (a0 : Array Value) (hw : ∀ d ∈ tables_1, d.before a0 Z = true) (ws : List Jvm.Cond) (q0 : Int32) (q1 : Int32) (q2 : Int32) (h0 : Heap) :
    MetFree l (⟨"com/example/boughcheck/boughcheck/LinesTakePinLaw", "endsLine", "(ZCZ)J"⟩ : MethodName) (head1 (Jvm.Cond.code (⟨"com/example/boughcheck/boughcheck/LinesTakePinLaw", "endsLine", "(ZCZ)J"⟩ : MethodName) method_4_code 5 (some .long) :: ws) ({ frames := 0, cells := 0, slots := 0, locals := 0 } : Room)) (fun a U => a = #[(.int q0), (.int q1), (.int q2)] ∧ Z.Warmed39 U.vm ∧ U.heap = h0) (fun _ _ _ _ _ => True) (fun _ U o U' => ∃ v L, o = .returned v ∧ QP (Value.long (endsLine q0 q1 q2)) h0 v U'.heap L ∧ FrameEnd U o U' L 0 0) := by
  refine MetFree.of_bodySF (plainFor_of_name pn_5) hisR ?_
  intro p e s m args below meth c s₁ Bd hml0 hP hK
  obtain ⟨rfl, hZ, hh⟩ := hP
  have hx := Bd.exec
  have hby := Bd.bytes
  have hlk : meth.locks = false := Bd.notSynchronized
  have hml : c.maxLocals = 5 := hml0
  have hown : s.vm.findClass "com/example/boughcheck/boughcheck/LinesTakePinLaw" = some m.cls := findClass_of_methodNamed Bd.named
  have X0 : Stand p l e ({ frames := 0, cells := 0, slots := 0, locals := 0 } : Room) s m #[(.int q0), (.int q1), (.int q2)] below meth c s₁ [] 0 0 := Stand.of_body Bd
  have e0 : s₁.heap = h0 := by rw [← hh, Bd.state]; rfl
  have bendsLine_64 : ∀ (T : State) (X : Stand p l e ({ frames := 0, cells := 0, slots := 0, locals := 0 } : Room) s m #[(.int q0), (.int q1), (.int q2)] below meth c T [] 0 0) (eT : T.heap = h0) (v22_s0 : Int32) (v45_s0 : Int32), OEnds p e below s (QP (Value.long (endsLine_64)) h0) 0 0 (T.setTop (mkF m 64 #[.val (.int q0), .val (.int q1), .val (.int q2), .val (.int v22_s0), .val (.int v45_s0)] [])) := by
    intro T X eT v22_s0 v45_s0
    refine own_by (fun _ k => XS.lconst X.here hx rfl (hb hby d5_64) k) ?_
    show OEnds p e below s _ _ _ (T.setTop (mkF m 65 #[.val (.int q0), .val (.int q1), .val (.int q2), .val (.int v22_s0), .val (.int v45_s0)] [(.long (0 : Int64))]))
    exact own_retJ X hx hlk Bd.returns (hb hby d5_65) ⟨congrArg (fun z => some (Value.long z)) (Eq.symm (by rw [endsLine_64] <;> rfl)), rfl, eT⟩ (Nat.le_refl _) (Nat.le_refl _)
  have bendsLine_45 : ∀ (T : State) (X : Stand p l e ({ frames := 0, cells := 0, slots := 0, locals := 0 } : Room) s m #[(.int q0), (.int q1), (.int q2)] below meth c T [] 0 0) (eT : T.heap = h0) (v22_s0 : Int32) (v45_s0 : Int32), OEnds p e below s (QP (Value.long (endsLine_45 q0 v22_s0 v45_s0)) h0) 0 0 (T.setTop (mkF m 45 #[.val (.int q0), .val (.int q1), .val (.int q2), .val (.int v22_s0), .unset] [(.int v45_s0)])) := by
    intro T X eT v22_s0 v45_s0
    refine own_by (fun _ k => XS.istore X.here hx rfl (hb hby d5_45) rfl (l' := #[.val (.int q0), .val (.int q1), .val (.int q2), .val (.int v22_s0), .val (.int v45_s0)]) rfl k) ?_
    show OEnds p e below s _ _ _ (T.setTop (mkF m 47 #[.val (.int q0), .val (.int q1), .val (.int q2), .val (.int v22_s0), .val (.int v45_s0)] []))
    refine own_by (fun _ k => XS.iloadN X.here hx rfl (hb hby d5_47) rfl k) ?_
    show OEnds p e below s _ _ _ (T.setTop (mkF m 48 #[.val (.int q0), .val (.int q1), .val (.int q2), .val (.int v22_s0), .val (.int v45_s0)] [(.int v22_s0)]))
    by_cases hc48 : v22_s0 = (0 : Int32)
    · refine own_by (fun _ k => XS.ifYes X.here hx rfl (pc0 := 48) (pc' := 53) rfl (hb hby d5_48) rfl ((if0 _ _).trans (teq hc48).1) (by decide) (by decide) k) ?_
      show OEnds p e below s _ _ _ (T.setTop (mkF m 53 #[.val (.int q0), .val (.int q1), .val (.int q2), .val (.int v22_s0), .val (.int v45_s0)] []))
      refine own_by (fun _ k => XS.iload X.here hx rfl (hb hby d5_53) rfl k) ?_
      show OEnds p e below s _ _ _ (T.setTop (mkF m 55 #[.val (.int q0), .val (.int q1), .val (.int q2), .val (.int v22_s0), .val (.int v45_s0)] [(.int v45_s0)]))
      by_cases hc55 : v45_s0 = (0 : Int32)
      · refine own_by (fun _ k => XS.ifYes X.here hx rfl (pc0 := 55) (pc' := 64) rfl (hb hby d5_55) rfl ((if0 _ _).trans (teq hc55).1) (by decide) (by decide) k) ?_
        show OEnds p e below s _ _ _ (T.setTop (mkF m 64 #[.val (.int q0), .val (.int q1), .val (.int q2), .val (.int v22_s0), .val (.int v45_s0)] []))
        exact own_eq (congrArg Value.long (by rw [endsLine_45, if_pos hc48, if_pos hc55] <;> rfl)) (bendsLine_64 T X eT v22_s0 v45_s0)
      · refine own_by (fun _ k => XS.ifNo X.here hx rfl (hb hby d5_55) rfl ((if0 _ _).trans (feq hc55).1) k) ?_
        show OEnds p e below s _ _ _ (T.setTop (mkF m 58 #[.val (.int q0), .val (.int q1), .val (.int q2), .val (.int v22_s0), .val (.int v45_s0)] []))
        refine own_by (fun _ k => XS.iloadN X.here hx rfl (hb hby d5_58) rfl k) ?_
        show OEnds p e below s _ _ _ (T.setTop (mkF m 59 #[.val (.int q0), .val (.int q1), .val (.int q2), .val (.int v22_s0), .val (.int v45_s0)] [(.int q0)]))
        by_cases hc59 : q0 = (0 : Int32)
        · refine own_by (fun _ k => XS.ifNo X.here hx rfl (hb hby d5_59) rfl ((if0 _ _).trans (teq hc59).2) k) ?_
          show OEnds p e below s _ _ _ (T.setTop (mkF m 62 #[.val (.int q0), .val (.int q1), .val (.int q2), .val (.int v22_s0), .val (.int v45_s0)] []))
          refine own_by (fun _ k => XS.lconst X.here hx rfl (hb hby d5_62) k) ?_
          show OEnds p e below s _ _ _ (T.setTop (mkF m 63 #[.val (.int q0), .val (.int q1), .val (.int q2), .val (.int v22_s0), .val (.int v45_s0)] [(.long (1 : Int64))]))
          exact own_retJ X hx hlk Bd.returns (hb hby d5_63) ⟨congrArg (fun z => some (Value.long z)) (Eq.symm (by rw [endsLine_45, if_pos hc48, if_neg hc55, if_pos hc59] <;> rfl)), rfl, eT⟩ (Nat.le_refl _) (Nat.le_refl _)
        · refine own_by (fun _ k => XS.ifYes X.here hx rfl (pc0 := 59) (pc' := 64) rfl (hb hby d5_59) rfl ((if0 _ _).trans (feq hc59).2) (by decide) (by decide) k) ?_
          show OEnds p e below s _ _ _ (T.setTop (mkF m 64 #[.val (.int q0), .val (.int q1), .val (.int q2), .val (.int v22_s0), .val (.int v45_s0)] []))
          exact own_eq (congrArg Value.long (by rw [endsLine_45, if_pos hc48, if_neg hc55, if_neg hc59] <;> rfl)) (bendsLine_64 T X eT v22_s0 v45_s0)
    · refine own_by (fun _ k => XS.ifNo X.here hx rfl (hb hby d5_48) rfl ((if0 _ _).trans (feq hc48).1) k) ?_
      show OEnds p e below s _ _ _ (T.setTop (mkF m 51 #[.val (.int q0), .val (.int q1), .val (.int q2), .val (.int v22_s0), .val (.int v45_s0)] []))
      refine own_by (fun _ k => XS.lconst X.here hx rfl (hb hby d5_51) k) ?_
      show OEnds p e below s _ _ _ (T.setTop (mkF m 52 #[.val (.int q0), .val (.int q1), .val (.int q2), .val (.int v22_s0), .val (.int v45_s0)] [(.long (1 : Int64))]))
      exact own_retJ X hx hlk Bd.returns (hb hby d5_52) ⟨congrArg (fun z => some (Value.long z)) (Eq.symm (by rw [endsLine_45, if_neg hc48] <;> rfl)), rfl, eT⟩ (Nat.le_refl _) (Nat.le_refl _)
  have bendsLine_44 : ∀ (T : State) (X : Stand p l e ({ frames := 0, cells := 0, slots := 0, locals := 0 } : Room) s m #[(.int q0), (.int q1), (.int q2)] below meth c T [] 0 0) (eT : T.heap = h0) (v22_s0 : Int32), OEnds p e below s (QP (Value.long (endsLine_44 q0 v22_s0)) h0) 0 0 (T.setTop (mkF m 44 #[.val (.int q0), .val (.int q1), .val (.int q2), .val (.int v22_s0), .unset] [])) := by
    intro T X eT v22_s0
    refine own_by (fun _ k => XS.iconst X.here hx rfl (hb hby d5_44) k) ?_
    show OEnds p e below s _ _ _ (T.setTop (mkF m 45 #[.val (.int q0), .val (.int q1), .val (.int q2), .val (.int v22_s0), .unset] [(.int (0 : Int32))]))
    exact own_eq (congrArg Value.long (by rw [endsLine_44] <;> rfl)) (bendsLine_45 T X eT v22_s0 (0 : Int32))
  have bendsLine_40 : ∀ (T : State) (X : Stand p l e ({ frames := 0, cells := 0, slots := 0, locals := 0 } : Room) s m #[(.int q0), (.int q1), (.int q2)] below meth c T [] 0 0) (eT : T.heap = h0) (v22_s0 : Int32), OEnds p e below s (QP (Value.long (endsLine_40 q0 v22_s0)) h0) 0 0 (T.setTop (mkF m 40 #[.val (.int q0), .val (.int q1), .val (.int q2), .val (.int v22_s0), .unset] [])) := by
    intro T X eT v22_s0
    refine own_by (fun _ k => XS.iconst X.here hx rfl (hb hby d5_40) k) ?_
    show OEnds p e below s _ _ _ (T.setTop (mkF m 41 #[.val (.int q0), .val (.int q1), .val (.int q2), .val (.int v22_s0), .unset] [(.int (1 : Int32))]))
    refine own_by (fun _ k => XS.goto X.here hx rfl (pc0 := 41) (pc' := 45) rfl (hb hby d5_41) (by decide) (by decide) k) ?_
    show OEnds p e below s _ _ _ (T.setTop (mkF m 45 #[.val (.int q0), .val (.int q1), .val (.int q2), .val (.int v22_s0), .unset] [(.int (1 : Int32))]))
    exact own_eq (congrArg Value.long (by rw [endsLine_40] <;> rfl)) (bendsLine_45 T X eT v22_s0 (1 : Int32))
  have bendsLine_22 : ∀ (T : State) (X : Stand p l e ({ frames := 0, cells := 0, slots := 0, locals := 0 } : Room) s m #[(.int q0), (.int q1), (.int q2)] below meth c T [] 0 0) (eT : T.heap = h0) (v22_s0 : Int32), OEnds p e below s (QP (Value.long (endsLine_22 q0 q1 q2 v22_s0)) h0) 0 0 (T.setTop (mkF m 22 #[.val (.int q0), .val (.int q1), .val (.int q2), .unset, .unset] [(.int v22_s0)])) := by
    intro T X eT v22_s0
    refine own_by (fun _ k => XS.istoreN X.here hx rfl (hb hby d5_22) rfl (l' := #[.val (.int q0), .val (.int q1), .val (.int q2), .val (.int v22_s0), .unset]) rfl k) ?_
    show OEnds p e below s _ _ _ (T.setTop (mkF m 23 #[.val (.int q0), .val (.int q1), .val (.int q2), .val (.int v22_s0), .unset] []))
    refine own_by (fun _ k => XS.iloadN X.here hx rfl (hb hby d5_23) rfl k) ?_
    show OEnds p e below s _ _ _ (T.setTop (mkF m 24 #[.val (.int q0), .val (.int q1), .val (.int q2), .val (.int v22_s0), .unset] [(.int q1)]))
    refine own_by (fun _ k => XS.bipush X.here hx rfl (hb hby d5_24) k) ?_
    show OEnds p e below s _ _ _ (T.setTop (mkF m 26 #[.val (.int q0), .val (.int q1), .val (.int q2), .val (.int v22_s0), .unset] [(.int (10 : Int32)), (.int q1)]))
    by_cases hc26 : q1 = (10 : Int32)
    · refine own_by (fun _ k => XS.icmpYes X.here hx rfl (pc0 := 26) (pc' := 40) rfl (hb hby d5_26) rfl (teq hc26).1 (by decide) (by decide) k) ?_
      show OEnds p e below s _ _ _ (T.setTop (mkF m 40 #[.val (.int q0), .val (.int q1), .val (.int q2), .val (.int v22_s0), .unset] []))
      exact own_eq (congrArg Value.long (by rw [endsLine_22, if_pos hc26] <;> rfl)) (bendsLine_40 T X eT v22_s0)
    · refine own_by (fun _ k => XS.icmpNo X.here hx rfl (hb hby d5_26) rfl (feq hc26).1 k) ?_
      show OEnds p e below s _ _ _ (T.setTop (mkF m 29 #[.val (.int q0), .val (.int q1), .val (.int q2), .val (.int v22_s0), .unset] []))
      refine own_by (fun _ k => XS.iloadN X.here hx rfl (hb hby d5_29) rfl k) ?_
      show OEnds p e below s _ _ _ (T.setTop (mkF m 30 #[.val (.int q0), .val (.int q1), .val (.int q2), .val (.int v22_s0), .unset] [(.int q2)]))
      by_cases hc30 : q2 = (0 : Int32)
      · refine own_by (fun _ k => XS.ifYes X.here hx rfl (pc0 := 30) (pc' := 44) rfl (hb hby d5_30) rfl ((if0 _ _).trans (teq hc30).1) (by decide) (by decide) k) ?_
        show OEnds p e below s _ _ _ (T.setTop (mkF m 44 #[.val (.int q0), .val (.int q1), .val (.int q2), .val (.int v22_s0), .unset] []))
        exact own_eq (congrArg Value.long (by rw [endsLine_22, if_neg hc26, if_pos hc30] <;> rfl)) (bendsLine_44 T X eT v22_s0)
      · refine own_by (fun _ k => XS.ifNo X.here hx rfl (hb hby d5_30) rfl ((if0 _ _).trans (feq hc30).1) k) ?_
        show OEnds p e below s _ _ _ (T.setTop (mkF m 33 #[.val (.int q0), .val (.int q1), .val (.int q2), .val (.int v22_s0), .unset] []))
        refine own_by (fun _ k => XS.iloadN X.here hx rfl (hb hby d5_33) rfl k) ?_
        show OEnds p e below s _ _ _ (T.setTop (mkF m 34 #[.val (.int q0), .val (.int q1), .val (.int q2), .val (.int v22_s0), .unset] [(.int q1)]))
        refine own_by (fun _ k => XS.sipush X.here hx rfl (hb hby d5_34) k) ?_
        show OEnds p e below s _ _ _ (T.setTop (mkF m 37 #[.val (.int q0), .val (.int q1), .val (.int q2), .val (.int v22_s0), .unset] [(.int (133 : Int32)), (.int q1)]))
        by_cases hc37 : q1 = (133 : Int32)
        · refine own_by (fun _ k => XS.icmpNo X.here hx rfl (hb hby d5_37) rfl (teq hc37).2 k) ?_
          show OEnds p e below s _ _ _ (T.setTop (mkF m 40 #[.val (.int q0), .val (.int q1), .val (.int q2), .val (.int v22_s0), .unset] []))
          exact own_eq (congrArg Value.long (by rw [endsLine_22, if_neg hc26, if_neg hc30, if_pos hc37] <;> rfl)) (bendsLine_40 T X eT v22_s0)
        · refine own_by (fun _ k => XS.icmpYes X.here hx rfl (pc0 := 37) (pc' := 44) rfl (hb hby d5_37) rfl (feq hc37).2 (by decide) (by decide) k) ?_
          show OEnds p e below s _ _ _ (T.setTop (mkF m 44 #[.val (.int q0), .val (.int q1), .val (.int q2), .val (.int v22_s0), .unset] []))
          exact own_eq (congrArg Value.long (by rw [endsLine_22, if_neg hc26, if_neg hc30, if_neg hc37] <;> rfl)) (bendsLine_44 T X eT v22_s0)
  have bendsLine_21 : ∀ (T : State) (X : Stand p l e ({ frames := 0, cells := 0, slots := 0, locals := 0 } : Room) s m #[(.int q0), (.int q1), (.int q2)] below meth c T [] 0 0) (eT : T.heap = h0), OEnds p e below s (QP (Value.long (endsLine_21 q0 q1 q2)) h0) 0 0 (T.setTop (mkF m 21 #[.val (.int q0), .val (.int q1), .val (.int q2), .unset, .unset] [])) := by
    intro T X eT
    refine own_by (fun _ k => XS.iconst X.here hx rfl (hb hby d5_21) k) ?_
    show OEnds p e below s _ _ _ (T.setTop (mkF m 22 #[.val (.int q0), .val (.int q1), .val (.int q2), .unset, .unset] [(.int (0 : Int32))]))
    exact own_eq (congrArg Value.long (by rw [endsLine_21] <;> rfl)) (bendsLine_22 T X eT (0 : Int32))
  have bendsLine_17 : ∀ (T : State) (X : Stand p l e ({ frames := 0, cells := 0, slots := 0, locals := 0 } : Room) s m #[(.int q0), (.int q1), (.int q2)] below meth c T [] 0 0) (eT : T.heap = h0), OEnds p e below s (QP (Value.long (endsLine_17 q0 q1 q2)) h0) 0 0 (T.setTop (mkF m 17 #[.val (.int q0), .val (.int q1), .val (.int q2), .unset, .unset] [])) := by
    intro T X eT
    refine own_by (fun _ k => XS.iconst X.here hx rfl (hb hby d5_17) k) ?_
    show OEnds p e below s _ _ _ (T.setTop (mkF m 18 #[.val (.int q0), .val (.int q1), .val (.int q2), .unset, .unset] [(.int (1 : Int32))]))
    refine own_by (fun _ k => XS.goto X.here hx rfl (pc0 := 18) (pc' := 22) rfl (hb hby d5_18) (by decide) (by decide) k) ?_
    show OEnds p e below s _ _ _ (T.setTop (mkF m 22 #[.val (.int q0), .val (.int q1), .val (.int q2), .unset, .unset] [(.int (1 : Int32))]))
    exact own_eq (congrArg Value.long (by rw [endsLine_17] <;> rfl)) (bendsLine_22 T X eT (1 : Int32))
  show OEnds p e below s _ _ _ _
  refine own_by (fun t k => castTop (ef_5 m q0 q1 q2) k) ?_
  show OEnds p e below s _ _ _ (s₁.setTop (mkF m 0 #[.val (.int q0), .val (.int q1), .val (.int q2), .unset, .unset] []))
  refine own_by (fun _ k => XS.iloadN X0.here hx rfl (hb hby d5_0) rfl k) ?_
  show OEnds p e below s _ _ _ (s₁.setTop (mkF m 1 #[.val (.int q0), .val (.int q1), .val (.int q2), .unset, .unset] [(.int q1)]))
  refine own_by (fun _ k => XS.bipush X0.here hx rfl (hb hby d5_1) k) ?_
  show OEnds p e below s _ _ _ (s₁.setTop (mkF m 3 #[.val (.int q0), .val (.int q1), .val (.int q2), .unset, .unset] [(.int (13 : Int32)), (.int q1)]))
  by_cases hc3 : q1 = (13 : Int32)
  · refine own_by (fun _ k => XS.icmpYes X0.here hx rfl (pc0 := 3) (pc' := 17) rfl (hb hby d5_3) rfl (teq hc3).1 (by decide) (by decide) k) ?_
    show OEnds p e below s _ _ _ (s₁.setTop (mkF m 17 #[.val (.int q0), .val (.int q1), .val (.int q2), .unset, .unset] []))
    exact own_eq (congrArg Value.long (by rw [endsLine, if_pos hc3] <;> rfl)) (bendsLine_17 s₁ X0 e0)
  · refine own_by (fun _ k => XS.icmpNo X0.here hx rfl (hb hby d5_3) rfl (feq hc3).1 k) ?_
    show OEnds p e below s _ _ _ (s₁.setTop (mkF m 6 #[.val (.int q0), .val (.int q1), .val (.int q2), .unset, .unset] []))
    refine own_by (fun _ k => XS.iloadN X0.here hx rfl (hb hby d5_6) rfl k) ?_
    show OEnds p e below s _ _ _ (s₁.setTop (mkF m 7 #[.val (.int q0), .val (.int q1), .val (.int q2), .unset, .unset] [(.int q2)]))
    by_cases hc7 : q2 = (0 : Int32)
    · refine own_by (fun _ k => XS.ifYes X0.here hx rfl (pc0 := 7) (pc' := 21) rfl (hb hby d5_7) rfl ((if0 _ _).trans (teq hc7).1) (by decide) (by decide) k) ?_
      show OEnds p e below s _ _ _ (s₁.setTop (mkF m 21 #[.val (.int q0), .val (.int q1), .val (.int q2), .unset, .unset] []))
      exact own_eq (congrArg Value.long (by rw [endsLine, if_neg hc3, if_pos hc7] <;> rfl)) (bendsLine_21 s₁ X0 e0)
    · refine own_by (fun _ k => XS.ifNo X0.here hx rfl (hb hby d5_7) rfl ((if0 _ _).trans (feq hc7).1) k) ?_
      show OEnds p e below s _ _ _ (s₁.setTop (mkF m 10 #[.val (.int q0), .val (.int q1), .val (.int q2), .unset, .unset] []))
      refine own_by (fun _ k => XS.iloadN X0.here hx rfl (hb hby d5_10) rfl k) ?_
      show OEnds p e below s _ _ _ (s₁.setTop (mkF m 11 #[.val (.int q0), .val (.int q1), .val (.int q2), .unset, .unset] [(.int q1)]))
      refine own_by (fun _ k => XS.sipush X0.here hx rfl (hb hby d5_11) k) ?_
      show OEnds p e below s _ _ _ (s₁.setTop (mkF m 14 #[.val (.int q0), .val (.int q1), .val (.int q2), .unset, .unset] [(.int (8232 : Int32)), (.int q1)]))
      by_cases hc14 : q1 = (8232 : Int32)
      · refine own_by (fun _ k => XS.icmpNo X0.here hx rfl (hb hby d5_14) rfl (teq hc14).2 k) ?_
        show OEnds p e below s _ _ _ (s₁.setTop (mkF m 17 #[.val (.int q0), .val (.int q1), .val (.int q2), .unset, .unset] []))
        exact own_eq (congrArg Value.long (by rw [endsLine, if_neg hc3, if_neg hc7, if_pos hc14] <;> rfl)) (bendsLine_17 s₁ X0 e0)
      · refine own_by (fun _ k => XS.icmpYes X0.here hx rfl (pc0 := 14) (pc' := 21) rfl (hb hby d5_14) rfl (feq hc14).2 (by decide) (by decide) k) ?_
        show OEnds p e below s _ _ _ (s₁.setTop (mkF m 21 #[.val (.int q0), .val (.int q1), .val (.int q2), .unset, .unset] []))
        exact own_eq (congrArg Value.long (by rw [endsLine, if_neg hc3, if_neg hc7, if_neg hc14] <;> rfl)) (bendsLine_21 s₁ X0 e0)
theorem d6_0 : decode method_3_code 0 = .ok (.iload_n 0, 1) := by decide +kernel
theorem d6_1 : decode method_3_code 1 = .ok (.bipush 13, 2) := by decide +kernel
theorem d6_3 : decode method_3_code 3 = .ok (.if_icmp .eq 27, 3) := by decide +kernel
theorem d6_6 : decode method_3_code 6 = .ok (.iload_n 0, 1) := by decide +kernel
theorem d6_7 : decode method_3_code 7 = .ok (.bipush 10, 2) := by decide +kernel
theorem d6_9 : decode method_3_code 9 = .ok (.if_icmp .eq 21, 3) := by decide +kernel
theorem d6_12 : decode method_3_code 12 = .ok (.iload_n 1, 1) := by decide +kernel
theorem d6_13 : decode method_3_code 13 = .ok (.ifCond .eq 21, 3) := by decide +kernel
theorem d6_16 : decode method_3_code 16 = .ok (.iload_n 0, 1) := by decide +kernel
theorem d6_17 : decode method_3_code 17 = .ok (.sipush 133, 3) := by decide +kernel
theorem d6_20 : decode method_3_code 20 = .ok (.if_icmp .eq 10, 3) := by decide +kernel
theorem d6_23 : decode method_3_code 23 = .ok (.iload_n 0, 1) := by decide +kernel
theorem d6_24 : decode method_3_code 24 = .ok (.sipush 8232, 3) := by decide +kernel
theorem d6_27 : decode method_3_code 27 = .ok (.if_icmp .ne 7, 3) := by decide +kernel
theorem d6_30 : decode method_3_code 30 = .ok (.iconst 1, 1) := by decide +kernel
theorem d6_31 : decode method_3_code 31 = .ok (.goto 4, 3) := by decide +kernel
theorem d6_34 : decode method_3_code 34 = .ok (.iconst 0, 1) := by decide +kernel
theorem d6_35 : decode method_3_code 35 = .ok (.ireturn, 1) := by decide +kernel
theorem pn_6 : plainName "com/example/boughcheck/boughcheck/LinesTakePinLaw" = true := by first | (simp [plainName, overriddenIn]; done) | decide +kernel
theorem ef_6 (m : MethodId) (q0 : Int32) (q1 : Int32) : entryFrame m #[(.int q0), (.int q1)] 2 = mkF m 0 #[.val (.int q0), .val (.int q1)] [] := by first | (simp [entryFrame, mkF, argsToLocals, Value.category]; done) | rfl
def breaks_35 (v35_s0 : Int32) : Int32 := (nar .boolean v35_s0)
def breaks_34  : Int32 := (breaks_35 (0 : Int32))
def breaks_30  : Int32 := (breaks_35 (1 : Int32))
def breaks (q0 : Int32) (q1 : Int32) : Int32 := if q0 = (13 : Int32) then breaks_30 else if q0 = (10 : Int32) then breaks_30 else if q1 = (0 : Int32) then breaks_34 else if q0 = (133 : Int32) then breaks_30 else if q0 = (8232 : Int32) then breaks_30 else breaks_34
set_option maxRecDepth 65536 in
set_option maxHeartbeats 40000000 in
theorem rm_breaks (l : Launch) (Z : State) (a0 : Array Value) (hw : ∀ d ∈ tables_1, d.before a0 Z = true) (ws : List Jvm.Cond) (q0 : Int32) (q1 : Int32) (h0 : Heap) :
    MetFree l (⟨"com/example/boughcheck/boughcheck/LinesTakePinLaw", "breaks", "(CZ)Z"⟩ : MethodName) (head1 (Jvm.Cond.code (⟨"com/example/boughcheck/boughcheck/LinesTakePinLaw", "breaks", "(CZ)Z"⟩ : MethodName) method_3_code 2 (some .boolean) :: ws) ({ frames := 0, cells := 0, slots := 0, locals := 0 } : Room)) (fun a U => a = #[(.int q0), (.int q1)] ∧ Z.Warmed39 U.vm ∧ U.heap = h0) (fun _ _ _ _ _ => True) (fun _ U o U' => ∃ v L, o = .returned v ∧ QP (Value.int (breaks q0 q1)) h0 v U'.heap L ∧ FrameEnd U o U' L 0 0) := by
  refine MetFree.of_bodySF (plainFor_of_name pn_6) hisR ?_
  intro p e s m args below meth c s₁ Bd hml0 hP hK
  obtain ⟨rfl, hZ, hh⟩ := hP
  have hx := Bd.exec
  have hby := Bd.bytes
  have hlk : meth.locks = false := Bd.notSynchronized
  have hml : c.maxLocals = 2 := hml0
  have hown : s.vm.findClass "com/example/boughcheck/boughcheck/LinesTakePinLaw" = some m.cls := findClass_of_methodNamed Bd.named
  have X0 : Stand p l e ({ frames := 0, cells := 0, slots := 0, locals := 0 } : Room) s m #[(.int q0), (.int q1)] below meth c s₁ [] 0 0 := Stand.of_body Bd
  have e0 : s₁.heap = h0 := by rw [← hh, Bd.state]; rfl
  have bbreaks_35 : ∀ (T : State) (X : Stand p l e ({ frames := 0, cells := 0, slots := 0, locals := 0 } : Room) s m #[(.int q0), (.int q1)] below meth c T [] 0 0) (eT : T.heap = h0) (v35_s0 : Int32), OEnds p e below s (QP (Value.int (breaks_35 v35_s0)) h0) 0 0 (T.setTop (mkF m 35 #[.val (.int q0), .val (.int q1)] [(.int v35_s0)])) := by
    intro T X eT v35_s0
    exact own_retN X hx hlk .boolean (by simp) Bd.returns (hb hby d6_35) ⟨congrArg (fun z => some (Value.int z)) (Eq.symm (by rw [breaks_35] <;> rfl)), rfl, eT⟩ (Nat.le_refl _) (Nat.le_refl _)
  have bbreaks_34 : ∀ (T : State) (X : Stand p l e ({ frames := 0, cells := 0, slots := 0, locals := 0 } : Room) s m #[(.int q0), (.int q1)] below meth c T [] 0 0) (eT : T.heap = h0), OEnds p e below s (QP (Value.int (breaks_34)) h0) 0 0 (T.setTop (mkF m 34 #[.val (.int q0), .val (.int q1)] [])) := by
    intro T X eT
    refine own_by (fun _ k => XS.iconst X.here hx rfl (hb hby d6_34) k) ?_
    show OEnds p e below s _ _ _ (T.setTop (mkF m 35 #[.val (.int q0), .val (.int q1)] [(.int (0 : Int32))]))
    exact own_eq (congrArg Value.int (by rw [breaks_34] <;> rfl)) (bbreaks_35 T X eT (0 : Int32))
  have bbreaks_30 : ∀ (T : State) (X : Stand p l e ({ frames := 0, cells := 0, slots := 0, locals := 0 } : Room) s m #[(.int q0), (.int q1)] below meth c T [] 0 0) (eT : T.heap = h0), OEnds p e below s (QP (Value.int (breaks_30)) h0) 0 0 (T.setTop (mkF m 30 #[.val (.int q0), .val (.int q1)] [])) := by
    intro T X eT
    refine own_by (fun _ k => XS.iconst X.here hx rfl (hb hby d6_30) k) ?_
    show OEnds p e below s _ _ _ (T.setTop (mkF m 31 #[.val (.int q0), .val (.int q1)] [(.int (1 : Int32))]))
    refine own_by (fun _ k => XS.goto X.here hx rfl (pc0 := 31) (pc' := 35) rfl (hb hby d6_31) (by decide) (by decide) k) ?_
    show OEnds p e below s _ _ _ (T.setTop (mkF m 35 #[.val (.int q0), .val (.int q1)] [(.int (1 : Int32))]))
    exact own_eq (congrArg Value.int (by rw [breaks_30] <;> rfl)) (bbreaks_35 T X eT (1 : Int32))
  show OEnds p e below s _ _ _ _
  refine own_by (fun t k => castTop (ef_6 m q0 q1) k) ?_
  show OEnds p e below s _ _ _ (s₁.setTop (mkF m 0 #[.val (.int q0), .val (.int q1)] []))
  refine own_by (fun _ k => XS.iloadN X0.here hx rfl (hb hby d6_0) rfl k) ?_
  show OEnds p e below s _ _ _ (s₁.setTop (mkF m 1 #[.val (.int q0), .val (.int q1)] [(.int q0)]))
  refine own_by (fun _ k => XS.bipush X0.here hx rfl (hb hby d6_1) k) ?_
  show OEnds p e below s _ _ _ (s₁.setTop (mkF m 3 #[.val (.int q0), .val (.int q1)] [(.int (13 : Int32)), (.int q0)]))
  by_cases hc3 : q0 = (13 : Int32)
  · refine own_by (fun _ k => XS.icmpYes X0.here hx rfl (pc0 := 3) (pc' := 30) rfl (hb hby d6_3) rfl (teq hc3).1 (by decide) (by decide) k) ?_
    show OEnds p e below s _ _ _ (s₁.setTop (mkF m 30 #[.val (.int q0), .val (.int q1)] []))
    exact own_eq (congrArg Value.int (by rw [breaks, if_pos hc3] <;> rfl)) (bbreaks_30 s₁ X0 e0)
  · refine own_by (fun _ k => XS.icmpNo X0.here hx rfl (hb hby d6_3) rfl (feq hc3).1 k) ?_
    show OEnds p e below s _ _ _ (s₁.setTop (mkF m 6 #[.val (.int q0), .val (.int q1)] []))
    refine own_by (fun _ k => XS.iloadN X0.here hx rfl (hb hby d6_6) rfl k) ?_
    show OEnds p e below s _ _ _ (s₁.setTop (mkF m 7 #[.val (.int q0), .val (.int q1)] [(.int q0)]))
    refine own_by (fun _ k => XS.bipush X0.here hx rfl (hb hby d6_7) k) ?_
    show OEnds p e below s _ _ _ (s₁.setTop (mkF m 9 #[.val (.int q0), .val (.int q1)] [(.int (10 : Int32)), (.int q0)]))
    by_cases hc9 : q0 = (10 : Int32)
    · refine own_by (fun _ k => XS.icmpYes X0.here hx rfl (pc0 := 9) (pc' := 30) rfl (hb hby d6_9) rfl (teq hc9).1 (by decide) (by decide) k) ?_
      show OEnds p e below s _ _ _ (s₁.setTop (mkF m 30 #[.val (.int q0), .val (.int q1)] []))
      exact own_eq (congrArg Value.int (by rw [breaks, if_neg hc3, if_pos hc9] <;> rfl)) (bbreaks_30 s₁ X0 e0)
    · refine own_by (fun _ k => XS.icmpNo X0.here hx rfl (hb hby d6_9) rfl (feq hc9).1 k) ?_
      show OEnds p e below s _ _ _ (s₁.setTop (mkF m 12 #[.val (.int q0), .val (.int q1)] []))
      refine own_by (fun _ k => XS.iloadN X0.here hx rfl (hb hby d6_12) rfl k) ?_
      show OEnds p e below s _ _ _ (s₁.setTop (mkF m 13 #[.val (.int q0), .val (.int q1)] [(.int q1)]))
      by_cases hc13 : q1 = (0 : Int32)
      · refine own_by (fun _ k => XS.ifYes X0.here hx rfl (pc0 := 13) (pc' := 34) rfl (hb hby d6_13) rfl ((if0 _ _).trans (teq hc13).1) (by decide) (by decide) k) ?_
        show OEnds p e below s _ _ _ (s₁.setTop (mkF m 34 #[.val (.int q0), .val (.int q1)] []))
        exact own_eq (congrArg Value.int (by rw [breaks, if_neg hc3, if_neg hc9, if_pos hc13] <;> rfl)) (bbreaks_34 s₁ X0 e0)
      · refine own_by (fun _ k => XS.ifNo X0.here hx rfl (hb hby d6_13) rfl ((if0 _ _).trans (feq hc13).1) k) ?_
        show OEnds p e below s _ _ _ (s₁.setTop (mkF m 16 #[.val (.int q0), .val (.int q1)] []))
        refine own_by (fun _ k => XS.iloadN X0.here hx rfl (hb hby d6_16) rfl k) ?_
        show OEnds p e below s _ _ _ (s₁.setTop (mkF m 17 #[.val (.int q0), .val (.int q1)] [(.int q0)]))
        refine own_by (fun _ k => XS.sipush X0.here hx rfl (hb hby d6_17) k) ?_
        show OEnds p e below s _ _ _ (s₁.setTop (mkF m 20 #[.val (.int q0), .val (.int q1)] [(.int (133 : Int32)), (.int q0)]))
        by_cases hc20 : q0 = (133 : Int32)
        · refine own_by (fun _ k => XS.icmpYes X0.here hx rfl (pc0 := 20) (pc' := 30) rfl (hb hby d6_20) rfl (teq hc20).1 (by decide) (by decide) k) ?_
          show OEnds p e below s _ _ _ (s₁.setTop (mkF m 30 #[.val (.int q0), .val (.int q1)] []))
          exact own_eq (congrArg Value.int (by rw [breaks, if_neg hc3, if_neg hc9, if_neg hc13, if_pos hc20] <;> rfl)) (bbreaks_30 s₁ X0 e0)
        · refine own_by (fun _ k => XS.icmpNo X0.here hx rfl (hb hby d6_20) rfl (feq hc20).1 k) ?_
          show OEnds p e below s _ _ _ (s₁.setTop (mkF m 23 #[.val (.int q0), .val (.int q1)] []))
          refine own_by (fun _ k => XS.iloadN X0.here hx rfl (hb hby d6_23) rfl k) ?_
          show OEnds p e below s _ _ _ (s₁.setTop (mkF m 24 #[.val (.int q0), .val (.int q1)] [(.int q0)]))
          refine own_by (fun _ k => XS.sipush X0.here hx rfl (hb hby d6_24) k) ?_
          show OEnds p e below s _ _ _ (s₁.setTop (mkF m 27 #[.val (.int q0), .val (.int q1)] [(.int (8232 : Int32)), (.int q0)]))
          by_cases hc27 : q0 = (8232 : Int32)
          · refine own_by (fun _ k => XS.icmpNo X0.here hx rfl (hb hby d6_27) rfl (teq hc27).2 k) ?_
            show OEnds p e below s _ _ _ (s₁.setTop (mkF m 30 #[.val (.int q0), .val (.int q1)] []))
            exact own_eq (congrArg Value.int (by rw [breaks, if_neg hc3, if_neg hc9, if_neg hc13, if_neg hc20, if_pos hc27] <;> rfl)) (bbreaks_30 s₁ X0 e0)
          · refine own_by (fun _ k => XS.icmpYes X0.here hx rfl (pc0 := 27) (pc' := 34) rfl (hb hby d6_27) rfl (feq hc27).2 (by decide) (by decide) k) ?_
            show OEnds p e below s _ _ _ (s₁.setTop (mkF m 34 #[.val (.int q0), .val (.int q1)] []))
            exact own_eq (congrArg Value.int (by rw [breaks, if_neg hc3, if_neg hc9, if_neg hc13, if_neg hc20, if_neg hc27] <;> rfl)) (bbreaks_34 s₁ X0 e0)
theorem d2_0 : decode prog_102_method_1_code 0 = .ok (.aload_n 0, 1) := by decide +kernel
theorem d2_1 : decode prog_102_method_1_code 1 = .ok (.invokespecial 1, 3) := by decide +kernel
theorem d2_4 : decode prog_102_method_1_code 4 = .ok (.aload_n 0, 1) := by decide +kernel
theorem d2_5 : decode prog_102_method_1_code 5 = .ok (.iload_n 1, 1) := by decide +kernel
theorem d2_6 : decode prog_102_method_1_code 6 = .ok (.putfield 7, 3) := by decide +kernel
theorem d2_9 : decode prog_102_method_1_code 9 = .ok (.return_, 1) := by decide +kernel
theorem pn_2 : plainName "com/example/boughcheck/boughcheck/DoctypeScan$Lines" = true := by first | (simp [plainName, overriddenIn]; done) | decide +kernel
theorem ef_2 (m : MethodId) (a : Addr) (xb : Int32) : entryFrame m #[(.ref a), (.int xb)] 2 = mkF m 0 #[.val (.ref a), .val (.int xb)] [] := by first | (simp [entryFrame, mkF, argsToLocals, Value.category]; done) | rfl
def linit_xml11 (xb : Int32) : Int32 := (nar .boolean xb)
def Q_linit (Z : State) (a : Addr) (xb : Int32) (h0 : Heap) (n0 : Nat) (r : Option Value) (h : Heap) (L : List Loc) : Prop := r = none ∧ Fr n0 L ∧ Keep h0 h [a] ∧ Obj Z h a "com/example/boughcheck/boughcheck/DoctypeScan$Lines" sch_lines [(.int (linit_xml11 xb)), (.long (0 : Int64)), (.int (0 : Int32)), (.long (0 : Int64))]
set_option maxRecDepth 65536 in
set_option maxHeartbeats 40000000 in
theorem rm_linit (l : Launch) (Z : State) (a0 : Array Value) (hw : ∀ d ∈ tables_1, d.before a0 Z = true) (ws : List Jvm.Cond) (a : Addr) (xb : Int32) (h0 : Heap) (n0 : Nat) (Z0 : n0 ≤ h0.size) (O0 : Obj Z h0 a "com/example/boughcheck/boughcheck/DoctypeScan$Lines" sch_lines [(.int (0 : Int32)), (.long (0 : Int64)), (.int (0 : Int32)), (.long (0 : Int64))]) (ga : n0 ≤ a) :
    MetFree l (⟨"com/example/boughcheck/boughcheck/DoctypeScan$Lines", "<init>", "(Z)V"⟩ : MethodName) (head1 (Jvm.Cond.code (⟨"com/example/boughcheck/boughcheck/DoctypeScan$Lines", "<init>", "(Z)V"⟩ : MethodName) prog_102_method_1_code 2 none :: ws) ({ frames := 1, cells := 0, slots := 0, locals := 12 } : Room)) (fun a_ U => a_ = #[(.ref a), (.int xb)] ∧ Z.Warmed39 U.vm ∧ U.heap = h0) (fun _ _ _ _ _ => True) (fun _ U o U' => ∃ v_ L_, o = .returned v_ ∧ Q_linit Z a xb h0 n0 v_ U'.heap L_ ∧ FrameEnd U o U' L_ ({ frames := 1, cells := 0, slots := 0, locals := 12 } : Room).cells ({ frames := 1, cells := 0, slots := 0, locals := 12 } : Room).slots) := by
  refine MetFree.of_bodySF (plainFor_of_name pn_2) hisR ?_
  intro p e s m args below meth c s₁ Bd hml0 hP hK
  obtain ⟨rfl, hZ, hh⟩ := hP
  have hx := Bd.exec
  have hby := Bd.bytes
  have hlk : meth.locks = false := Bd.notSynchronized
  have hml : c.maxLocals = 2 := hml0
  have hown : s.vm.findClass "com/example/boughcheck/boughcheck/DoctypeScan$Lines" = some m.cls := findClass_of_methodNamed Bd.named
  have hnm := (name_of_methodNamed Bd.named Bd.method).1
  have X0 : Stand p l e ({ frames := 1, cells := 0, slots := 0, locals := 12 } : Room) s m #[(.ref a), (.int xb)] below meth c s₁ [] 0 0 := Stand.of_body Bd
  have e0 : s₁.heap = h0 := by rw [← hh, Bd.state]; rfl
  have N0 := Fr.nil n0
  have K0 : Keep h0 h0 [a] := Keep.refl _ _
  show OEnds p e below s (Q_linit Z a xb h0 n0) _ _ _
  refine own_by (fun t k => castTop (ef_2 m a xb) k) ?_
  show OEnds p e below s _ _ _ (s₁.setTop (mkF m 0 #[.val (.ref a), .val (.int xb)] []))
  refine own_by (fun _ k => XS.aloadN X0.here hx rfl (hb hby d2_0) rfl rfl k) ?_
  show OEnds p e below s _ _ _ (s₁.setTop (mkF m 1 #[.val (.ref a), .val (.int xb)] [(.ref a)]))
  obtain ⟨T1, X1, e1, st1⟩ := initO X0 hx hZ hown (hw _ (List.mem_of_getElem? (i := 10) rfl)) (hw _ (List.mem_of_getElem? (i := 11) rfl)) (hw _ (List.mem_of_getElem? (i := 12) rfl)) e0 (g := (mkF m 1 #[.val (.ref a), .val (.int xb)] [(.ref a)])) rfl (by rw [hml]; rfl) rfl (hb hby d2_1) (by decide) (W := 0) (by show 2 * 0 + _ ≤ _; exact Nat.le_of_eq rfl) (by decide)
  refine own_by (st1) ?_
  show OEnds p e below s _ _ _ (T1.setTop (mkF m 4 #[.val (.ref a), .val (.int xb)] []))
  refine own_by (fun _ k => XS.aloadN X1.here hx rfl (hb hby d2_4) rfl rfl k) ?_
  show OEnds p e below s _ _ _ (T1.setTop (mkF m 5 #[.val (.ref a), .val (.int xb)] [(.ref a)]))
  refine own_by (fun _ k => XS.iloadN X1.here hx rfl (hb hby d2_5) rfl k) ?_
  show OEnds p e below s _ _ _ (T1.setTop (mkF m 6 #[.val (.ref a), .val (.int xb)] [(.int xb), (.ref a)]))
  obtain ⟨T2, h2, X2, e2, W2, st2⟩ := putFN X1 hx hZ hown (hw _ (List.mem_of_getElem? (i := 13) rfl)) Via.refl e1 (O0.fld 0 rfl rfl) O0.exa (Or.inr ⟨(hw _ (List.mem_of_getElem? (i := 14) rfl)), rfl, hnm⟩) (hw _ (List.mem_of_getElem? (i := 5) rfl)) (ty := .boolean) (v' := (.int (nar .boolean xb))) (by decide) rfl (fits_nar_bool _) (g := (mkF m 6 #[.val (.ref a), .val (.int xb)] [(.int xb), (.ref a)])) rfl rfl (hb hby d2_6)
  refine own_by (st2) ?_
  have O2 : Obj Z h2 a "com/example/boughcheck/boughcheck/DoctypeScan$Lines" sch_lines [(.int (nar .boolean xb)), (.long (0 : Int64)), (.int (0 : Int32)), (.long (0 : Int64))] := O0.set (so_sch_lines hw) W2 0 rfl (Nat.le_of_ble_eq_true rfl)
  have N2 := Fr.snoc X2 N0 ga
  have Z2 : n0 ≤ h2.size := Nat.le_trans Z0 (Keep.of_wr W2).1
  have K2 : Keep h0 h2 [a] := K0.wr W2 (Or.inl (List.mem_of_getElem? (i := 0) rfl))
  show OEnds p e below s _ _ _ (T2.setTop (mkF m 9 #[.val (.ref a), .val (.int xb)] []))
  have q_3_0 : (linit_xml11 xb) = (nar .boolean xb) := (by rw [linit_xml11] <;> rfl)
  exact own_retV X2 hx hlk Bd.returns (hb hby d2_9) (by rw [e2]; exact ⟨rfl, N2, K2, by rw [q_3_0]; exact O2⟩) (by decide) (by decide)
theorem d4_0 : decode prog_102_method_2_code 0 = .ok (.iload_n 1, 1) := by decide +kernel
theorem d4_1 : decode prog_102_method_2_code 1 = .ok (.bipush 10, 2) := by decide +kernel
theorem d4_3 : decode prog_102_method_2_code 3 = .ok (.if_icmp .eq 17, 3) := by decide +kernel
theorem d4_6 : decode prog_102_method_2_code 6 = .ok (.aload_n 0, 1) := by decide +kernel
theorem d4_7 : decode prog_102_method_2_code 7 = .ok (.getfield 7, 3) := by decide +kernel
theorem d4_10 : decode prog_102_method_2_code 10 = .ok (.ifCond .eq 14, 3) := by decide +kernel
theorem d4_13 : decode prog_102_method_2_code 13 = .ok (.iload_n 1, 1) := by decide +kernel
theorem d4_14 : decode prog_102_method_2_code 14 = .ok (.sipush 133, 3) := by decide +kernel
theorem d4_17 : decode prog_102_method_2_code 17 = .ok (.if_icmp .ne 7, 3) := by decide +kernel
theorem d4_20 : decode prog_102_method_2_code 20 = .ok (.iconst 1, 1) := by decide +kernel
theorem d4_21 : decode prog_102_method_2_code 21 = .ok (.goto 4, 3) := by decide +kernel
theorem d4_24 : decode prog_102_method_2_code 24 = .ok (.iconst 0, 1) := by decide +kernel
theorem d4_25 : decode prog_102_method_2_code 25 = .ok (.istore_n 2, 1) := by decide +kernel
theorem d4_26 : decode prog_102_method_2_code 26 = .ok (.iload_n 1, 1) := by decide +kernel
theorem d4_27 : decode prog_102_method_2_code 27 = .ok (.bipush 13, 2) := by decide +kernel
theorem d4_29 : decode prog_102_method_2_code 29 = .ok (.if_icmp .eq 28, 3) := by decide +kernel
theorem d4_32 : decode prog_102_method_2_code 32 = .ok (.aload_n 0, 1) := by decide +kernel
theorem d4_33 : decode prog_102_method_2_code 33 = .ok (.getfield 7, 3) := by decide +kernel
theorem d4_36 : decode prog_102_method_2_code 36 = .ok (.ifCond .eq 10, 3) := by decide +kernel
theorem d4_39 : decode prog_102_method_2_code 39 = .ok (.iload_n 1, 1) := by decide +kernel
theorem d4_40 : decode prog_102_method_2_code 40 = .ok (.sipush 8232, 3) := by decide +kernel
theorem d4_43 : decode prog_102_method_2_code 43 = .ok (.if_icmp .eq 14, 3) := by decide +kernel
theorem d4_46 : decode prog_102_method_2_code 46 = .ok (.iload_n 2, 1) := by decide +kernel
theorem d4_47 : decode prog_102_method_2_code 47 = .ok (.ifCond .eq 28, 3) := by decide +kernel
theorem d4_50 : decode prog_102_method_2_code 50 = .ok (.aload_n 0, 1) := by decide +kernel
theorem d4_51 : decode prog_102_method_2_code 51 = .ok (.getfield 13, 3) := by decide +kernel
theorem d4_54 : decode prog_102_method_2_code 54 = .ok (.ifCond .ne 21, 3) := by decide +kernel
theorem d4_57 : decode prog_102_method_2_code 57 = .ok (.aload_n 0, 1) := by decide +kernel
theorem d4_58 : decode prog_102_method_2_code 58 = .ok (.dup, 1) := by decide +kernel
theorem d4_59 : decode prog_102_method_2_code 59 = .ok (.getfield 16, 3) := by decide +kernel
theorem d4_62 : decode prog_102_method_2_code 62 = .ok (.lconst 1, 1) := by decide +kernel
theorem d4_63 : decode prog_102_method_2_code 63 = .ok (.ladd, 1) := by decide +kernel
theorem d4_64 : decode prog_102_method_2_code 64 = .ok (.putfield 16, 3) := by decide +kernel
theorem d4_67 : decode prog_102_method_2_code 67 = .ok (.aload_n 0, 1) := by decide +kernel
theorem d4_68 : decode prog_102_method_2_code 68 = .ok (.lconst 0, 1) := by decide +kernel
theorem d4_69 : decode prog_102_method_2_code 69 = .ok (.putfield 20, 3) := by decide +kernel
theorem d4_72 : decode prog_102_method_2_code 72 = .ok (.goto 17, 3) := by decide +kernel
theorem d4_75 : decode prog_102_method_2_code 75 = .ok (.iload_n 2, 1) := by decide +kernel
theorem d4_76 : decode prog_102_method_2_code 76 = .ok (.ifCond .ne 13, 3) := by decide +kernel
theorem d4_79 : decode prog_102_method_2_code 79 = .ok (.aload_n 0, 1) := by decide +kernel
theorem d4_80 : decode prog_102_method_2_code 80 = .ok (.dup, 1) := by decide +kernel
theorem d4_81 : decode prog_102_method_2_code 81 = .ok (.getfield 20, 3) := by decide +kernel
theorem d4_84 : decode prog_102_method_2_code 84 = .ok (.lconst 1, 1) := by decide +kernel
theorem d4_85 : decode prog_102_method_2_code 85 = .ok (.ladd, 1) := by decide +kernel
theorem d4_86 : decode prog_102_method_2_code 86 = .ok (.putfield 20, 3) := by decide +kernel
theorem d4_89 : decode prog_102_method_2_code 89 = .ok (.aload_n 0, 1) := by decide +kernel
theorem d4_90 : decode prog_102_method_2_code 90 = .ok (.iload_n 1, 1) := by decide +kernel
theorem d4_91 : decode prog_102_method_2_code 91 = .ok (.bipush 13, 2) := by decide +kernel
theorem d4_93 : decode prog_102_method_2_code 93 = .ok (.if_icmp .ne 7, 3) := by decide +kernel
theorem d4_96 : decode prog_102_method_2_code 96 = .ok (.iconst 1, 1) := by decide +kernel
theorem d4_97 : decode prog_102_method_2_code 97 = .ok (.goto 4, 3) := by decide +kernel
theorem d4_100 : decode prog_102_method_2_code 100 = .ok (.iconst 0, 1) := by decide +kernel
theorem d4_101 : decode prog_102_method_2_code 101 = .ok (.putfield 13, 3) := by decide +kernel
theorem d4_104 : decode prog_102_method_2_code 104 = .ok (.return_, 1) := by decide +kernel
theorem pn_4 : plainName "com/example/boughcheck/boughcheck/DoctypeScan$Lines" = true := by first | (simp [plainName, overriddenIn]; done) | decide +kernel
theorem ef_4 (m : MethodId) (a : Addr) (cc : Int32) : entryFrame m #[(.ref a), (.int cc)] 3 = mkF m 0 #[.val (.ref a), .val (.int cc), .unset] [] := by first | (simp [entryFrame, mkF, argsToLocals, Value.category]; done) | rfl
def take_column (cc : Int32) (xm : Int32) (co : Int64) (af : Int32) : Int64 := if cc = (10 : Int32) then if cc = (13 : Int32) then (0 : Int64) else if xm = (0 : Int32) then if af = (0 : Int32) then (0 : Int64) else co else if cc = (8232 : Int32) then (0 : Int64) else if af = (0 : Int32) then (0 : Int64) else co else if xm = (0 : Int32) then if cc = (13 : Int32) then (0 : Int64) else (co + (1 : Int64)) else if cc = (133 : Int32) then if cc = (13 : Int32) then (0 : Int64) else if cc = (8232 : Int32) then (0 : Int64) else if af = (0 : Int32) then (0 : Int64) else co else if cc = (13 : Int32) then (0 : Int64) else if cc = (8232 : Int32) then (0 : Int64) else (co + (1 : Int64))
def take_afterCarriageReturn (cc : Int32) (xm : Int32) : Int32 := if cc = (10 : Int32) then if cc = (13 : Int32) then (1 : Int32) else (0 : Int32) else if xm = (0 : Int32) then if cc = (13 : Int32) then (1 : Int32) else (0 : Int32) else if cc = (133 : Int32) then if cc = (13 : Int32) then (1 : Int32) else (0 : Int32) else if cc = (13 : Int32) then (1 : Int32) else (0 : Int32)
def take_ends (cc : Int32) (xm : Int32) (af : Int32) (en : Int64) : Int64 := if cc = (10 : Int32) then if cc = (13 : Int32) then (en + (1 : Int64)) else if xm = (0 : Int32) then if af = (0 : Int32) then (en + (1 : Int64)) else en else if cc = (8232 : Int32) then (en + (1 : Int64)) else if af = (0 : Int32) then (en + (1 : Int64)) else en else if xm = (0 : Int32) then if cc = (13 : Int32) then (en + (1 : Int64)) else en else if cc = (133 : Int32) then if cc = (13 : Int32) then (en + (1 : Int64)) else if cc = (8232 : Int32) then (en + (1 : Int64)) else if af = (0 : Int32) then (en + (1 : Int64)) else en else if cc = (13 : Int32) then (en + (1 : Int64)) else if cc = (8232 : Int32) then (en + (1 : Int64)) else en
def Q_take (Z : State) (a : Addr) (cc : Int32) (xm : Int32) (co : Int64) (af : Int32) (en : Int64) (h0 : Heap) (n0 : Nat) (r : Option Value) (h : Heap) (L : List Loc) : Prop := r = none ∧ Fr n0 L ∧ Keep h0 h [a] ∧ Obj Z h a "com/example/boughcheck/boughcheck/DoctypeScan$Lines" sch_lines [(.int xm), (.long (take_column cc xm co af)), (.int (take_afterCarriageReturn cc xm)), (.long (take_ends cc xm af en))]
set_option maxRecDepth 65536 in
set_option maxHeartbeats 40000000 in
theorem rm_take (l : Launch) (Z : State) (a0 : Array Value) (hw : ∀ d ∈ tables_1, d.before a0 Z = true) (ws : List Jvm.Cond) (a : Addr) (cc : Int32) (xm : Int32) (co : Int64) (af : Int32) (en : Int64) (h0 : Heap) (n0 : Nat) (Z0 : n0 ≤ h0.size) (O0 : Obj Z h0 a "com/example/boughcheck/boughcheck/DoctypeScan$Lines" sch_lines [(.int xm), (.long co), (.int af), (.long en)]) (ga : n0 ≤ a) :
    MetFree l (⟨"com/example/boughcheck/boughcheck/DoctypeScan$Lines", "take", "(C)V"⟩ : MethodName) (head1 (Jvm.Cond.code (⟨"com/example/boughcheck/boughcheck/DoctypeScan$Lines", "take", "(C)V"⟩ : MethodName) prog_102_method_2_code 3 none :: ws) ({ frames := 0, cells := 0, slots := 0, locals := 0 } : Room)) (fun a_ U => a_ = #[(.ref a), (.int cc)] ∧ Z.Warmed39 U.vm ∧ U.heap = h0) (fun _ _ _ _ _ => True) (fun _ U o U' => ∃ v_ L_, o = .returned v_ ∧ Q_take Z a cc xm co af en h0 n0 v_ U'.heap L_ ∧ FrameEnd U o U' L_ ({ frames := 0, cells := 0, slots := 0, locals := 0 } : Room).cells ({ frames := 0, cells := 0, slots := 0, locals := 0 } : Room).slots) := by
  refine MetFree.of_bodySF (plainFor_of_name pn_4) hisR ?_
  intro p e s m args below meth c s₁ Bd hml0 hP hK
  obtain ⟨rfl, hZ, hh⟩ := hP
  have hx := Bd.exec
  have hby := Bd.bytes
  have hlk : meth.locks = false := Bd.notSynchronized
  have hml : c.maxLocals = 3 := hml0
  have hown : s.vm.findClass "com/example/boughcheck/boughcheck/DoctypeScan$Lines" = some m.cls := findClass_of_methodNamed Bd.named
  have hnm := (name_of_methodNamed Bd.named Bd.method).1
  have X0 : Stand p l e ({ frames := 0, cells := 0, slots := 0, locals := 0 } : Room) s m #[(.ref a), (.int cc)] below meth c s₁ [] 0 0 := Stand.of_body Bd
  have e0 : s₁.heap = h0 := by rw [← hh, Bd.state]; rfl
  have N0 := Fr.nil n0
  have K0 : Keep h0 h0 [a] := Keep.refl _ _
  show OEnds p e below s (Q_take Z a cc xm co af en h0 n0) _ _ _
  refine own_by (fun t k => castTop (ef_4 m a cc) k) ?_
  show OEnds p e below s _ _ _ (s₁.setTop (mkF m 0 #[.val (.ref a), .val (.int cc), .unset] []))
  refine own_by (fun _ k => XS.iloadN X0.here hx rfl (hb hby d4_0) rfl k) ?_
  show OEnds p e below s _ _ _ (s₁.setTop (mkF m 1 #[.val (.ref a), .val (.int cc), .unset] [(.int cc)]))
  refine own_by (fun _ k => XS.bipush X0.here hx rfl (hb hby d4_1) k) ?_
  show OEnds p e below s _ _ _ (s₁.setTop (mkF m 3 #[.val (.ref a), .val (.int cc), .unset] [(.int (10 : Int32)), (.int cc)]))
  by_cases hc3_1 : cc = (10 : Int32)
  · refine own_by (fun _ k => XS.icmpYes X0.here hx rfl (pc0 := 3) (pc' := 20) rfl (hb hby d4_3) rfl (teq hc3_1).1 (by decide) (by decide) k) ?_
    show OEnds p e below s _ _ _ (s₁.setTop (mkF m 20 #[.val (.ref a), .val (.int cc), .unset] []))
    refine own_by (fun _ k => XS.iconst X0.here hx rfl (hb hby d4_20) k) ?_
    show OEnds p e below s _ _ _ (s₁.setTop (mkF m 21 #[.val (.ref a), .val (.int cc), .unset] [(.int (1 : Int32))]))
    refine own_by (fun _ k => XS.goto X0.here hx rfl (pc0 := 21) (pc' := 25) rfl (hb hby d4_21) (by decide) (by decide) k) ?_
    show OEnds p e below s _ _ _ (s₁.setTop (mkF m 25 #[.val (.ref a), .val (.int cc), .unset] [(.int (1 : Int32))]))
    refine own_by (fun _ k => XS.istoreN X0.here hx rfl (hb hby d4_25) rfl (l' := #[.val (.ref a), .val (.int cc), .val (.int (1 : Int32))]) rfl k) ?_
    show OEnds p e below s _ _ _ (s₁.setTop (mkF m 26 #[.val (.ref a), .val (.int cc), .val (.int (1 : Int32))] []))
    refine own_by (fun _ k => XS.iloadN X0.here hx rfl (hb hby d4_26) rfl k) ?_
    show OEnds p e below s _ _ _ (s₁.setTop (mkF m 27 #[.val (.ref a), .val (.int cc), .val (.int (1 : Int32))] [(.int cc)]))
    refine own_by (fun _ k => XS.bipush X0.here hx rfl (hb hby d4_27) k) ?_
    show OEnds p e below s _ _ _ (s₁.setTop (mkF m 29 #[.val (.ref a), .val (.int cc), .val (.int (1 : Int32))] [(.int (13 : Int32)), (.int cc)]))
    by_cases hc29_2 : cc = (13 : Int32)
    · refine own_by (fun _ k => XS.icmpYes X0.here hx rfl (pc0 := 29) (pc' := 57) rfl (hb hby d4_29) rfl (teq hc29_2).1 (by decide) (by decide) k) ?_
      show OEnds p e below s _ _ _ (s₁.setTop (mkF m 57 #[.val (.ref a), .val (.int cc), .val (.int (1 : Int32))] []))
      refine own_by (fun _ k => XS.aloadN X0.here hx rfl (hb hby d4_57) rfl rfl k) ?_
      show OEnds p e below s _ _ _ (s₁.setTop (mkF m 58 #[.val (.ref a), .val (.int cc), .val (.int (1 : Int32))] [(.ref a)]))
      refine own_by (fun _ k => XS.dup X0.here hx rfl (hb hby d4_58) rfl rfl k) ?_
      show OEnds p e below s _ _ _ (s₁.setTop (mkF m 59 #[.val (.ref a), .val (.int cc), .val (.int (1 : Int32))] [(.ref a), (.ref a)]))
      obtain ⟨T3, X3, e3, st3⟩ := getF X0 hx hZ hown (host := "") (Or.inl (hw _ (List.mem_of_getElem? (i := 36) rfl))) Via.refl e0 (O0.fld 3 rfl rfl) (g := (mkF m 59 #[.val (.ref a), .val (.int cc), .val (.int (1 : Int32))] [(.ref a), (.ref a)])) rfl rfl (hb hby d4_59)
      refine own_by (st3) ?_
      show OEnds p e below s _ _ _ (T3.setTop (mkF m 62 #[.val (.ref a), .val (.int cc), .val (.int (1 : Int32))] [(.long en), (.ref a)]))
      refine own_by (fun _ k => XS.lconst X3.here hx rfl (hb hby d4_62) k) ?_
      show OEnds p e below s _ _ _ (T3.setTop (mkF m 63 #[.val (.ref a), .val (.int cc), .val (.int (1 : Int32))] [(.long (1 : Int64)), (.long en), (.ref a)]))
      refine own_by (fun _ k => XS.ladd X3.here hx rfl (hb hby d4_63) rfl k) ?_
      show OEnds p e below s _ _ _ (T3.setTop (mkF m 64 #[.val (.ref a), .val (.int cc), .val (.int (1 : Int32))] [(.long (en + (1 : Int64))), (.ref a)]))
      obtain ⟨T4, h4, X4, e4, W4, st4⟩ := putF X3 hx hZ hown (host := "") (Or.inl (hw _ (List.mem_of_getElem? (i := 36) rfl))) Via.refl e3 (O0.fld 3 rfl rfl) O0.exa (Or.inl (hw _ (List.mem_of_getElem? (i := 37) rfl))) (hw _ (List.mem_of_getElem? (i := 5) rfl)) (ty := .long) (by decide) rfl rfl (g := (mkF m 64 #[.val (.ref a), .val (.int cc), .val (.int (1 : Int32))] [(.long (en + (1 : Int64))), (.ref a)])) rfl rfl (hb hby d4_64)
      refine own_by (st4) ?_
      have O4 : Obj Z h4 a "com/example/boughcheck/boughcheck/DoctypeScan$Lines" sch_lines [(.int xm), (.long co), (.int af), (.long (en + (1 : Int64)))] := O0.set (so_sch_lines hw) W4 3 rfl (Nat.le_of_ble_eq_true rfl)
      have N4 := Fr.snoc X4 N0 ga
      have Z4 : n0 ≤ h4.size := Nat.le_trans Z0 (Keep.of_wr W4).1
      have K4 : Keep h0 h4 [a] := K0.wr W4 (Or.inl (List.mem_of_getElem? (i := 0) rfl))
      show OEnds p e below s _ _ _ (T4.setTop (mkF m 67 #[.val (.ref a), .val (.int cc), .val (.int (1 : Int32))] []))
      refine own_by (fun _ k => XS.aloadN X4.here hx rfl (hb hby d4_67) rfl rfl k) ?_
      show OEnds p e below s _ _ _ (T4.setTop (mkF m 68 #[.val (.ref a), .val (.int cc), .val (.int (1 : Int32))] [(.ref a)]))
      refine own_by (fun _ k => XS.lconst X4.here hx rfl (hb hby d4_68) k) ?_
      show OEnds p e below s _ _ _ (T4.setTop (mkF m 69 #[.val (.ref a), .val (.int cc), .val (.int (1 : Int32))] [(.long (0 : Int64)), (.ref a)]))
      obtain ⟨T5, h5, X5, e5, W5, st5⟩ := putF X4 hx hZ hown (host := "") (Or.inl (hw _ (List.mem_of_getElem? (i := 20) rfl))) Via.refl e4 (O4.fld 1 rfl rfl) O4.exa (Or.inl (hw _ (List.mem_of_getElem? (i := 21) rfl))) (hw _ (List.mem_of_getElem? (i := 5) rfl)) (ty := .long) (by decide) rfl rfl (g := (mkF m 69 #[.val (.ref a), .val (.int cc), .val (.int (1 : Int32))] [(.long (0 : Int64)), (.ref a)])) rfl rfl (hb hby d4_69)
      refine own_by (st5) ?_
      have O5 : Obj Z h5 a "com/example/boughcheck/boughcheck/DoctypeScan$Lines" sch_lines [(.int xm), (.long (0 : Int64)), (.int af), (.long (en + (1 : Int64)))] := O4.set (so_sch_lines hw) W5 1 rfl (Nat.le_of_ble_eq_true rfl)
      have N5 := Fr.snoc X5 N4 ga
      have Z5 : n0 ≤ h5.size := Nat.le_trans Z4 (Keep.of_wr W5).1
      have K5 : Keep h0 h5 [a] := K4.wr W5 (Or.inl (List.mem_of_getElem? (i := 0) rfl))
      show OEnds p e below s _ _ _ (T5.setTop (mkF m 72 #[.val (.ref a), .val (.int cc), .val (.int (1 : Int32))] []))
      refine own_by (fun _ k => XS.goto X5.here hx rfl (pc0 := 72) (pc' := 89) rfl (hb hby d4_72) (by decide) (by decide) k) ?_
      show OEnds p e below s _ _ _ (T5.setTop (mkF m 89 #[.val (.ref a), .val (.int cc), .val (.int (1 : Int32))] []))
      refine own_by (fun _ k => XS.aloadN X5.here hx rfl (hb hby d4_89) rfl rfl k) ?_
      show OEnds p e below s _ _ _ (T5.setTop (mkF m 90 #[.val (.ref a), .val (.int cc), .val (.int (1 : Int32))] [(.ref a)]))
      refine own_by (fun _ k => XS.iloadN X5.here hx rfl (hb hby d4_90) rfl k) ?_
      show OEnds p e below s _ _ _ (T5.setTop (mkF m 91 #[.val (.ref a), .val (.int cc), .val (.int (1 : Int32))] [(.int cc), (.ref a)]))
      refine own_by (fun _ k => XS.bipush X5.here hx rfl (hb hby d4_91) k) ?_
      show OEnds p e below s _ _ _ (T5.setTop (mkF m 93 #[.val (.ref a), .val (.int cc), .val (.int (1 : Int32))] [(.int (13 : Int32)), (.int cc), (.ref a)]))
      refine own_by (fun _ k => XS.icmpNo X5.here hx rfl (hb hby d4_93) rfl (teq hc29_2).2 k) ?_
      show OEnds p e below s _ _ _ (T5.setTop (mkF m 96 #[.val (.ref a), .val (.int cc), .val (.int (1 : Int32))] [(.ref a)]))
      refine own_by (fun _ k => XS.iconst X5.here hx rfl (hb hby d4_96) k) ?_
      show OEnds p e below s _ _ _ (T5.setTop (mkF m 97 #[.val (.ref a), .val (.int cc), .val (.int (1 : Int32))] [(.int (1 : Int32)), (.ref a)]))
      refine own_by (fun _ k => XS.goto X5.here hx rfl (pc0 := 97) (pc' := 101) rfl (hb hby d4_97) (by decide) (by decide) k) ?_
      show OEnds p e below s _ _ _ (T5.setTop (mkF m 101 #[.val (.ref a), .val (.int cc), .val (.int (1 : Int32))] [(.int (1 : Int32)), (.ref a)]))
      obtain ⟨T6, h6, X6, e6, W6, st6⟩ := putFN X5 hx hZ hown (hw _ (List.mem_of_getElem? (i := 22) rfl)) Via.refl e5 (O5.fld 2 rfl rfl) O5.exa (Or.inl (hw _ (List.mem_of_getElem? (i := 23) rfl))) (hw _ (List.mem_of_getElem? (i := 5) rfl)) (ty := .boolean) (v' := (.int (1 : Int32))) (by decide) rfl (by decide) (g := (mkF m 101 #[.val (.ref a), .val (.int cc), .val (.int (1 : Int32))] [(.int (1 : Int32)), (.ref a)])) rfl rfl (hb hby d4_101)
      refine own_by (st6) ?_
      have O6 : Obj Z h6 a "com/example/boughcheck/boughcheck/DoctypeScan$Lines" sch_lines [(.int xm), (.long (0 : Int64)), (.int (1 : Int32)), (.long (en + (1 : Int64)))] := O5.set (so_sch_lines hw) W6 2 rfl (Nat.le_of_ble_eq_true rfl)
      have N6 := Fr.snoc X6 N5 ga
      have Z6 : n0 ≤ h6.size := Nat.le_trans Z5 (Keep.of_wr W6).1
      have K6 : Keep h0 h6 [a] := K5.wr W6 (Or.inl (List.mem_of_getElem? (i := 0) rfl))
      show OEnds p e below s _ _ _ (T6.setTop (mkF m 104 #[.val (.ref a), .val (.int cc), .val (.int (1 : Int32))] []))
      have q_7_1 : (take_column cc xm co af) = (0 : Int64) := (by rw [take_column, if_pos hc3_1, if_pos hc29_2] <;> rfl)
      have q_8_2 : (take_afterCarriageReturn cc xm) = (1 : Int32) := (by rw [take_afterCarriageReturn, if_pos hc3_1, if_pos hc29_2] <;> rfl)
      have q_9_3 : (take_ends cc xm af en) = (en + (1 : Int64)) := (by rw [take_ends, if_pos hc3_1, if_pos hc29_2] <;> rfl)
      exact own_retV X6 hx hlk Bd.returns (hb hby d4_104) (by rw [e6]; exact ⟨rfl, N6, K6, by rw [q_7_1, q_8_2, q_9_3]; exact O6⟩) (by decide) (by decide)
    · refine own_by (fun _ k => XS.icmpNo X0.here hx rfl (hb hby d4_29) rfl (feq hc29_2).1 k) ?_
      show OEnds p e below s _ _ _ (s₁.setTop (mkF m 32 #[.val (.ref a), .val (.int cc), .val (.int (1 : Int32))] []))
      refine own_by (fun _ k => XS.aloadN X0.here hx rfl (hb hby d4_32) rfl rfl k) ?_
      show OEnds p e below s _ _ _ (s₁.setTop (mkF m 33 #[.val (.ref a), .val (.int cc), .val (.int (1 : Int32))] [(.ref a)]))
      obtain ⟨T10, X10, e10, st10⟩ := getF X0 hx hZ hown (host := "") (Or.inl (hw _ (List.mem_of_getElem? (i := 13) rfl))) Via.refl e0 (O0.fld 0 rfl rfl) (g := (mkF m 33 #[.val (.ref a), .val (.int cc), .val (.int (1 : Int32))] [(.ref a)])) rfl rfl (hb hby d4_33)
      refine own_by (st10) ?_
      show OEnds p e below s _ _ _ (T10.setTop (mkF m 36 #[.val (.ref a), .val (.int cc), .val (.int (1 : Int32))] [(.int xm)]))
      by_cases hc36_11 : xm = (0 : Int32)
      · refine own_by (fun _ k => XS.ifYes X10.here hx rfl (pc0 := 36) (pc' := 46) rfl (hb hby d4_36) rfl ((if0 _ _).trans (teq hc36_11).1) (by decide) (by decide) k) ?_
        show OEnds p e below s _ _ _ (T10.setTop (mkF m 46 #[.val (.ref a), .val (.int cc), .val (.int (1 : Int32))] []))
        refine own_by (fun _ k => XS.iloadN X10.here hx rfl (hb hby d4_46) rfl k) ?_
        show OEnds p e below s _ _ _ (T10.setTop (mkF m 47 #[.val (.ref a), .val (.int cc), .val (.int (1 : Int32))] [(.int (1 : Int32))]))
        refine own_by (fun _ k => XS.ifNo X10.here hx rfl (hb hby d4_47) rfl ((if0 _ _).trans (feq (by decide : ¬ ((1 : Int32) = (0 : Int32)))).1) k) ?_
        show OEnds p e below s _ _ _ (T10.setTop (mkF m 50 #[.val (.ref a), .val (.int cc), .val (.int (1 : Int32))] []))
        refine own_by (fun _ k => XS.aloadN X10.here hx rfl (hb hby d4_50) rfl rfl k) ?_
        show OEnds p e below s _ _ _ (T10.setTop (mkF m 51 #[.val (.ref a), .val (.int cc), .val (.int (1 : Int32))] [(.ref a)]))
        obtain ⟨T12, X12, e12, st12⟩ := getF X10 hx hZ hown (host := "") (Or.inl (hw _ (List.mem_of_getElem? (i := 22) rfl))) Via.refl e10 (O0.fld 2 rfl rfl) (g := (mkF m 51 #[.val (.ref a), .val (.int cc), .val (.int (1 : Int32))] [(.ref a)])) rfl rfl (hb hby d4_51)
        refine own_by (st12) ?_
        show OEnds p e below s _ _ _ (T12.setTop (mkF m 54 #[.val (.ref a), .val (.int cc), .val (.int (1 : Int32))] [(.int af)]))
        by_cases hc54_13 : af = (0 : Int32)
        · refine own_by (fun _ k => XS.ifNo X12.here hx rfl (hb hby d4_54) rfl ((if0 _ _).trans (teq hc54_13).2) k) ?_
          show OEnds p e below s _ _ _ (T12.setTop (mkF m 57 #[.val (.ref a), .val (.int cc), .val (.int (1 : Int32))] []))
          refine own_by (fun _ k => XS.aloadN X12.here hx rfl (hb hby d4_57) rfl rfl k) ?_
          show OEnds p e below s _ _ _ (T12.setTop (mkF m 58 #[.val (.ref a), .val (.int cc), .val (.int (1 : Int32))] [(.ref a)]))
          refine own_by (fun _ k => XS.dup X12.here hx rfl (hb hby d4_58) rfl rfl k) ?_
          show OEnds p e below s _ _ _ (T12.setTop (mkF m 59 #[.val (.ref a), .val (.int cc), .val (.int (1 : Int32))] [(.ref a), (.ref a)]))
          obtain ⟨T14, X14, e14, st14⟩ := getF X12 hx hZ hown (host := "") (Or.inl (hw _ (List.mem_of_getElem? (i := 36) rfl))) Via.refl e12 (O0.fld 3 rfl rfl) (g := (mkF m 59 #[.val (.ref a), .val (.int cc), .val (.int (1 : Int32))] [(.ref a), (.ref a)])) rfl rfl (hb hby d4_59)
          refine own_by (st14) ?_
          show OEnds p e below s _ _ _ (T14.setTop (mkF m 62 #[.val (.ref a), .val (.int cc), .val (.int (1 : Int32))] [(.long en), (.ref a)]))
          refine own_by (fun _ k => XS.lconst X14.here hx rfl (hb hby d4_62) k) ?_
          show OEnds p e below s _ _ _ (T14.setTop (mkF m 63 #[.val (.ref a), .val (.int cc), .val (.int (1 : Int32))] [(.long (1 : Int64)), (.long en), (.ref a)]))
          refine own_by (fun _ k => XS.ladd X14.here hx rfl (hb hby d4_63) rfl k) ?_
          show OEnds p e below s _ _ _ (T14.setTop (mkF m 64 #[.val (.ref a), .val (.int cc), .val (.int (1 : Int32))] [(.long (en + (1 : Int64))), (.ref a)]))
          obtain ⟨T15, h15, X15, e15, W15, st15⟩ := putF X14 hx hZ hown (host := "") (Or.inl (hw _ (List.mem_of_getElem? (i := 36) rfl))) Via.refl e14 (O0.fld 3 rfl rfl) O0.exa (Or.inl (hw _ (List.mem_of_getElem? (i := 37) rfl))) (hw _ (List.mem_of_getElem? (i := 5) rfl)) (ty := .long) (by decide) rfl rfl (g := (mkF m 64 #[.val (.ref a), .val (.int cc), .val (.int (1 : Int32))] [(.long (en + (1 : Int64))), (.ref a)])) rfl rfl (hb hby d4_64)
          refine own_by (st15) ?_
          have O15 : Obj Z h15 a "com/example/boughcheck/boughcheck/DoctypeScan$Lines" sch_lines [(.int xm), (.long co), (.int af), (.long (en + (1 : Int64)))] := O0.set (so_sch_lines hw) W15 3 rfl (Nat.le_of_ble_eq_true rfl)
          have N15 := Fr.snoc X15 N0 ga
          have Z15 : n0 ≤ h15.size := Nat.le_trans Z0 (Keep.of_wr W15).1
          have K15 : Keep h0 h15 [a] := K0.wr W15 (Or.inl (List.mem_of_getElem? (i := 0) rfl))
          show OEnds p e below s _ _ _ (T15.setTop (mkF m 67 #[.val (.ref a), .val (.int cc), .val (.int (1 : Int32))] []))
          refine own_by (fun _ k => XS.aloadN X15.here hx rfl (hb hby d4_67) rfl rfl k) ?_
          show OEnds p e below s _ _ _ (T15.setTop (mkF m 68 #[.val (.ref a), .val (.int cc), .val (.int (1 : Int32))] [(.ref a)]))
          refine own_by (fun _ k => XS.lconst X15.here hx rfl (hb hby d4_68) k) ?_
          show OEnds p e below s _ _ _ (T15.setTop (mkF m 69 #[.val (.ref a), .val (.int cc), .val (.int (1 : Int32))] [(.long (0 : Int64)), (.ref a)]))
          obtain ⟨T16, h16, X16, e16, W16, st16⟩ := putF X15 hx hZ hown (host := "") (Or.inl (hw _ (List.mem_of_getElem? (i := 20) rfl))) Via.refl e15 (O15.fld 1 rfl rfl) O15.exa (Or.inl (hw _ (List.mem_of_getElem? (i := 21) rfl))) (hw _ (List.mem_of_getElem? (i := 5) rfl)) (ty := .long) (by decide) rfl rfl (g := (mkF m 69 #[.val (.ref a), .val (.int cc), .val (.int (1 : Int32))] [(.long (0 : Int64)), (.ref a)])) rfl rfl (hb hby d4_69)
          refine own_by (st16) ?_
          have O16 : Obj Z h16 a "com/example/boughcheck/boughcheck/DoctypeScan$Lines" sch_lines [(.int xm), (.long (0 : Int64)), (.int af), (.long (en + (1 : Int64)))] := O15.set (so_sch_lines hw) W16 1 rfl (Nat.le_of_ble_eq_true rfl)
          have N16 := Fr.snoc X16 N15 ga
          have Z16 : n0 ≤ h16.size := Nat.le_trans Z15 (Keep.of_wr W16).1
          have K16 : Keep h0 h16 [a] := K15.wr W16 (Or.inl (List.mem_of_getElem? (i := 0) rfl))
          show OEnds p e below s _ _ _ (T16.setTop (mkF m 72 #[.val (.ref a), .val (.int cc), .val (.int (1 : Int32))] []))
          refine own_by (fun _ k => XS.goto X16.here hx rfl (pc0 := 72) (pc' := 89) rfl (hb hby d4_72) (by decide) (by decide) k) ?_
          show OEnds p e below s _ _ _ (T16.setTop (mkF m 89 #[.val (.ref a), .val (.int cc), .val (.int (1 : Int32))] []))
          refine own_by (fun _ k => XS.aloadN X16.here hx rfl (hb hby d4_89) rfl rfl k) ?_
          show OEnds p e below s _ _ _ (T16.setTop (mkF m 90 #[.val (.ref a), .val (.int cc), .val (.int (1 : Int32))] [(.ref a)]))
          refine own_by (fun _ k => XS.iloadN X16.here hx rfl (hb hby d4_90) rfl k) ?_
          show OEnds p e below s _ _ _ (T16.setTop (mkF m 91 #[.val (.ref a), .val (.int cc), .val (.int (1 : Int32))] [(.int cc), (.ref a)]))
          refine own_by (fun _ k => XS.bipush X16.here hx rfl (hb hby d4_91) k) ?_
          show OEnds p e below s _ _ _ (T16.setTop (mkF m 93 #[.val (.ref a), .val (.int cc), .val (.int (1 : Int32))] [(.int (13 : Int32)), (.int cc), (.ref a)]))
          refine own_by (fun _ k => XS.icmpYes X16.here hx rfl (pc0 := 93) (pc' := 100) rfl (hb hby d4_93) rfl (feq hc29_2).2 (by decide) (by decide) k) ?_
          show OEnds p e below s _ _ _ (T16.setTop (mkF m 100 #[.val (.ref a), .val (.int cc), .val (.int (1 : Int32))] [(.ref a)]))
          refine own_by (fun _ k => XS.iconst X16.here hx rfl (hb hby d4_100) k) ?_
          show OEnds p e below s _ _ _ (T16.setTop (mkF m 101 #[.val (.ref a), .val (.int cc), .val (.int (1 : Int32))] [(.int (0 : Int32)), (.ref a)]))
          obtain ⟨T17, h17, X17, e17, W17, st17⟩ := putFN X16 hx hZ hown (hw _ (List.mem_of_getElem? (i := 22) rfl)) Via.refl e16 (O16.fld 2 rfl rfl) O16.exa (Or.inl (hw _ (List.mem_of_getElem? (i := 23) rfl))) (hw _ (List.mem_of_getElem? (i := 5) rfl)) (ty := .boolean) (v' := (.int (0 : Int32))) (by decide) rfl (by decide) (g := (mkF m 101 #[.val (.ref a), .val (.int cc), .val (.int (1 : Int32))] [(.int (0 : Int32)), (.ref a)])) rfl rfl (hb hby d4_101)
          refine own_by (st17) ?_
          have O17 : Obj Z h17 a "com/example/boughcheck/boughcheck/DoctypeScan$Lines" sch_lines [(.int xm), (.long (0 : Int64)), (.int (0 : Int32)), (.long (en + (1 : Int64)))] := O16.set (so_sch_lines hw) W17 2 rfl (Nat.le_of_ble_eq_true rfl)
          have N17 := Fr.snoc X17 N16 ga
          have Z17 : n0 ≤ h17.size := Nat.le_trans Z16 (Keep.of_wr W17).1
          have K17 : Keep h0 h17 [a] := K16.wr W17 (Or.inl (List.mem_of_getElem? (i := 0) rfl))
          show OEnds p e below s _ _ _ (T17.setTop (mkF m 104 #[.val (.ref a), .val (.int cc), .val (.int (1 : Int32))] []))
          have q_18_1 : (take_column cc xm co af) = (0 : Int64) := (by rw [take_column, if_pos hc3_1, if_neg hc29_2, if_pos hc36_11, if_pos hc54_13] <;> rfl)
          have q_19_2 : (take_afterCarriageReturn cc xm) = (0 : Int32) := (by rw [take_afterCarriageReturn, if_pos hc3_1, if_neg hc29_2] <;> rfl)
          have q_20_3 : (take_ends cc xm af en) = (en + (1 : Int64)) := (by rw [take_ends, if_pos hc3_1, if_neg hc29_2, if_pos hc36_11, if_pos hc54_13] <;> rfl)
          exact own_retV X17 hx hlk Bd.returns (hb hby d4_104) (by rw [e17]; exact ⟨rfl, N17, K17, by rw [q_18_1, q_19_2, q_20_3]; exact O17⟩) (by decide) (by decide)
        · refine own_by (fun _ k => XS.ifYes X12.here hx rfl (pc0 := 54) (pc' := 75) rfl (hb hby d4_54) rfl ((if0 _ _).trans (feq hc54_13).2) (by decide) (by decide) k) ?_
          show OEnds p e below s _ _ _ (T12.setTop (mkF m 75 #[.val (.ref a), .val (.int cc), .val (.int (1 : Int32))] []))
          refine own_by (fun _ k => XS.iloadN X12.here hx rfl (hb hby d4_75) rfl k) ?_
          show OEnds p e below s _ _ _ (T12.setTop (mkF m 76 #[.val (.ref a), .val (.int cc), .val (.int (1 : Int32))] [(.int (1 : Int32))]))
          refine own_by (fun _ k => XS.ifYes X12.here hx rfl (pc0 := 76) (pc' := 89) rfl (hb hby d4_76) rfl ((if0 _ _).trans (feq (by decide : ¬ ((1 : Int32) = (0 : Int32)))).2) (by decide) (by decide) k) ?_
          show OEnds p e below s _ _ _ (T12.setTop (mkF m 89 #[.val (.ref a), .val (.int cc), .val (.int (1 : Int32))] []))
          refine own_by (fun _ k => XS.aloadN X12.here hx rfl (hb hby d4_89) rfl rfl k) ?_
          show OEnds p e below s _ _ _ (T12.setTop (mkF m 90 #[.val (.ref a), .val (.int cc), .val (.int (1 : Int32))] [(.ref a)]))
          refine own_by (fun _ k => XS.iloadN X12.here hx rfl (hb hby d4_90) rfl k) ?_
          show OEnds p e below s _ _ _ (T12.setTop (mkF m 91 #[.val (.ref a), .val (.int cc), .val (.int (1 : Int32))] [(.int cc), (.ref a)]))
          refine own_by (fun _ k => XS.bipush X12.here hx rfl (hb hby d4_91) k) ?_
          show OEnds p e below s _ _ _ (T12.setTop (mkF m 93 #[.val (.ref a), .val (.int cc), .val (.int (1 : Int32))] [(.int (13 : Int32)), (.int cc), (.ref a)]))
          refine own_by (fun _ k => XS.icmpYes X12.here hx rfl (pc0 := 93) (pc' := 100) rfl (hb hby d4_93) rfl (feq hc29_2).2 (by decide) (by decide) k) ?_
          show OEnds p e below s _ _ _ (T12.setTop (mkF m 100 #[.val (.ref a), .val (.int cc), .val (.int (1 : Int32))] [(.ref a)]))
          refine own_by (fun _ k => XS.iconst X12.here hx rfl (hb hby d4_100) k) ?_
          show OEnds p e below s _ _ _ (T12.setTop (mkF m 101 #[.val (.ref a), .val (.int cc), .val (.int (1 : Int32))] [(.int (0 : Int32)), (.ref a)]))
          obtain ⟨T21, h21, X21, e21, W21, st21⟩ := putFN X12 hx hZ hown (hw _ (List.mem_of_getElem? (i := 22) rfl)) Via.refl e12 (O0.fld 2 rfl rfl) O0.exa (Or.inl (hw _ (List.mem_of_getElem? (i := 23) rfl))) (hw _ (List.mem_of_getElem? (i := 5) rfl)) (ty := .boolean) (v' := (.int (0 : Int32))) (by decide) rfl (by decide) (g := (mkF m 101 #[.val (.ref a), .val (.int cc), .val (.int (1 : Int32))] [(.int (0 : Int32)), (.ref a)])) rfl rfl (hb hby d4_101)
          refine own_by (st21) ?_
          have O21 : Obj Z h21 a "com/example/boughcheck/boughcheck/DoctypeScan$Lines" sch_lines [(.int xm), (.long co), (.int (0 : Int32)), (.long en)] := O0.set (so_sch_lines hw) W21 2 rfl (Nat.le_of_ble_eq_true rfl)
          have N21 := Fr.snoc X21 N0 ga
          have Z21 : n0 ≤ h21.size := Nat.le_trans Z0 (Keep.of_wr W21).1
          have K21 : Keep h0 h21 [a] := K0.wr W21 (Or.inl (List.mem_of_getElem? (i := 0) rfl))
          show OEnds p e below s _ _ _ (T21.setTop (mkF m 104 #[.val (.ref a), .val (.int cc), .val (.int (1 : Int32))] []))
          have q_22_1 : (take_column cc xm co af) = co := (by rw [take_column, if_pos hc3_1, if_neg hc29_2, if_pos hc36_11, if_neg hc54_13] <;> rfl)
          have q_23_2 : (take_afterCarriageReturn cc xm) = (0 : Int32) := (by rw [take_afterCarriageReturn, if_pos hc3_1, if_neg hc29_2] <;> rfl)
          have q_24_3 : (take_ends cc xm af en) = en := (by rw [take_ends, if_pos hc3_1, if_neg hc29_2, if_pos hc36_11, if_neg hc54_13] <;> rfl)
          exact own_retV X21 hx hlk Bd.returns (hb hby d4_104) (by rw [e21]; exact ⟨rfl, N21, K21, by rw [q_22_1, q_23_2, q_24_3]; exact O21⟩) (by decide) (by decide)
      · refine own_by (fun _ k => XS.ifNo X10.here hx rfl (hb hby d4_36) rfl ((if0 _ _).trans (feq hc36_11).1) k) ?_
        show OEnds p e below s _ _ _ (T10.setTop (mkF m 39 #[.val (.ref a), .val (.int cc), .val (.int (1 : Int32))] []))
        refine own_by (fun _ k => XS.iloadN X10.here hx rfl (hb hby d4_39) rfl k) ?_
        show OEnds p e below s _ _ _ (T10.setTop (mkF m 40 #[.val (.ref a), .val (.int cc), .val (.int (1 : Int32))] [(.int cc)]))
        refine own_by (fun _ k => XS.sipush X10.here hx rfl (hb hby d4_40) k) ?_
        show OEnds p e below s _ _ _ (T10.setTop (mkF m 43 #[.val (.ref a), .val (.int cc), .val (.int (1 : Int32))] [(.int (8232 : Int32)), (.int cc)]))
        by_cases hc43_25 : cc = (8232 : Int32)
        · refine own_by (fun _ k => XS.icmpYes X10.here hx rfl (pc0 := 43) (pc' := 57) rfl (hb hby d4_43) rfl (teq hc43_25).1 (by decide) (by decide) k) ?_
          show OEnds p e below s _ _ _ (T10.setTop (mkF m 57 #[.val (.ref a), .val (.int cc), .val (.int (1 : Int32))] []))
          refine own_by (fun _ k => XS.aloadN X10.here hx rfl (hb hby d4_57) rfl rfl k) ?_
          show OEnds p e below s _ _ _ (T10.setTop (mkF m 58 #[.val (.ref a), .val (.int cc), .val (.int (1 : Int32))] [(.ref a)]))
          refine own_by (fun _ k => XS.dup X10.here hx rfl (hb hby d4_58) rfl rfl k) ?_
          show OEnds p e below s _ _ _ (T10.setTop (mkF m 59 #[.val (.ref a), .val (.int cc), .val (.int (1 : Int32))] [(.ref a), (.ref a)]))
          obtain ⟨T26, X26, e26, st26⟩ := getF X10 hx hZ hown (host := "") (Or.inl (hw _ (List.mem_of_getElem? (i := 36) rfl))) Via.refl e10 (O0.fld 3 rfl rfl) (g := (mkF m 59 #[.val (.ref a), .val (.int cc), .val (.int (1 : Int32))] [(.ref a), (.ref a)])) rfl rfl (hb hby d4_59)
          refine own_by (st26) ?_
          show OEnds p e below s _ _ _ (T26.setTop (mkF m 62 #[.val (.ref a), .val (.int cc), .val (.int (1 : Int32))] [(.long en), (.ref a)]))
          refine own_by (fun _ k => XS.lconst X26.here hx rfl (hb hby d4_62) k) ?_
          show OEnds p e below s _ _ _ (T26.setTop (mkF m 63 #[.val (.ref a), .val (.int cc), .val (.int (1 : Int32))] [(.long (1 : Int64)), (.long en), (.ref a)]))
          refine own_by (fun _ k => XS.ladd X26.here hx rfl (hb hby d4_63) rfl k) ?_
          show OEnds p e below s _ _ _ (T26.setTop (mkF m 64 #[.val (.ref a), .val (.int cc), .val (.int (1 : Int32))] [(.long (en + (1 : Int64))), (.ref a)]))
          obtain ⟨T27, h27, X27, e27, W27, st27⟩ := putF X26 hx hZ hown (host := "") (Or.inl (hw _ (List.mem_of_getElem? (i := 36) rfl))) Via.refl e26 (O0.fld 3 rfl rfl) O0.exa (Or.inl (hw _ (List.mem_of_getElem? (i := 37) rfl))) (hw _ (List.mem_of_getElem? (i := 5) rfl)) (ty := .long) (by decide) rfl rfl (g := (mkF m 64 #[.val (.ref a), .val (.int cc), .val (.int (1 : Int32))] [(.long (en + (1 : Int64))), (.ref a)])) rfl rfl (hb hby d4_64)
          refine own_by (st27) ?_
          have O27 : Obj Z h27 a "com/example/boughcheck/boughcheck/DoctypeScan$Lines" sch_lines [(.int xm), (.long co), (.int af), (.long (en + (1 : Int64)))] := O0.set (so_sch_lines hw) W27 3 rfl (Nat.le_of_ble_eq_true rfl)
          have N27 := Fr.snoc X27 N0 ga
          have Z27 : n0 ≤ h27.size := Nat.le_trans Z0 (Keep.of_wr W27).1
          have K27 : Keep h0 h27 [a] := K0.wr W27 (Or.inl (List.mem_of_getElem? (i := 0) rfl))
          show OEnds p e below s _ _ _ (T27.setTop (mkF m 67 #[.val (.ref a), .val (.int cc), .val (.int (1 : Int32))] []))
          refine own_by (fun _ k => XS.aloadN X27.here hx rfl (hb hby d4_67) rfl rfl k) ?_
          show OEnds p e below s _ _ _ (T27.setTop (mkF m 68 #[.val (.ref a), .val (.int cc), .val (.int (1 : Int32))] [(.ref a)]))
          refine own_by (fun _ k => XS.lconst X27.here hx rfl (hb hby d4_68) k) ?_
          show OEnds p e below s _ _ _ (T27.setTop (mkF m 69 #[.val (.ref a), .val (.int cc), .val (.int (1 : Int32))] [(.long (0 : Int64)), (.ref a)]))
          obtain ⟨T28, h28, X28, e28, W28, st28⟩ := putF X27 hx hZ hown (host := "") (Or.inl (hw _ (List.mem_of_getElem? (i := 20) rfl))) Via.refl e27 (O27.fld 1 rfl rfl) O27.exa (Or.inl (hw _ (List.mem_of_getElem? (i := 21) rfl))) (hw _ (List.mem_of_getElem? (i := 5) rfl)) (ty := .long) (by decide) rfl rfl (g := (mkF m 69 #[.val (.ref a), .val (.int cc), .val (.int (1 : Int32))] [(.long (0 : Int64)), (.ref a)])) rfl rfl (hb hby d4_69)
          refine own_by (st28) ?_
          have O28 : Obj Z h28 a "com/example/boughcheck/boughcheck/DoctypeScan$Lines" sch_lines [(.int xm), (.long (0 : Int64)), (.int af), (.long (en + (1 : Int64)))] := O27.set (so_sch_lines hw) W28 1 rfl (Nat.le_of_ble_eq_true rfl)
          have N28 := Fr.snoc X28 N27 ga
          have Z28 : n0 ≤ h28.size := Nat.le_trans Z27 (Keep.of_wr W28).1
          have K28 : Keep h0 h28 [a] := K27.wr W28 (Or.inl (List.mem_of_getElem? (i := 0) rfl))
          show OEnds p e below s _ _ _ (T28.setTop (mkF m 72 #[.val (.ref a), .val (.int cc), .val (.int (1 : Int32))] []))
          refine own_by (fun _ k => XS.goto X28.here hx rfl (pc0 := 72) (pc' := 89) rfl (hb hby d4_72) (by decide) (by decide) k) ?_
          show OEnds p e below s _ _ _ (T28.setTop (mkF m 89 #[.val (.ref a), .val (.int cc), .val (.int (1 : Int32))] []))
          refine own_by (fun _ k => XS.aloadN X28.here hx rfl (hb hby d4_89) rfl rfl k) ?_
          show OEnds p e below s _ _ _ (T28.setTop (mkF m 90 #[.val (.ref a), .val (.int cc), .val (.int (1 : Int32))] [(.ref a)]))
          refine own_by (fun _ k => XS.iloadN X28.here hx rfl (hb hby d4_90) rfl k) ?_
          show OEnds p e below s _ _ _ (T28.setTop (mkF m 91 #[.val (.ref a), .val (.int cc), .val (.int (1 : Int32))] [(.int cc), (.ref a)]))
          refine own_by (fun _ k => XS.bipush X28.here hx rfl (hb hby d4_91) k) ?_
          show OEnds p e below s _ _ _ (T28.setTop (mkF m 93 #[.val (.ref a), .val (.int cc), .val (.int (1 : Int32))] [(.int (13 : Int32)), (.int cc), (.ref a)]))
          refine own_by (fun _ k => XS.icmpYes X28.here hx rfl (pc0 := 93) (pc' := 100) rfl (hb hby d4_93) rfl (feq hc29_2).2 (by decide) (by decide) k) ?_
          show OEnds p e below s _ _ _ (T28.setTop (mkF m 100 #[.val (.ref a), .val (.int cc), .val (.int (1 : Int32))] [(.ref a)]))
          refine own_by (fun _ k => XS.iconst X28.here hx rfl (hb hby d4_100) k) ?_
          show OEnds p e below s _ _ _ (T28.setTop (mkF m 101 #[.val (.ref a), .val (.int cc), .val (.int (1 : Int32))] [(.int (0 : Int32)), (.ref a)]))
          obtain ⟨T29, h29, X29, e29, W29, st29⟩ := putFN X28 hx hZ hown (hw _ (List.mem_of_getElem? (i := 22) rfl)) Via.refl e28 (O28.fld 2 rfl rfl) O28.exa (Or.inl (hw _ (List.mem_of_getElem? (i := 23) rfl))) (hw _ (List.mem_of_getElem? (i := 5) rfl)) (ty := .boolean) (v' := (.int (0 : Int32))) (by decide) rfl (by decide) (g := (mkF m 101 #[.val (.ref a), .val (.int cc), .val (.int (1 : Int32))] [(.int (0 : Int32)), (.ref a)])) rfl rfl (hb hby d4_101)
          refine own_by (st29) ?_
          have O29 : Obj Z h29 a "com/example/boughcheck/boughcheck/DoctypeScan$Lines" sch_lines [(.int xm), (.long (0 : Int64)), (.int (0 : Int32)), (.long (en + (1 : Int64)))] := O28.set (so_sch_lines hw) W29 2 rfl (Nat.le_of_ble_eq_true rfl)
          have N29 := Fr.snoc X29 N28 ga
          have Z29 : n0 ≤ h29.size := Nat.le_trans Z28 (Keep.of_wr W29).1
          have K29 : Keep h0 h29 [a] := K28.wr W29 (Or.inl (List.mem_of_getElem? (i := 0) rfl))
          show OEnds p e below s _ _ _ (T29.setTop (mkF m 104 #[.val (.ref a), .val (.int cc), .val (.int (1 : Int32))] []))
          have q_30_1 : (take_column cc xm co af) = (0 : Int64) := (by rw [take_column, if_pos hc3_1, if_neg hc29_2, if_neg hc36_11, if_pos hc43_25] <;> rfl)
          have q_31_2 : (take_afterCarriageReturn cc xm) = (0 : Int32) := (by rw [take_afterCarriageReturn, if_pos hc3_1, if_neg hc29_2] <;> rfl)
          have q_32_3 : (take_ends cc xm af en) = (en + (1 : Int64)) := (by rw [take_ends, if_pos hc3_1, if_neg hc29_2, if_neg hc36_11, if_pos hc43_25] <;> rfl)
          exact own_retV X29 hx hlk Bd.returns (hb hby d4_104) (by rw [e29]; exact ⟨rfl, N29, K29, by rw [q_30_1, q_31_2, q_32_3]; exact O29⟩) (by decide) (by decide)
        · refine own_by (fun _ k => XS.icmpNo X10.here hx rfl (hb hby d4_43) rfl (feq hc43_25).1 k) ?_
          show OEnds p e below s _ _ _ (T10.setTop (mkF m 46 #[.val (.ref a), .val (.int cc), .val (.int (1 : Int32))] []))
          refine own_by (fun _ k => XS.iloadN X10.here hx rfl (hb hby d4_46) rfl k) ?_
          show OEnds p e below s _ _ _ (T10.setTop (mkF m 47 #[.val (.ref a), .val (.int cc), .val (.int (1 : Int32))] [(.int (1 : Int32))]))
          refine own_by (fun _ k => XS.ifNo X10.here hx rfl (hb hby d4_47) rfl ((if0 _ _).trans (feq (by decide : ¬ ((1 : Int32) = (0 : Int32)))).1) k) ?_
          show OEnds p e below s _ _ _ (T10.setTop (mkF m 50 #[.val (.ref a), .val (.int cc), .val (.int (1 : Int32))] []))
          refine own_by (fun _ k => XS.aloadN X10.here hx rfl (hb hby d4_50) rfl rfl k) ?_
          show OEnds p e below s _ _ _ (T10.setTop (mkF m 51 #[.val (.ref a), .val (.int cc), .val (.int (1 : Int32))] [(.ref a)]))
          obtain ⟨T33, X33, e33, st33⟩ := getF X10 hx hZ hown (host := "") (Or.inl (hw _ (List.mem_of_getElem? (i := 22) rfl))) Via.refl e10 (O0.fld 2 rfl rfl) (g := (mkF m 51 #[.val (.ref a), .val (.int cc), .val (.int (1 : Int32))] [(.ref a)])) rfl rfl (hb hby d4_51)
          refine own_by (st33) ?_
          show OEnds p e below s _ _ _ (T33.setTop (mkF m 54 #[.val (.ref a), .val (.int cc), .val (.int (1 : Int32))] [(.int af)]))
          by_cases hc54_34 : af = (0 : Int32)
          · refine own_by (fun _ k => XS.ifNo X33.here hx rfl (hb hby d4_54) rfl ((if0 _ _).trans (teq hc54_34).2) k) ?_
            show OEnds p e below s _ _ _ (T33.setTop (mkF m 57 #[.val (.ref a), .val (.int cc), .val (.int (1 : Int32))] []))
            refine own_by (fun _ k => XS.aloadN X33.here hx rfl (hb hby d4_57) rfl rfl k) ?_
            show OEnds p e below s _ _ _ (T33.setTop (mkF m 58 #[.val (.ref a), .val (.int cc), .val (.int (1 : Int32))] [(.ref a)]))
            refine own_by (fun _ k => XS.dup X33.here hx rfl (hb hby d4_58) rfl rfl k) ?_
            show OEnds p e below s _ _ _ (T33.setTop (mkF m 59 #[.val (.ref a), .val (.int cc), .val (.int (1 : Int32))] [(.ref a), (.ref a)]))
            obtain ⟨T35, X35, e35, st35⟩ := getF X33 hx hZ hown (host := "") (Or.inl (hw _ (List.mem_of_getElem? (i := 36) rfl))) Via.refl e33 (O0.fld 3 rfl rfl) (g := (mkF m 59 #[.val (.ref a), .val (.int cc), .val (.int (1 : Int32))] [(.ref a), (.ref a)])) rfl rfl (hb hby d4_59)
            refine own_by (st35) ?_
            show OEnds p e below s _ _ _ (T35.setTop (mkF m 62 #[.val (.ref a), .val (.int cc), .val (.int (1 : Int32))] [(.long en), (.ref a)]))
            refine own_by (fun _ k => XS.lconst X35.here hx rfl (hb hby d4_62) k) ?_
            show OEnds p e below s _ _ _ (T35.setTop (mkF m 63 #[.val (.ref a), .val (.int cc), .val (.int (1 : Int32))] [(.long (1 : Int64)), (.long en), (.ref a)]))
            refine own_by (fun _ k => XS.ladd X35.here hx rfl (hb hby d4_63) rfl k) ?_
            show OEnds p e below s _ _ _ (T35.setTop (mkF m 64 #[.val (.ref a), .val (.int cc), .val (.int (1 : Int32))] [(.long (en + (1 : Int64))), (.ref a)]))
            obtain ⟨T36, h36, X36, e36, W36, st36⟩ := putF X35 hx hZ hown (host := "") (Or.inl (hw _ (List.mem_of_getElem? (i := 36) rfl))) Via.refl e35 (O0.fld 3 rfl rfl) O0.exa (Or.inl (hw _ (List.mem_of_getElem? (i := 37) rfl))) (hw _ (List.mem_of_getElem? (i := 5) rfl)) (ty := .long) (by decide) rfl rfl (g := (mkF m 64 #[.val (.ref a), .val (.int cc), .val (.int (1 : Int32))] [(.long (en + (1 : Int64))), (.ref a)])) rfl rfl (hb hby d4_64)
            refine own_by (st36) ?_
            have O36 : Obj Z h36 a "com/example/boughcheck/boughcheck/DoctypeScan$Lines" sch_lines [(.int xm), (.long co), (.int af), (.long (en + (1 : Int64)))] := O0.set (so_sch_lines hw) W36 3 rfl (Nat.le_of_ble_eq_true rfl)
            have N36 := Fr.snoc X36 N0 ga
            have Z36 : n0 ≤ h36.size := Nat.le_trans Z0 (Keep.of_wr W36).1
            have K36 : Keep h0 h36 [a] := K0.wr W36 (Or.inl (List.mem_of_getElem? (i := 0) rfl))
            show OEnds p e below s _ _ _ (T36.setTop (mkF m 67 #[.val (.ref a), .val (.int cc), .val (.int (1 : Int32))] []))
            refine own_by (fun _ k => XS.aloadN X36.here hx rfl (hb hby d4_67) rfl rfl k) ?_
            show OEnds p e below s _ _ _ (T36.setTop (mkF m 68 #[.val (.ref a), .val (.int cc), .val (.int (1 : Int32))] [(.ref a)]))
            refine own_by (fun _ k => XS.lconst X36.here hx rfl (hb hby d4_68) k) ?_
            show OEnds p e below s _ _ _ (T36.setTop (mkF m 69 #[.val (.ref a), .val (.int cc), .val (.int (1 : Int32))] [(.long (0 : Int64)), (.ref a)]))
            obtain ⟨T37, h37, X37, e37, W37, st37⟩ := putF X36 hx hZ hown (host := "") (Or.inl (hw _ (List.mem_of_getElem? (i := 20) rfl))) Via.refl e36 (O36.fld 1 rfl rfl) O36.exa (Or.inl (hw _ (List.mem_of_getElem? (i := 21) rfl))) (hw _ (List.mem_of_getElem? (i := 5) rfl)) (ty := .long) (by decide) rfl rfl (g := (mkF m 69 #[.val (.ref a), .val (.int cc), .val (.int (1 : Int32))] [(.long (0 : Int64)), (.ref a)])) rfl rfl (hb hby d4_69)
            refine own_by (st37) ?_
            have O37 : Obj Z h37 a "com/example/boughcheck/boughcheck/DoctypeScan$Lines" sch_lines [(.int xm), (.long (0 : Int64)), (.int af), (.long (en + (1 : Int64)))] := O36.set (so_sch_lines hw) W37 1 rfl (Nat.le_of_ble_eq_true rfl)
            have N37 := Fr.snoc X37 N36 ga
            have Z37 : n0 ≤ h37.size := Nat.le_trans Z36 (Keep.of_wr W37).1
            have K37 : Keep h0 h37 [a] := K36.wr W37 (Or.inl (List.mem_of_getElem? (i := 0) rfl))
            show OEnds p e below s _ _ _ (T37.setTop (mkF m 72 #[.val (.ref a), .val (.int cc), .val (.int (1 : Int32))] []))
            refine own_by (fun _ k => XS.goto X37.here hx rfl (pc0 := 72) (pc' := 89) rfl (hb hby d4_72) (by decide) (by decide) k) ?_
            show OEnds p e below s _ _ _ (T37.setTop (mkF m 89 #[.val (.ref a), .val (.int cc), .val (.int (1 : Int32))] []))
            refine own_by (fun _ k => XS.aloadN X37.here hx rfl (hb hby d4_89) rfl rfl k) ?_
            show OEnds p e below s _ _ _ (T37.setTop (mkF m 90 #[.val (.ref a), .val (.int cc), .val (.int (1 : Int32))] [(.ref a)]))
            refine own_by (fun _ k => XS.iloadN X37.here hx rfl (hb hby d4_90) rfl k) ?_
            show OEnds p e below s _ _ _ (T37.setTop (mkF m 91 #[.val (.ref a), .val (.int cc), .val (.int (1 : Int32))] [(.int cc), (.ref a)]))
            refine own_by (fun _ k => XS.bipush X37.here hx rfl (hb hby d4_91) k) ?_
            show OEnds p e below s _ _ _ (T37.setTop (mkF m 93 #[.val (.ref a), .val (.int cc), .val (.int (1 : Int32))] [(.int (13 : Int32)), (.int cc), (.ref a)]))
            refine own_by (fun _ k => XS.icmpYes X37.here hx rfl (pc0 := 93) (pc' := 100) rfl (hb hby d4_93) rfl (feq hc29_2).2 (by decide) (by decide) k) ?_
            show OEnds p e below s _ _ _ (T37.setTop (mkF m 100 #[.val (.ref a), .val (.int cc), .val (.int (1 : Int32))] [(.ref a)]))
            refine own_by (fun _ k => XS.iconst X37.here hx rfl (hb hby d4_100) k) ?_
            show OEnds p e below s _ _ _ (T37.setTop (mkF m 101 #[.val (.ref a), .val (.int cc), .val (.int (1 : Int32))] [(.int (0 : Int32)), (.ref a)]))
            obtain ⟨T38, h38, X38, e38, W38, st38⟩ := putFN X37 hx hZ hown (hw _ (List.mem_of_getElem? (i := 22) rfl)) Via.refl e37 (O37.fld 2 rfl rfl) O37.exa (Or.inl (hw _ (List.mem_of_getElem? (i := 23) rfl))) (hw _ (List.mem_of_getElem? (i := 5) rfl)) (ty := .boolean) (v' := (.int (0 : Int32))) (by decide) rfl (by decide) (g := (mkF m 101 #[.val (.ref a), .val (.int cc), .val (.int (1 : Int32))] [(.int (0 : Int32)), (.ref a)])) rfl rfl (hb hby d4_101)
            refine own_by (st38) ?_
            have O38 : Obj Z h38 a "com/example/boughcheck/boughcheck/DoctypeScan$Lines" sch_lines [(.int xm), (.long (0 : Int64)), (.int (0 : Int32)), (.long (en + (1 : Int64)))] := O37.set (so_sch_lines hw) W38 2 rfl (Nat.le_of_ble_eq_true rfl)
            have N38 := Fr.snoc X38 N37 ga
            have Z38 : n0 ≤ h38.size := Nat.le_trans Z37 (Keep.of_wr W38).1
            have K38 : Keep h0 h38 [a] := K37.wr W38 (Or.inl (List.mem_of_getElem? (i := 0) rfl))
            show OEnds p e below s _ _ _ (T38.setTop (mkF m 104 #[.val (.ref a), .val (.int cc), .val (.int (1 : Int32))] []))
            have q_39_1 : (take_column cc xm co af) = (0 : Int64) := (by rw [take_column, if_pos hc3_1, if_neg hc29_2, if_neg hc36_11, if_neg hc43_25, if_pos hc54_34] <;> rfl)
            have q_40_2 : (take_afterCarriageReturn cc xm) = (0 : Int32) := (by rw [take_afterCarriageReturn, if_pos hc3_1, if_neg hc29_2] <;> rfl)
            have q_41_3 : (take_ends cc xm af en) = (en + (1 : Int64)) := (by rw [take_ends, if_pos hc3_1, if_neg hc29_2, if_neg hc36_11, if_neg hc43_25, if_pos hc54_34] <;> rfl)
            exact own_retV X38 hx hlk Bd.returns (hb hby d4_104) (by rw [e38]; exact ⟨rfl, N38, K38, by rw [q_39_1, q_40_2, q_41_3]; exact O38⟩) (by decide) (by decide)
          · refine own_by (fun _ k => XS.ifYes X33.here hx rfl (pc0 := 54) (pc' := 75) rfl (hb hby d4_54) rfl ((if0 _ _).trans (feq hc54_34).2) (by decide) (by decide) k) ?_
            show OEnds p e below s _ _ _ (T33.setTop (mkF m 75 #[.val (.ref a), .val (.int cc), .val (.int (1 : Int32))] []))
            refine own_by (fun _ k => XS.iloadN X33.here hx rfl (hb hby d4_75) rfl k) ?_
            show OEnds p e below s _ _ _ (T33.setTop (mkF m 76 #[.val (.ref a), .val (.int cc), .val (.int (1 : Int32))] [(.int (1 : Int32))]))
            refine own_by (fun _ k => XS.ifYes X33.here hx rfl (pc0 := 76) (pc' := 89) rfl (hb hby d4_76) rfl ((if0 _ _).trans (feq (by decide : ¬ ((1 : Int32) = (0 : Int32)))).2) (by decide) (by decide) k) ?_
            show OEnds p e below s _ _ _ (T33.setTop (mkF m 89 #[.val (.ref a), .val (.int cc), .val (.int (1 : Int32))] []))
            refine own_by (fun _ k => XS.aloadN X33.here hx rfl (hb hby d4_89) rfl rfl k) ?_
            show OEnds p e below s _ _ _ (T33.setTop (mkF m 90 #[.val (.ref a), .val (.int cc), .val (.int (1 : Int32))] [(.ref a)]))
            refine own_by (fun _ k => XS.iloadN X33.here hx rfl (hb hby d4_90) rfl k) ?_
            show OEnds p e below s _ _ _ (T33.setTop (mkF m 91 #[.val (.ref a), .val (.int cc), .val (.int (1 : Int32))] [(.int cc), (.ref a)]))
            refine own_by (fun _ k => XS.bipush X33.here hx rfl (hb hby d4_91) k) ?_
            show OEnds p e below s _ _ _ (T33.setTop (mkF m 93 #[.val (.ref a), .val (.int cc), .val (.int (1 : Int32))] [(.int (13 : Int32)), (.int cc), (.ref a)]))
            refine own_by (fun _ k => XS.icmpYes X33.here hx rfl (pc0 := 93) (pc' := 100) rfl (hb hby d4_93) rfl (feq hc29_2).2 (by decide) (by decide) k) ?_
            show OEnds p e below s _ _ _ (T33.setTop (mkF m 100 #[.val (.ref a), .val (.int cc), .val (.int (1 : Int32))] [(.ref a)]))
            refine own_by (fun _ k => XS.iconst X33.here hx rfl (hb hby d4_100) k) ?_
            show OEnds p e below s _ _ _ (T33.setTop (mkF m 101 #[.val (.ref a), .val (.int cc), .val (.int (1 : Int32))] [(.int (0 : Int32)), (.ref a)]))
            obtain ⟨T42, h42, X42, e42, W42, st42⟩ := putFN X33 hx hZ hown (hw _ (List.mem_of_getElem? (i := 22) rfl)) Via.refl e33 (O0.fld 2 rfl rfl) O0.exa (Or.inl (hw _ (List.mem_of_getElem? (i := 23) rfl))) (hw _ (List.mem_of_getElem? (i := 5) rfl)) (ty := .boolean) (v' := (.int (0 : Int32))) (by decide) rfl (by decide) (g := (mkF m 101 #[.val (.ref a), .val (.int cc), .val (.int (1 : Int32))] [(.int (0 : Int32)), (.ref a)])) rfl rfl (hb hby d4_101)
            refine own_by (st42) ?_
            have O42 : Obj Z h42 a "com/example/boughcheck/boughcheck/DoctypeScan$Lines" sch_lines [(.int xm), (.long co), (.int (0 : Int32)), (.long en)] := O0.set (so_sch_lines hw) W42 2 rfl (Nat.le_of_ble_eq_true rfl)
            have N42 := Fr.snoc X42 N0 ga
            have Z42 : n0 ≤ h42.size := Nat.le_trans Z0 (Keep.of_wr W42).1
            have K42 : Keep h0 h42 [a] := K0.wr W42 (Or.inl (List.mem_of_getElem? (i := 0) rfl))
            show OEnds p e below s _ _ _ (T42.setTop (mkF m 104 #[.val (.ref a), .val (.int cc), .val (.int (1 : Int32))] []))
            have q_43_1 : (take_column cc xm co af) = co := (by rw [take_column, if_pos hc3_1, if_neg hc29_2, if_neg hc36_11, if_neg hc43_25, if_neg hc54_34] <;> rfl)
            have q_44_2 : (take_afterCarriageReturn cc xm) = (0 : Int32) := (by rw [take_afterCarriageReturn, if_pos hc3_1, if_neg hc29_2] <;> rfl)
            have q_45_3 : (take_ends cc xm af en) = en := (by rw [take_ends, if_pos hc3_1, if_neg hc29_2, if_neg hc36_11, if_neg hc43_25, if_neg hc54_34] <;> rfl)
            exact own_retV X42 hx hlk Bd.returns (hb hby d4_104) (by rw [e42]; exact ⟨rfl, N42, K42, by rw [q_43_1, q_44_2, q_45_3]; exact O42⟩) (by decide) (by decide)
  · refine own_by (fun _ k => XS.icmpNo X0.here hx rfl (hb hby d4_3) rfl (feq hc3_1).1 k) ?_
    show OEnds p e below s _ _ _ (s₁.setTop (mkF m 6 #[.val (.ref a), .val (.int cc), .unset] []))
    refine own_by (fun _ k => XS.aloadN X0.here hx rfl (hb hby d4_6) rfl rfl k) ?_
    show OEnds p e below s _ _ _ (s₁.setTop (mkF m 7 #[.val (.ref a), .val (.int cc), .unset] [(.ref a)]))
    obtain ⟨T46, X46, e46, st46⟩ := getF X0 hx hZ hown (host := "") (Or.inl (hw _ (List.mem_of_getElem? (i := 13) rfl))) Via.refl e0 (O0.fld 0 rfl rfl) (g := (mkF m 7 #[.val (.ref a), .val (.int cc), .unset] [(.ref a)])) rfl rfl (hb hby d4_7)
    refine own_by (st46) ?_
    show OEnds p e below s _ _ _ (T46.setTop (mkF m 10 #[.val (.ref a), .val (.int cc), .unset] [(.int xm)]))
    by_cases hc10_47 : xm = (0 : Int32)
    · refine own_by (fun _ k => XS.ifYes X46.here hx rfl (pc0 := 10) (pc' := 24) rfl (hb hby d4_10) rfl ((if0 _ _).trans (teq hc10_47).1) (by decide) (by decide) k) ?_
      show OEnds p e below s _ _ _ (T46.setTop (mkF m 24 #[.val (.ref a), .val (.int cc), .unset] []))
      refine own_by (fun _ k => XS.iconst X46.here hx rfl (hb hby d4_24) k) ?_
      show OEnds p e below s _ _ _ (T46.setTop (mkF m 25 #[.val (.ref a), .val (.int cc), .unset] [(.int (0 : Int32))]))
      refine own_by (fun _ k => XS.istoreN X46.here hx rfl (hb hby d4_25) rfl (l' := #[.val (.ref a), .val (.int cc), .val (.int (0 : Int32))]) rfl k) ?_
      show OEnds p e below s _ _ _ (T46.setTop (mkF m 26 #[.val (.ref a), .val (.int cc), .val (.int (0 : Int32))] []))
      refine own_by (fun _ k => XS.iloadN X46.here hx rfl (hb hby d4_26) rfl k) ?_
      show OEnds p e below s _ _ _ (T46.setTop (mkF m 27 #[.val (.ref a), .val (.int cc), .val (.int (0 : Int32))] [(.int cc)]))
      refine own_by (fun _ k => XS.bipush X46.here hx rfl (hb hby d4_27) k) ?_
      show OEnds p e below s _ _ _ (T46.setTop (mkF m 29 #[.val (.ref a), .val (.int cc), .val (.int (0 : Int32))] [(.int (13 : Int32)), (.int cc)]))
      by_cases hc29_48 : cc = (13 : Int32)
      · refine own_by (fun _ k => XS.icmpYes X46.here hx rfl (pc0 := 29) (pc' := 57) rfl (hb hby d4_29) rfl (teq hc29_48).1 (by decide) (by decide) k) ?_
        show OEnds p e below s _ _ _ (T46.setTop (mkF m 57 #[.val (.ref a), .val (.int cc), .val (.int (0 : Int32))] []))
        refine own_by (fun _ k => XS.aloadN X46.here hx rfl (hb hby d4_57) rfl rfl k) ?_
        show OEnds p e below s _ _ _ (T46.setTop (mkF m 58 #[.val (.ref a), .val (.int cc), .val (.int (0 : Int32))] [(.ref a)]))
        refine own_by (fun _ k => XS.dup X46.here hx rfl (hb hby d4_58) rfl rfl k) ?_
        show OEnds p e below s _ _ _ (T46.setTop (mkF m 59 #[.val (.ref a), .val (.int cc), .val (.int (0 : Int32))] [(.ref a), (.ref a)]))
        obtain ⟨T49, X49, e49, st49⟩ := getF X46 hx hZ hown (host := "") (Or.inl (hw _ (List.mem_of_getElem? (i := 36) rfl))) Via.refl e46 (O0.fld 3 rfl rfl) (g := (mkF m 59 #[.val (.ref a), .val (.int cc), .val (.int (0 : Int32))] [(.ref a), (.ref a)])) rfl rfl (hb hby d4_59)
        refine own_by (st49) ?_
        show OEnds p e below s _ _ _ (T49.setTop (mkF m 62 #[.val (.ref a), .val (.int cc), .val (.int (0 : Int32))] [(.long en), (.ref a)]))
        refine own_by (fun _ k => XS.lconst X49.here hx rfl (hb hby d4_62) k) ?_
        show OEnds p e below s _ _ _ (T49.setTop (mkF m 63 #[.val (.ref a), .val (.int cc), .val (.int (0 : Int32))] [(.long (1 : Int64)), (.long en), (.ref a)]))
        refine own_by (fun _ k => XS.ladd X49.here hx rfl (hb hby d4_63) rfl k) ?_
        show OEnds p e below s _ _ _ (T49.setTop (mkF m 64 #[.val (.ref a), .val (.int cc), .val (.int (0 : Int32))] [(.long (en + (1 : Int64))), (.ref a)]))
        obtain ⟨T50, h50, X50, e50, W50, st50⟩ := putF X49 hx hZ hown (host := "") (Or.inl (hw _ (List.mem_of_getElem? (i := 36) rfl))) Via.refl e49 (O0.fld 3 rfl rfl) O0.exa (Or.inl (hw _ (List.mem_of_getElem? (i := 37) rfl))) (hw _ (List.mem_of_getElem? (i := 5) rfl)) (ty := .long) (by decide) rfl rfl (g := (mkF m 64 #[.val (.ref a), .val (.int cc), .val (.int (0 : Int32))] [(.long (en + (1 : Int64))), (.ref a)])) rfl rfl (hb hby d4_64)
        refine own_by (st50) ?_
        have O50 : Obj Z h50 a "com/example/boughcheck/boughcheck/DoctypeScan$Lines" sch_lines [(.int xm), (.long co), (.int af), (.long (en + (1 : Int64)))] := O0.set (so_sch_lines hw) W50 3 rfl (Nat.le_of_ble_eq_true rfl)
        have N50 := Fr.snoc X50 N0 ga
        have Z50 : n0 ≤ h50.size := Nat.le_trans Z0 (Keep.of_wr W50).1
        have K50 : Keep h0 h50 [a] := K0.wr W50 (Or.inl (List.mem_of_getElem? (i := 0) rfl))
        show OEnds p e below s _ _ _ (T50.setTop (mkF m 67 #[.val (.ref a), .val (.int cc), .val (.int (0 : Int32))] []))
        refine own_by (fun _ k => XS.aloadN X50.here hx rfl (hb hby d4_67) rfl rfl k) ?_
        show OEnds p e below s _ _ _ (T50.setTop (mkF m 68 #[.val (.ref a), .val (.int cc), .val (.int (0 : Int32))] [(.ref a)]))
        refine own_by (fun _ k => XS.lconst X50.here hx rfl (hb hby d4_68) k) ?_
        show OEnds p e below s _ _ _ (T50.setTop (mkF m 69 #[.val (.ref a), .val (.int cc), .val (.int (0 : Int32))] [(.long (0 : Int64)), (.ref a)]))
        obtain ⟨T51, h51, X51, e51, W51, st51⟩ := putF X50 hx hZ hown (host := "") (Or.inl (hw _ (List.mem_of_getElem? (i := 20) rfl))) Via.refl e50 (O50.fld 1 rfl rfl) O50.exa (Or.inl (hw _ (List.mem_of_getElem? (i := 21) rfl))) (hw _ (List.mem_of_getElem? (i := 5) rfl)) (ty := .long) (by decide) rfl rfl (g := (mkF m 69 #[.val (.ref a), .val (.int cc), .val (.int (0 : Int32))] [(.long (0 : Int64)), (.ref a)])) rfl rfl (hb hby d4_69)
        refine own_by (st51) ?_
        have O51 : Obj Z h51 a "com/example/boughcheck/boughcheck/DoctypeScan$Lines" sch_lines [(.int xm), (.long (0 : Int64)), (.int af), (.long (en + (1 : Int64)))] := O50.set (so_sch_lines hw) W51 1 rfl (Nat.le_of_ble_eq_true rfl)
        have N51 := Fr.snoc X51 N50 ga
        have Z51 : n0 ≤ h51.size := Nat.le_trans Z50 (Keep.of_wr W51).1
        have K51 : Keep h0 h51 [a] := K50.wr W51 (Or.inl (List.mem_of_getElem? (i := 0) rfl))
        show OEnds p e below s _ _ _ (T51.setTop (mkF m 72 #[.val (.ref a), .val (.int cc), .val (.int (0 : Int32))] []))
        refine own_by (fun _ k => XS.goto X51.here hx rfl (pc0 := 72) (pc' := 89) rfl (hb hby d4_72) (by decide) (by decide) k) ?_
        show OEnds p e below s _ _ _ (T51.setTop (mkF m 89 #[.val (.ref a), .val (.int cc), .val (.int (0 : Int32))] []))
        refine own_by (fun _ k => XS.aloadN X51.here hx rfl (hb hby d4_89) rfl rfl k) ?_
        show OEnds p e below s _ _ _ (T51.setTop (mkF m 90 #[.val (.ref a), .val (.int cc), .val (.int (0 : Int32))] [(.ref a)]))
        refine own_by (fun _ k => XS.iloadN X51.here hx rfl (hb hby d4_90) rfl k) ?_
        show OEnds p e below s _ _ _ (T51.setTop (mkF m 91 #[.val (.ref a), .val (.int cc), .val (.int (0 : Int32))] [(.int cc), (.ref a)]))
        refine own_by (fun _ k => XS.bipush X51.here hx rfl (hb hby d4_91) k) ?_
        show OEnds p e below s _ _ _ (T51.setTop (mkF m 93 #[.val (.ref a), .val (.int cc), .val (.int (0 : Int32))] [(.int (13 : Int32)), (.int cc), (.ref a)]))
        refine own_by (fun _ k => XS.icmpNo X51.here hx rfl (hb hby d4_93) rfl (teq hc29_48).2 k) ?_
        show OEnds p e below s _ _ _ (T51.setTop (mkF m 96 #[.val (.ref a), .val (.int cc), .val (.int (0 : Int32))] [(.ref a)]))
        refine own_by (fun _ k => XS.iconst X51.here hx rfl (hb hby d4_96) k) ?_
        show OEnds p e below s _ _ _ (T51.setTop (mkF m 97 #[.val (.ref a), .val (.int cc), .val (.int (0 : Int32))] [(.int (1 : Int32)), (.ref a)]))
        refine own_by (fun _ k => XS.goto X51.here hx rfl (pc0 := 97) (pc' := 101) rfl (hb hby d4_97) (by decide) (by decide) k) ?_
        show OEnds p e below s _ _ _ (T51.setTop (mkF m 101 #[.val (.ref a), .val (.int cc), .val (.int (0 : Int32))] [(.int (1 : Int32)), (.ref a)]))
        obtain ⟨T52, h52, X52, e52, W52, st52⟩ := putFN X51 hx hZ hown (hw _ (List.mem_of_getElem? (i := 22) rfl)) Via.refl e51 (O51.fld 2 rfl rfl) O51.exa (Or.inl (hw _ (List.mem_of_getElem? (i := 23) rfl))) (hw _ (List.mem_of_getElem? (i := 5) rfl)) (ty := .boolean) (v' := (.int (1 : Int32))) (by decide) rfl (by decide) (g := (mkF m 101 #[.val (.ref a), .val (.int cc), .val (.int (0 : Int32))] [(.int (1 : Int32)), (.ref a)])) rfl rfl (hb hby d4_101)
        refine own_by (st52) ?_
        have O52 : Obj Z h52 a "com/example/boughcheck/boughcheck/DoctypeScan$Lines" sch_lines [(.int xm), (.long (0 : Int64)), (.int (1 : Int32)), (.long (en + (1 : Int64)))] := O51.set (so_sch_lines hw) W52 2 rfl (Nat.le_of_ble_eq_true rfl)
        have N52 := Fr.snoc X52 N51 ga
        have Z52 : n0 ≤ h52.size := Nat.le_trans Z51 (Keep.of_wr W52).1
        have K52 : Keep h0 h52 [a] := K51.wr W52 (Or.inl (List.mem_of_getElem? (i := 0) rfl))
        show OEnds p e below s _ _ _ (T52.setTop (mkF m 104 #[.val (.ref a), .val (.int cc), .val (.int (0 : Int32))] []))
        have q_53_1 : (take_column cc xm co af) = (0 : Int64) := (by rw [take_column, if_neg hc3_1, if_pos hc10_47, if_pos hc29_48] <;> rfl)
        have q_54_2 : (take_afterCarriageReturn cc xm) = (1 : Int32) := (by rw [take_afterCarriageReturn, if_neg hc3_1, if_pos hc10_47, if_pos hc29_48] <;> rfl)
        have q_55_3 : (take_ends cc xm af en) = (en + (1 : Int64)) := (by rw [take_ends, if_neg hc3_1, if_pos hc10_47, if_pos hc29_48] <;> rfl)
        exact own_retV X52 hx hlk Bd.returns (hb hby d4_104) (by rw [e52]; exact ⟨rfl, N52, K52, by rw [q_53_1, q_54_2, q_55_3]; exact O52⟩) (by decide) (by decide)
      · refine own_by (fun _ k => XS.icmpNo X46.here hx rfl (hb hby d4_29) rfl (feq hc29_48).1 k) ?_
        show OEnds p e below s _ _ _ (T46.setTop (mkF m 32 #[.val (.ref a), .val (.int cc), .val (.int (0 : Int32))] []))
        refine own_by (fun _ k => XS.aloadN X46.here hx rfl (hb hby d4_32) rfl rfl k) ?_
        show OEnds p e below s _ _ _ (T46.setTop (mkF m 33 #[.val (.ref a), .val (.int cc), .val (.int (0 : Int32))] [(.ref a)]))
        obtain ⟨T56, X56, e56, st56⟩ := getF X46 hx hZ hown (host := "") (Or.inl (hw _ (List.mem_of_getElem? (i := 13) rfl))) Via.refl e46 (O0.fld 0 rfl rfl) (g := (mkF m 33 #[.val (.ref a), .val (.int cc), .val (.int (0 : Int32))] [(.ref a)])) rfl rfl (hb hby d4_33)
        refine own_by (st56) ?_
        show OEnds p e below s _ _ _ (T56.setTop (mkF m 36 #[.val (.ref a), .val (.int cc), .val (.int (0 : Int32))] [(.int xm)]))
        refine own_by (fun _ k => XS.ifYes X56.here hx rfl (pc0 := 36) (pc' := 46) rfl (hb hby d4_36) rfl ((if0 _ _).trans (teq hc10_47).1) (by decide) (by decide) k) ?_
        show OEnds p e below s _ _ _ (T56.setTop (mkF m 46 #[.val (.ref a), .val (.int cc), .val (.int (0 : Int32))] []))
        refine own_by (fun _ k => XS.iloadN X56.here hx rfl (hb hby d4_46) rfl k) ?_
        show OEnds p e below s _ _ _ (T56.setTop (mkF m 47 #[.val (.ref a), .val (.int cc), .val (.int (0 : Int32))] [(.int (0 : Int32))]))
        refine own_by (fun _ k => XS.ifYes X56.here hx rfl (pc0 := 47) (pc' := 75) rfl (hb hby d4_47) rfl ((if0 _ _).trans (teq (by decide : (0 : Int32) = (0 : Int32))).1) (by decide) (by decide) k) ?_
        show OEnds p e below s _ _ _ (T56.setTop (mkF m 75 #[.val (.ref a), .val (.int cc), .val (.int (0 : Int32))] []))
        refine own_by (fun _ k => XS.iloadN X56.here hx rfl (hb hby d4_75) rfl k) ?_
        show OEnds p e below s _ _ _ (T56.setTop (mkF m 76 #[.val (.ref a), .val (.int cc), .val (.int (0 : Int32))] [(.int (0 : Int32))]))
        refine own_by (fun _ k => XS.ifNo X56.here hx rfl (hb hby d4_76) rfl ((if0 _ _).trans (teq (by decide : (0 : Int32) = (0 : Int32))).2) k) ?_
        show OEnds p e below s _ _ _ (T56.setTop (mkF m 79 #[.val (.ref a), .val (.int cc), .val (.int (0 : Int32))] []))
        refine own_by (fun _ k => XS.aloadN X56.here hx rfl (hb hby d4_79) rfl rfl k) ?_
        show OEnds p e below s _ _ _ (T56.setTop (mkF m 80 #[.val (.ref a), .val (.int cc), .val (.int (0 : Int32))] [(.ref a)]))
        refine own_by (fun _ k => XS.dup X56.here hx rfl (hb hby d4_80) rfl rfl k) ?_
        show OEnds p e below s _ _ _ (T56.setTop (mkF m 81 #[.val (.ref a), .val (.int cc), .val (.int (0 : Int32))] [(.ref a), (.ref a)]))
        obtain ⟨T57, X57, e57, st57⟩ := getF X56 hx hZ hown (host := "") (Or.inl (hw _ (List.mem_of_getElem? (i := 20) rfl))) Via.refl e56 (O0.fld 1 rfl rfl) (g := (mkF m 81 #[.val (.ref a), .val (.int cc), .val (.int (0 : Int32))] [(.ref a), (.ref a)])) rfl rfl (hb hby d4_81)
        refine own_by (st57) ?_
        show OEnds p e below s _ _ _ (T57.setTop (mkF m 84 #[.val (.ref a), .val (.int cc), .val (.int (0 : Int32))] [(.long co), (.ref a)]))
        refine own_by (fun _ k => XS.lconst X57.here hx rfl (hb hby d4_84) k) ?_
        show OEnds p e below s _ _ _ (T57.setTop (mkF m 85 #[.val (.ref a), .val (.int cc), .val (.int (0 : Int32))] [(.long (1 : Int64)), (.long co), (.ref a)]))
        refine own_by (fun _ k => XS.ladd X57.here hx rfl (hb hby d4_85) rfl k) ?_
        show OEnds p e below s _ _ _ (T57.setTop (mkF m 86 #[.val (.ref a), .val (.int cc), .val (.int (0 : Int32))] [(.long (co + (1 : Int64))), (.ref a)]))
        obtain ⟨T58, h58, X58, e58, W58, st58⟩ := putF X57 hx hZ hown (host := "") (Or.inl (hw _ (List.mem_of_getElem? (i := 20) rfl))) Via.refl e57 (O0.fld 1 rfl rfl) O0.exa (Or.inl (hw _ (List.mem_of_getElem? (i := 21) rfl))) (hw _ (List.mem_of_getElem? (i := 5) rfl)) (ty := .long) (by decide) rfl rfl (g := (mkF m 86 #[.val (.ref a), .val (.int cc), .val (.int (0 : Int32))] [(.long (co + (1 : Int64))), (.ref a)])) rfl rfl (hb hby d4_86)
        refine own_by (st58) ?_
        have O58 : Obj Z h58 a "com/example/boughcheck/boughcheck/DoctypeScan$Lines" sch_lines [(.int xm), (.long (co + (1 : Int64))), (.int af), (.long en)] := O0.set (so_sch_lines hw) W58 1 rfl (Nat.le_of_ble_eq_true rfl)
        have N58 := Fr.snoc X58 N0 ga
        have Z58 : n0 ≤ h58.size := Nat.le_trans Z0 (Keep.of_wr W58).1
        have K58 : Keep h0 h58 [a] := K0.wr W58 (Or.inl (List.mem_of_getElem? (i := 0) rfl))
        show OEnds p e below s _ _ _ (T58.setTop (mkF m 89 #[.val (.ref a), .val (.int cc), .val (.int (0 : Int32))] []))
        refine own_by (fun _ k => XS.aloadN X58.here hx rfl (hb hby d4_89) rfl rfl k) ?_
        show OEnds p e below s _ _ _ (T58.setTop (mkF m 90 #[.val (.ref a), .val (.int cc), .val (.int (0 : Int32))] [(.ref a)]))
        refine own_by (fun _ k => XS.iloadN X58.here hx rfl (hb hby d4_90) rfl k) ?_
        show OEnds p e below s _ _ _ (T58.setTop (mkF m 91 #[.val (.ref a), .val (.int cc), .val (.int (0 : Int32))] [(.int cc), (.ref a)]))
        refine own_by (fun _ k => XS.bipush X58.here hx rfl (hb hby d4_91) k) ?_
        show OEnds p e below s _ _ _ (T58.setTop (mkF m 93 #[.val (.ref a), .val (.int cc), .val (.int (0 : Int32))] [(.int (13 : Int32)), (.int cc), (.ref a)]))
        refine own_by (fun _ k => XS.icmpYes X58.here hx rfl (pc0 := 93) (pc' := 100) rfl (hb hby d4_93) rfl (feq hc29_48).2 (by decide) (by decide) k) ?_
        show OEnds p e below s _ _ _ (T58.setTop (mkF m 100 #[.val (.ref a), .val (.int cc), .val (.int (0 : Int32))] [(.ref a)]))
        refine own_by (fun _ k => XS.iconst X58.here hx rfl (hb hby d4_100) k) ?_
        show OEnds p e below s _ _ _ (T58.setTop (mkF m 101 #[.val (.ref a), .val (.int cc), .val (.int (0 : Int32))] [(.int (0 : Int32)), (.ref a)]))
        obtain ⟨T59, h59, X59, e59, W59, st59⟩ := putFN X58 hx hZ hown (hw _ (List.mem_of_getElem? (i := 22) rfl)) Via.refl e58 (O58.fld 2 rfl rfl) O58.exa (Or.inl (hw _ (List.mem_of_getElem? (i := 23) rfl))) (hw _ (List.mem_of_getElem? (i := 5) rfl)) (ty := .boolean) (v' := (.int (0 : Int32))) (by decide) rfl (by decide) (g := (mkF m 101 #[.val (.ref a), .val (.int cc), .val (.int (0 : Int32))] [(.int (0 : Int32)), (.ref a)])) rfl rfl (hb hby d4_101)
        refine own_by (st59) ?_
        have O59 : Obj Z h59 a "com/example/boughcheck/boughcheck/DoctypeScan$Lines" sch_lines [(.int xm), (.long (co + (1 : Int64))), (.int (0 : Int32)), (.long en)] := O58.set (so_sch_lines hw) W59 2 rfl (Nat.le_of_ble_eq_true rfl)
        have N59 := Fr.snoc X59 N58 ga
        have Z59 : n0 ≤ h59.size := Nat.le_trans Z58 (Keep.of_wr W59).1
        have K59 : Keep h0 h59 [a] := K58.wr W59 (Or.inl (List.mem_of_getElem? (i := 0) rfl))
        show OEnds p e below s _ _ _ (T59.setTop (mkF m 104 #[.val (.ref a), .val (.int cc), .val (.int (0 : Int32))] []))
        have q_60_1 : (take_column cc xm co af) = (co + (1 : Int64)) := (by rw [take_column, if_neg hc3_1, if_pos hc10_47, if_neg hc29_48] <;> rfl)
        have q_61_2 : (take_afterCarriageReturn cc xm) = (0 : Int32) := (by rw [take_afterCarriageReturn, if_neg hc3_1, if_pos hc10_47, if_neg hc29_48] <;> rfl)
        have q_62_3 : (take_ends cc xm af en) = en := (by rw [take_ends, if_neg hc3_1, if_pos hc10_47, if_neg hc29_48] <;> rfl)
        exact own_retV X59 hx hlk Bd.returns (hb hby d4_104) (by rw [e59]; exact ⟨rfl, N59, K59, by rw [q_60_1, q_61_2, q_62_3]; exact O59⟩) (by decide) (by decide)
    · refine own_by (fun _ k => XS.ifNo X46.here hx rfl (hb hby d4_10) rfl ((if0 _ _).trans (feq hc10_47).1) k) ?_
      show OEnds p e below s _ _ _ (T46.setTop (mkF m 13 #[.val (.ref a), .val (.int cc), .unset] []))
      refine own_by (fun _ k => XS.iloadN X46.here hx rfl (hb hby d4_13) rfl k) ?_
      show OEnds p e below s _ _ _ (T46.setTop (mkF m 14 #[.val (.ref a), .val (.int cc), .unset] [(.int cc)]))
      refine own_by (fun _ k => XS.sipush X46.here hx rfl (hb hby d4_14) k) ?_
      show OEnds p e below s _ _ _ (T46.setTop (mkF m 17 #[.val (.ref a), .val (.int cc), .unset] [(.int (133 : Int32)), (.int cc)]))
      by_cases hc17_63 : cc = (133 : Int32)
      · refine own_by (fun _ k => XS.icmpNo X46.here hx rfl (hb hby d4_17) rfl (teq hc17_63).2 k) ?_
        show OEnds p e below s _ _ _ (T46.setTop (mkF m 20 #[.val (.ref a), .val (.int cc), .unset] []))
        refine own_by (fun _ k => XS.iconst X46.here hx rfl (hb hby d4_20) k) ?_
        show OEnds p e below s _ _ _ (T46.setTop (mkF m 21 #[.val (.ref a), .val (.int cc), .unset] [(.int (1 : Int32))]))
        refine own_by (fun _ k => XS.goto X46.here hx rfl (pc0 := 21) (pc' := 25) rfl (hb hby d4_21) (by decide) (by decide) k) ?_
        show OEnds p e below s _ _ _ (T46.setTop (mkF m 25 #[.val (.ref a), .val (.int cc), .unset] [(.int (1 : Int32))]))
        refine own_by (fun _ k => XS.istoreN X46.here hx rfl (hb hby d4_25) rfl (l' := #[.val (.ref a), .val (.int cc), .val (.int (1 : Int32))]) rfl k) ?_
        show OEnds p e below s _ _ _ (T46.setTop (mkF m 26 #[.val (.ref a), .val (.int cc), .val (.int (1 : Int32))] []))
        refine own_by (fun _ k => XS.iloadN X46.here hx rfl (hb hby d4_26) rfl k) ?_
        show OEnds p e below s _ _ _ (T46.setTop (mkF m 27 #[.val (.ref a), .val (.int cc), .val (.int (1 : Int32))] [(.int cc)]))
        refine own_by (fun _ k => XS.bipush X46.here hx rfl (hb hby d4_27) k) ?_
        show OEnds p e below s _ _ _ (T46.setTop (mkF m 29 #[.val (.ref a), .val (.int cc), .val (.int (1 : Int32))] [(.int (13 : Int32)), (.int cc)]))
        by_cases hc29_64 : cc = (13 : Int32)
        · refine own_by (fun _ k => XS.icmpYes X46.here hx rfl (pc0 := 29) (pc' := 57) rfl (hb hby d4_29) rfl (teq hc29_64).1 (by decide) (by decide) k) ?_
          show OEnds p e below s _ _ _ (T46.setTop (mkF m 57 #[.val (.ref a), .val (.int cc), .val (.int (1 : Int32))] []))
          refine own_by (fun _ k => XS.aloadN X46.here hx rfl (hb hby d4_57) rfl rfl k) ?_
          show OEnds p e below s _ _ _ (T46.setTop (mkF m 58 #[.val (.ref a), .val (.int cc), .val (.int (1 : Int32))] [(.ref a)]))
          refine own_by (fun _ k => XS.dup X46.here hx rfl (hb hby d4_58) rfl rfl k) ?_
          show OEnds p e below s _ _ _ (T46.setTop (mkF m 59 #[.val (.ref a), .val (.int cc), .val (.int (1 : Int32))] [(.ref a), (.ref a)]))
          obtain ⟨T65, X65, e65, st65⟩ := getF X46 hx hZ hown (host := "") (Or.inl (hw _ (List.mem_of_getElem? (i := 36) rfl))) Via.refl e46 (O0.fld 3 rfl rfl) (g := (mkF m 59 #[.val (.ref a), .val (.int cc), .val (.int (1 : Int32))] [(.ref a), (.ref a)])) rfl rfl (hb hby d4_59)
          refine own_by (st65) ?_
          show OEnds p e below s _ _ _ (T65.setTop (mkF m 62 #[.val (.ref a), .val (.int cc), .val (.int (1 : Int32))] [(.long en), (.ref a)]))
          refine own_by (fun _ k => XS.lconst X65.here hx rfl (hb hby d4_62) k) ?_
          show OEnds p e below s _ _ _ (T65.setTop (mkF m 63 #[.val (.ref a), .val (.int cc), .val (.int (1 : Int32))] [(.long (1 : Int64)), (.long en), (.ref a)]))
          refine own_by (fun _ k => XS.ladd X65.here hx rfl (hb hby d4_63) rfl k) ?_
          show OEnds p e below s _ _ _ (T65.setTop (mkF m 64 #[.val (.ref a), .val (.int cc), .val (.int (1 : Int32))] [(.long (en + (1 : Int64))), (.ref a)]))
          obtain ⟨T66, h66, X66, e66, W66, st66⟩ := putF X65 hx hZ hown (host := "") (Or.inl (hw _ (List.mem_of_getElem? (i := 36) rfl))) Via.refl e65 (O0.fld 3 rfl rfl) O0.exa (Or.inl (hw _ (List.mem_of_getElem? (i := 37) rfl))) (hw _ (List.mem_of_getElem? (i := 5) rfl)) (ty := .long) (by decide) rfl rfl (g := (mkF m 64 #[.val (.ref a), .val (.int cc), .val (.int (1 : Int32))] [(.long (en + (1 : Int64))), (.ref a)])) rfl rfl (hb hby d4_64)
          refine own_by (st66) ?_
          have O66 : Obj Z h66 a "com/example/boughcheck/boughcheck/DoctypeScan$Lines" sch_lines [(.int xm), (.long co), (.int af), (.long (en + (1 : Int64)))] := O0.set (so_sch_lines hw) W66 3 rfl (Nat.le_of_ble_eq_true rfl)
          have N66 := Fr.snoc X66 N0 ga
          have Z66 : n0 ≤ h66.size := Nat.le_trans Z0 (Keep.of_wr W66).1
          have K66 : Keep h0 h66 [a] := K0.wr W66 (Or.inl (List.mem_of_getElem? (i := 0) rfl))
          show OEnds p e below s _ _ _ (T66.setTop (mkF m 67 #[.val (.ref a), .val (.int cc), .val (.int (1 : Int32))] []))
          refine own_by (fun _ k => XS.aloadN X66.here hx rfl (hb hby d4_67) rfl rfl k) ?_
          show OEnds p e below s _ _ _ (T66.setTop (mkF m 68 #[.val (.ref a), .val (.int cc), .val (.int (1 : Int32))] [(.ref a)]))
          refine own_by (fun _ k => XS.lconst X66.here hx rfl (hb hby d4_68) k) ?_
          show OEnds p e below s _ _ _ (T66.setTop (mkF m 69 #[.val (.ref a), .val (.int cc), .val (.int (1 : Int32))] [(.long (0 : Int64)), (.ref a)]))
          obtain ⟨T67, h67, X67, e67, W67, st67⟩ := putF X66 hx hZ hown (host := "") (Or.inl (hw _ (List.mem_of_getElem? (i := 20) rfl))) Via.refl e66 (O66.fld 1 rfl rfl) O66.exa (Or.inl (hw _ (List.mem_of_getElem? (i := 21) rfl))) (hw _ (List.mem_of_getElem? (i := 5) rfl)) (ty := .long) (by decide) rfl rfl (g := (mkF m 69 #[.val (.ref a), .val (.int cc), .val (.int (1 : Int32))] [(.long (0 : Int64)), (.ref a)])) rfl rfl (hb hby d4_69)
          refine own_by (st67) ?_
          have O67 : Obj Z h67 a "com/example/boughcheck/boughcheck/DoctypeScan$Lines" sch_lines [(.int xm), (.long (0 : Int64)), (.int af), (.long (en + (1 : Int64)))] := O66.set (so_sch_lines hw) W67 1 rfl (Nat.le_of_ble_eq_true rfl)
          have N67 := Fr.snoc X67 N66 ga
          have Z67 : n0 ≤ h67.size := Nat.le_trans Z66 (Keep.of_wr W67).1
          have K67 : Keep h0 h67 [a] := K66.wr W67 (Or.inl (List.mem_of_getElem? (i := 0) rfl))
          show OEnds p e below s _ _ _ (T67.setTop (mkF m 72 #[.val (.ref a), .val (.int cc), .val (.int (1 : Int32))] []))
          refine own_by (fun _ k => XS.goto X67.here hx rfl (pc0 := 72) (pc' := 89) rfl (hb hby d4_72) (by decide) (by decide) k) ?_
          show OEnds p e below s _ _ _ (T67.setTop (mkF m 89 #[.val (.ref a), .val (.int cc), .val (.int (1 : Int32))] []))
          refine own_by (fun _ k => XS.aloadN X67.here hx rfl (hb hby d4_89) rfl rfl k) ?_
          show OEnds p e below s _ _ _ (T67.setTop (mkF m 90 #[.val (.ref a), .val (.int cc), .val (.int (1 : Int32))] [(.ref a)]))
          refine own_by (fun _ k => XS.iloadN X67.here hx rfl (hb hby d4_90) rfl k) ?_
          show OEnds p e below s _ _ _ (T67.setTop (mkF m 91 #[.val (.ref a), .val (.int cc), .val (.int (1 : Int32))] [(.int cc), (.ref a)]))
          refine own_by (fun _ k => XS.bipush X67.here hx rfl (hb hby d4_91) k) ?_
          show OEnds p e below s _ _ _ (T67.setTop (mkF m 93 #[.val (.ref a), .val (.int cc), .val (.int (1 : Int32))] [(.int (13 : Int32)), (.int cc), (.ref a)]))
          refine own_by (fun _ k => XS.icmpNo X67.here hx rfl (hb hby d4_93) rfl (teq hc29_64).2 k) ?_
          show OEnds p e below s _ _ _ (T67.setTop (mkF m 96 #[.val (.ref a), .val (.int cc), .val (.int (1 : Int32))] [(.ref a)]))
          refine own_by (fun _ k => XS.iconst X67.here hx rfl (hb hby d4_96) k) ?_
          show OEnds p e below s _ _ _ (T67.setTop (mkF m 97 #[.val (.ref a), .val (.int cc), .val (.int (1 : Int32))] [(.int (1 : Int32)), (.ref a)]))
          refine own_by (fun _ k => XS.goto X67.here hx rfl (pc0 := 97) (pc' := 101) rfl (hb hby d4_97) (by decide) (by decide) k) ?_
          show OEnds p e below s _ _ _ (T67.setTop (mkF m 101 #[.val (.ref a), .val (.int cc), .val (.int (1 : Int32))] [(.int (1 : Int32)), (.ref a)]))
          obtain ⟨T68, h68, X68, e68, W68, st68⟩ := putFN X67 hx hZ hown (hw _ (List.mem_of_getElem? (i := 22) rfl)) Via.refl e67 (O67.fld 2 rfl rfl) O67.exa (Or.inl (hw _ (List.mem_of_getElem? (i := 23) rfl))) (hw _ (List.mem_of_getElem? (i := 5) rfl)) (ty := .boolean) (v' := (.int (1 : Int32))) (by decide) rfl (by decide) (g := (mkF m 101 #[.val (.ref a), .val (.int cc), .val (.int (1 : Int32))] [(.int (1 : Int32)), (.ref a)])) rfl rfl (hb hby d4_101)
          refine own_by (st68) ?_
          have O68 : Obj Z h68 a "com/example/boughcheck/boughcheck/DoctypeScan$Lines" sch_lines [(.int xm), (.long (0 : Int64)), (.int (1 : Int32)), (.long (en + (1 : Int64)))] := O67.set (so_sch_lines hw) W68 2 rfl (Nat.le_of_ble_eq_true rfl)
          have N68 := Fr.snoc X68 N67 ga
          have Z68 : n0 ≤ h68.size := Nat.le_trans Z67 (Keep.of_wr W68).1
          have K68 : Keep h0 h68 [a] := K67.wr W68 (Or.inl (List.mem_of_getElem? (i := 0) rfl))
          show OEnds p e below s _ _ _ (T68.setTop (mkF m 104 #[.val (.ref a), .val (.int cc), .val (.int (1 : Int32))] []))
          have q_69_1 : (take_column cc xm co af) = (0 : Int64) := (by rw [take_column, if_neg hc3_1, if_neg hc10_47, if_pos hc17_63, if_pos hc29_64] <;> rfl)
          have q_70_2 : (take_afterCarriageReturn cc xm) = (1 : Int32) := (by rw [take_afterCarriageReturn, if_neg hc3_1, if_neg hc10_47, if_pos hc17_63, if_pos hc29_64] <;> rfl)
          have q_71_3 : (take_ends cc xm af en) = (en + (1 : Int64)) := (by rw [take_ends, if_neg hc3_1, if_neg hc10_47, if_pos hc17_63, if_pos hc29_64] <;> rfl)
          exact own_retV X68 hx hlk Bd.returns (hb hby d4_104) (by rw [e68]; exact ⟨rfl, N68, K68, by rw [q_69_1, q_70_2, q_71_3]; exact O68⟩) (by decide) (by decide)
        · refine own_by (fun _ k => XS.icmpNo X46.here hx rfl (hb hby d4_29) rfl (feq hc29_64).1 k) ?_
          show OEnds p e below s _ _ _ (T46.setTop (mkF m 32 #[.val (.ref a), .val (.int cc), .val (.int (1 : Int32))] []))
          refine own_by (fun _ k => XS.aloadN X46.here hx rfl (hb hby d4_32) rfl rfl k) ?_
          show OEnds p e below s _ _ _ (T46.setTop (mkF m 33 #[.val (.ref a), .val (.int cc), .val (.int (1 : Int32))] [(.ref a)]))
          obtain ⟨T72, X72, e72, st72⟩ := getF X46 hx hZ hown (host := "") (Or.inl (hw _ (List.mem_of_getElem? (i := 13) rfl))) Via.refl e46 (O0.fld 0 rfl rfl) (g := (mkF m 33 #[.val (.ref a), .val (.int cc), .val (.int (1 : Int32))] [(.ref a)])) rfl rfl (hb hby d4_33)
          refine own_by (st72) ?_
          show OEnds p e below s _ _ _ (T72.setTop (mkF m 36 #[.val (.ref a), .val (.int cc), .val (.int (1 : Int32))] [(.int xm)]))
          refine own_by (fun _ k => XS.ifNo X72.here hx rfl (hb hby d4_36) rfl ((if0 _ _).trans (feq hc10_47).1) k) ?_
          show OEnds p e below s _ _ _ (T72.setTop (mkF m 39 #[.val (.ref a), .val (.int cc), .val (.int (1 : Int32))] []))
          refine own_by (fun _ k => XS.iloadN X72.here hx rfl (hb hby d4_39) rfl k) ?_
          show OEnds p e below s _ _ _ (T72.setTop (mkF m 40 #[.val (.ref a), .val (.int cc), .val (.int (1 : Int32))] [(.int cc)]))
          refine own_by (fun _ k => XS.sipush X72.here hx rfl (hb hby d4_40) k) ?_
          show OEnds p e below s _ _ _ (T72.setTop (mkF m 43 #[.val (.ref a), .val (.int cc), .val (.int (1 : Int32))] [(.int (8232 : Int32)), (.int cc)]))
          by_cases hc43_73 : cc = (8232 : Int32)
          · refine own_by (fun _ k => XS.icmpYes X72.here hx rfl (pc0 := 43) (pc' := 57) rfl (hb hby d4_43) rfl (teq hc43_73).1 (by decide) (by decide) k) ?_
            show OEnds p e below s _ _ _ (T72.setTop (mkF m 57 #[.val (.ref a), .val (.int cc), .val (.int (1 : Int32))] []))
            refine own_by (fun _ k => XS.aloadN X72.here hx rfl (hb hby d4_57) rfl rfl k) ?_
            show OEnds p e below s _ _ _ (T72.setTop (mkF m 58 #[.val (.ref a), .val (.int cc), .val (.int (1 : Int32))] [(.ref a)]))
            refine own_by (fun _ k => XS.dup X72.here hx rfl (hb hby d4_58) rfl rfl k) ?_
            show OEnds p e below s _ _ _ (T72.setTop (mkF m 59 #[.val (.ref a), .val (.int cc), .val (.int (1 : Int32))] [(.ref a), (.ref a)]))
            obtain ⟨T74, X74, e74, st74⟩ := getF X72 hx hZ hown (host := "") (Or.inl (hw _ (List.mem_of_getElem? (i := 36) rfl))) Via.refl e72 (O0.fld 3 rfl rfl) (g := (mkF m 59 #[.val (.ref a), .val (.int cc), .val (.int (1 : Int32))] [(.ref a), (.ref a)])) rfl rfl (hb hby d4_59)
            refine own_by (st74) ?_
            show OEnds p e below s _ _ _ (T74.setTop (mkF m 62 #[.val (.ref a), .val (.int cc), .val (.int (1 : Int32))] [(.long en), (.ref a)]))
            refine own_by (fun _ k => XS.lconst X74.here hx rfl (hb hby d4_62) k) ?_
            show OEnds p e below s _ _ _ (T74.setTop (mkF m 63 #[.val (.ref a), .val (.int cc), .val (.int (1 : Int32))] [(.long (1 : Int64)), (.long en), (.ref a)]))
            refine own_by (fun _ k => XS.ladd X74.here hx rfl (hb hby d4_63) rfl k) ?_
            show OEnds p e below s _ _ _ (T74.setTop (mkF m 64 #[.val (.ref a), .val (.int cc), .val (.int (1 : Int32))] [(.long (en + (1 : Int64))), (.ref a)]))
            obtain ⟨T75, h75, X75, e75, W75, st75⟩ := putF X74 hx hZ hown (host := "") (Or.inl (hw _ (List.mem_of_getElem? (i := 36) rfl))) Via.refl e74 (O0.fld 3 rfl rfl) O0.exa (Or.inl (hw _ (List.mem_of_getElem? (i := 37) rfl))) (hw _ (List.mem_of_getElem? (i := 5) rfl)) (ty := .long) (by decide) rfl rfl (g := (mkF m 64 #[.val (.ref a), .val (.int cc), .val (.int (1 : Int32))] [(.long (en + (1 : Int64))), (.ref a)])) rfl rfl (hb hby d4_64)
            refine own_by (st75) ?_
            have O75 : Obj Z h75 a "com/example/boughcheck/boughcheck/DoctypeScan$Lines" sch_lines [(.int xm), (.long co), (.int af), (.long (en + (1 : Int64)))] := O0.set (so_sch_lines hw) W75 3 rfl (Nat.le_of_ble_eq_true rfl)
            have N75 := Fr.snoc X75 N0 ga
            have Z75 : n0 ≤ h75.size := Nat.le_trans Z0 (Keep.of_wr W75).1
            have K75 : Keep h0 h75 [a] := K0.wr W75 (Or.inl (List.mem_of_getElem? (i := 0) rfl))
            show OEnds p e below s _ _ _ (T75.setTop (mkF m 67 #[.val (.ref a), .val (.int cc), .val (.int (1 : Int32))] []))
            refine own_by (fun _ k => XS.aloadN X75.here hx rfl (hb hby d4_67) rfl rfl k) ?_
            show OEnds p e below s _ _ _ (T75.setTop (mkF m 68 #[.val (.ref a), .val (.int cc), .val (.int (1 : Int32))] [(.ref a)]))
            refine own_by (fun _ k => XS.lconst X75.here hx rfl (hb hby d4_68) k) ?_
            show OEnds p e below s _ _ _ (T75.setTop (mkF m 69 #[.val (.ref a), .val (.int cc), .val (.int (1 : Int32))] [(.long (0 : Int64)), (.ref a)]))
            obtain ⟨T76, h76, X76, e76, W76, st76⟩ := putF X75 hx hZ hown (host := "") (Or.inl (hw _ (List.mem_of_getElem? (i := 20) rfl))) Via.refl e75 (O75.fld 1 rfl rfl) O75.exa (Or.inl (hw _ (List.mem_of_getElem? (i := 21) rfl))) (hw _ (List.mem_of_getElem? (i := 5) rfl)) (ty := .long) (by decide) rfl rfl (g := (mkF m 69 #[.val (.ref a), .val (.int cc), .val (.int (1 : Int32))] [(.long (0 : Int64)), (.ref a)])) rfl rfl (hb hby d4_69)
            refine own_by (st76) ?_
            have O76 : Obj Z h76 a "com/example/boughcheck/boughcheck/DoctypeScan$Lines" sch_lines [(.int xm), (.long (0 : Int64)), (.int af), (.long (en + (1 : Int64)))] := O75.set (so_sch_lines hw) W76 1 rfl (Nat.le_of_ble_eq_true rfl)
            have N76 := Fr.snoc X76 N75 ga
            have Z76 : n0 ≤ h76.size := Nat.le_trans Z75 (Keep.of_wr W76).1
            have K76 : Keep h0 h76 [a] := K75.wr W76 (Or.inl (List.mem_of_getElem? (i := 0) rfl))
            show OEnds p e below s _ _ _ (T76.setTop (mkF m 72 #[.val (.ref a), .val (.int cc), .val (.int (1 : Int32))] []))
            refine own_by (fun _ k => XS.goto X76.here hx rfl (pc0 := 72) (pc' := 89) rfl (hb hby d4_72) (by decide) (by decide) k) ?_
            show OEnds p e below s _ _ _ (T76.setTop (mkF m 89 #[.val (.ref a), .val (.int cc), .val (.int (1 : Int32))] []))
            refine own_by (fun _ k => XS.aloadN X76.here hx rfl (hb hby d4_89) rfl rfl k) ?_
            show OEnds p e below s _ _ _ (T76.setTop (mkF m 90 #[.val (.ref a), .val (.int cc), .val (.int (1 : Int32))] [(.ref a)]))
            refine own_by (fun _ k => XS.iloadN X76.here hx rfl (hb hby d4_90) rfl k) ?_
            show OEnds p e below s _ _ _ (T76.setTop (mkF m 91 #[.val (.ref a), .val (.int cc), .val (.int (1 : Int32))] [(.int cc), (.ref a)]))
            refine own_by (fun _ k => XS.bipush X76.here hx rfl (hb hby d4_91) k) ?_
            show OEnds p e below s _ _ _ (T76.setTop (mkF m 93 #[.val (.ref a), .val (.int cc), .val (.int (1 : Int32))] [(.int (13 : Int32)), (.int cc), (.ref a)]))
            refine own_by (fun _ k => XS.icmpYes X76.here hx rfl (pc0 := 93) (pc' := 100) rfl (hb hby d4_93) rfl (feq hc29_64).2 (by decide) (by decide) k) ?_
            show OEnds p e below s _ _ _ (T76.setTop (mkF m 100 #[.val (.ref a), .val (.int cc), .val (.int (1 : Int32))] [(.ref a)]))
            refine own_by (fun _ k => XS.iconst X76.here hx rfl (hb hby d4_100) k) ?_
            show OEnds p e below s _ _ _ (T76.setTop (mkF m 101 #[.val (.ref a), .val (.int cc), .val (.int (1 : Int32))] [(.int (0 : Int32)), (.ref a)]))
            obtain ⟨T77, h77, X77, e77, W77, st77⟩ := putFN X76 hx hZ hown (hw _ (List.mem_of_getElem? (i := 22) rfl)) Via.refl e76 (O76.fld 2 rfl rfl) O76.exa (Or.inl (hw _ (List.mem_of_getElem? (i := 23) rfl))) (hw _ (List.mem_of_getElem? (i := 5) rfl)) (ty := .boolean) (v' := (.int (0 : Int32))) (by decide) rfl (by decide) (g := (mkF m 101 #[.val (.ref a), .val (.int cc), .val (.int (1 : Int32))] [(.int (0 : Int32)), (.ref a)])) rfl rfl (hb hby d4_101)
            refine own_by (st77) ?_
            have O77 : Obj Z h77 a "com/example/boughcheck/boughcheck/DoctypeScan$Lines" sch_lines [(.int xm), (.long (0 : Int64)), (.int (0 : Int32)), (.long (en + (1 : Int64)))] := O76.set (so_sch_lines hw) W77 2 rfl (Nat.le_of_ble_eq_true rfl)
            have N77 := Fr.snoc X77 N76 ga
            have Z77 : n0 ≤ h77.size := Nat.le_trans Z76 (Keep.of_wr W77).1
            have K77 : Keep h0 h77 [a] := K76.wr W77 (Or.inl (List.mem_of_getElem? (i := 0) rfl))
            show OEnds p e below s _ _ _ (T77.setTop (mkF m 104 #[.val (.ref a), .val (.int cc), .val (.int (1 : Int32))] []))
            have q_78_1 : (take_column cc xm co af) = (0 : Int64) := (by rw [take_column, if_neg hc3_1, if_neg hc10_47, if_pos hc17_63, if_neg hc29_64, if_pos hc43_73] <;> rfl)
            have q_79_2 : (take_afterCarriageReturn cc xm) = (0 : Int32) := (by rw [take_afterCarriageReturn, if_neg hc3_1, if_neg hc10_47, if_pos hc17_63, if_neg hc29_64] <;> rfl)
            have q_80_3 : (take_ends cc xm af en) = (en + (1 : Int64)) := (by rw [take_ends, if_neg hc3_1, if_neg hc10_47, if_pos hc17_63, if_neg hc29_64, if_pos hc43_73] <;> rfl)
            exact own_retV X77 hx hlk Bd.returns (hb hby d4_104) (by rw [e77]; exact ⟨rfl, N77, K77, by rw [q_78_1, q_79_2, q_80_3]; exact O77⟩) (by decide) (by decide)
          · refine own_by (fun _ k => XS.icmpNo X72.here hx rfl (hb hby d4_43) rfl (feq hc43_73).1 k) ?_
            show OEnds p e below s _ _ _ (T72.setTop (mkF m 46 #[.val (.ref a), .val (.int cc), .val (.int (1 : Int32))] []))
            refine own_by (fun _ k => XS.iloadN X72.here hx rfl (hb hby d4_46) rfl k) ?_
            show OEnds p e below s _ _ _ (T72.setTop (mkF m 47 #[.val (.ref a), .val (.int cc), .val (.int (1 : Int32))] [(.int (1 : Int32))]))
            refine own_by (fun _ k => XS.ifNo X72.here hx rfl (hb hby d4_47) rfl ((if0 _ _).trans (feq (by decide : ¬ ((1 : Int32) = (0 : Int32)))).1) k) ?_
            show OEnds p e below s _ _ _ (T72.setTop (mkF m 50 #[.val (.ref a), .val (.int cc), .val (.int (1 : Int32))] []))
            refine own_by (fun _ k => XS.aloadN X72.here hx rfl (hb hby d4_50) rfl rfl k) ?_
            show OEnds p e below s _ _ _ (T72.setTop (mkF m 51 #[.val (.ref a), .val (.int cc), .val (.int (1 : Int32))] [(.ref a)]))
            obtain ⟨T81, X81, e81, st81⟩ := getF X72 hx hZ hown (host := "") (Or.inl (hw _ (List.mem_of_getElem? (i := 22) rfl))) Via.refl e72 (O0.fld 2 rfl rfl) (g := (mkF m 51 #[.val (.ref a), .val (.int cc), .val (.int (1 : Int32))] [(.ref a)])) rfl rfl (hb hby d4_51)
            refine own_by (st81) ?_
            show OEnds p e below s _ _ _ (T81.setTop (mkF m 54 #[.val (.ref a), .val (.int cc), .val (.int (1 : Int32))] [(.int af)]))
            by_cases hc54_82 : af = (0 : Int32)
            · refine own_by (fun _ k => XS.ifNo X81.here hx rfl (hb hby d4_54) rfl ((if0 _ _).trans (teq hc54_82).2) k) ?_
              show OEnds p e below s _ _ _ (T81.setTop (mkF m 57 #[.val (.ref a), .val (.int cc), .val (.int (1 : Int32))] []))
              refine own_by (fun _ k => XS.aloadN X81.here hx rfl (hb hby d4_57) rfl rfl k) ?_
              show OEnds p e below s _ _ _ (T81.setTop (mkF m 58 #[.val (.ref a), .val (.int cc), .val (.int (1 : Int32))] [(.ref a)]))
              refine own_by (fun _ k => XS.dup X81.here hx rfl (hb hby d4_58) rfl rfl k) ?_
              show OEnds p e below s _ _ _ (T81.setTop (mkF m 59 #[.val (.ref a), .val (.int cc), .val (.int (1 : Int32))] [(.ref a), (.ref a)]))
              obtain ⟨T83, X83, e83, st83⟩ := getF X81 hx hZ hown (host := "") (Or.inl (hw _ (List.mem_of_getElem? (i := 36) rfl))) Via.refl e81 (O0.fld 3 rfl rfl) (g := (mkF m 59 #[.val (.ref a), .val (.int cc), .val (.int (1 : Int32))] [(.ref a), (.ref a)])) rfl rfl (hb hby d4_59)
              refine own_by (st83) ?_
              show OEnds p e below s _ _ _ (T83.setTop (mkF m 62 #[.val (.ref a), .val (.int cc), .val (.int (1 : Int32))] [(.long en), (.ref a)]))
              refine own_by (fun _ k => XS.lconst X83.here hx rfl (hb hby d4_62) k) ?_
              show OEnds p e below s _ _ _ (T83.setTop (mkF m 63 #[.val (.ref a), .val (.int cc), .val (.int (1 : Int32))] [(.long (1 : Int64)), (.long en), (.ref a)]))
              refine own_by (fun _ k => XS.ladd X83.here hx rfl (hb hby d4_63) rfl k) ?_
              show OEnds p e below s _ _ _ (T83.setTop (mkF m 64 #[.val (.ref a), .val (.int cc), .val (.int (1 : Int32))] [(.long (en + (1 : Int64))), (.ref a)]))
              obtain ⟨T84, h84, X84, e84, W84, st84⟩ := putF X83 hx hZ hown (host := "") (Or.inl (hw _ (List.mem_of_getElem? (i := 36) rfl))) Via.refl e83 (O0.fld 3 rfl rfl) O0.exa (Or.inl (hw _ (List.mem_of_getElem? (i := 37) rfl))) (hw _ (List.mem_of_getElem? (i := 5) rfl)) (ty := .long) (by decide) rfl rfl (g := (mkF m 64 #[.val (.ref a), .val (.int cc), .val (.int (1 : Int32))] [(.long (en + (1 : Int64))), (.ref a)])) rfl rfl (hb hby d4_64)
              refine own_by (st84) ?_
              have O84 : Obj Z h84 a "com/example/boughcheck/boughcheck/DoctypeScan$Lines" sch_lines [(.int xm), (.long co), (.int af), (.long (en + (1 : Int64)))] := O0.set (so_sch_lines hw) W84 3 rfl (Nat.le_of_ble_eq_true rfl)
              have N84 := Fr.snoc X84 N0 ga
              have Z84 : n0 ≤ h84.size := Nat.le_trans Z0 (Keep.of_wr W84).1
              have K84 : Keep h0 h84 [a] := K0.wr W84 (Or.inl (List.mem_of_getElem? (i := 0) rfl))
              show OEnds p e below s _ _ _ (T84.setTop (mkF m 67 #[.val (.ref a), .val (.int cc), .val (.int (1 : Int32))] []))
              refine own_by (fun _ k => XS.aloadN X84.here hx rfl (hb hby d4_67) rfl rfl k) ?_
              show OEnds p e below s _ _ _ (T84.setTop (mkF m 68 #[.val (.ref a), .val (.int cc), .val (.int (1 : Int32))] [(.ref a)]))
              refine own_by (fun _ k => XS.lconst X84.here hx rfl (hb hby d4_68) k) ?_
              show OEnds p e below s _ _ _ (T84.setTop (mkF m 69 #[.val (.ref a), .val (.int cc), .val (.int (1 : Int32))] [(.long (0 : Int64)), (.ref a)]))
              obtain ⟨T85, h85, X85, e85, W85, st85⟩ := putF X84 hx hZ hown (host := "") (Or.inl (hw _ (List.mem_of_getElem? (i := 20) rfl))) Via.refl e84 (O84.fld 1 rfl rfl) O84.exa (Or.inl (hw _ (List.mem_of_getElem? (i := 21) rfl))) (hw _ (List.mem_of_getElem? (i := 5) rfl)) (ty := .long) (by decide) rfl rfl (g := (mkF m 69 #[.val (.ref a), .val (.int cc), .val (.int (1 : Int32))] [(.long (0 : Int64)), (.ref a)])) rfl rfl (hb hby d4_69)
              refine own_by (st85) ?_
              have O85 : Obj Z h85 a "com/example/boughcheck/boughcheck/DoctypeScan$Lines" sch_lines [(.int xm), (.long (0 : Int64)), (.int af), (.long (en + (1 : Int64)))] := O84.set (so_sch_lines hw) W85 1 rfl (Nat.le_of_ble_eq_true rfl)
              have N85 := Fr.snoc X85 N84 ga
              have Z85 : n0 ≤ h85.size := Nat.le_trans Z84 (Keep.of_wr W85).1
              have K85 : Keep h0 h85 [a] := K84.wr W85 (Or.inl (List.mem_of_getElem? (i := 0) rfl))
              show OEnds p e below s _ _ _ (T85.setTop (mkF m 72 #[.val (.ref a), .val (.int cc), .val (.int (1 : Int32))] []))
              refine own_by (fun _ k => XS.goto X85.here hx rfl (pc0 := 72) (pc' := 89) rfl (hb hby d4_72) (by decide) (by decide) k) ?_
              show OEnds p e below s _ _ _ (T85.setTop (mkF m 89 #[.val (.ref a), .val (.int cc), .val (.int (1 : Int32))] []))
              refine own_by (fun _ k => XS.aloadN X85.here hx rfl (hb hby d4_89) rfl rfl k) ?_
              show OEnds p e below s _ _ _ (T85.setTop (mkF m 90 #[.val (.ref a), .val (.int cc), .val (.int (1 : Int32))] [(.ref a)]))
              refine own_by (fun _ k => XS.iloadN X85.here hx rfl (hb hby d4_90) rfl k) ?_
              show OEnds p e below s _ _ _ (T85.setTop (mkF m 91 #[.val (.ref a), .val (.int cc), .val (.int (1 : Int32))] [(.int cc), (.ref a)]))
              refine own_by (fun _ k => XS.bipush X85.here hx rfl (hb hby d4_91) k) ?_
              show OEnds p e below s _ _ _ (T85.setTop (mkF m 93 #[.val (.ref a), .val (.int cc), .val (.int (1 : Int32))] [(.int (13 : Int32)), (.int cc), (.ref a)]))
              refine own_by (fun _ k => XS.icmpYes X85.here hx rfl (pc0 := 93) (pc' := 100) rfl (hb hby d4_93) rfl (feq hc29_64).2 (by decide) (by decide) k) ?_
              show OEnds p e below s _ _ _ (T85.setTop (mkF m 100 #[.val (.ref a), .val (.int cc), .val (.int (1 : Int32))] [(.ref a)]))
              refine own_by (fun _ k => XS.iconst X85.here hx rfl (hb hby d4_100) k) ?_
              show OEnds p e below s _ _ _ (T85.setTop (mkF m 101 #[.val (.ref a), .val (.int cc), .val (.int (1 : Int32))] [(.int (0 : Int32)), (.ref a)]))
              obtain ⟨T86, h86, X86, e86, W86, st86⟩ := putFN X85 hx hZ hown (hw _ (List.mem_of_getElem? (i := 22) rfl)) Via.refl e85 (O85.fld 2 rfl rfl) O85.exa (Or.inl (hw _ (List.mem_of_getElem? (i := 23) rfl))) (hw _ (List.mem_of_getElem? (i := 5) rfl)) (ty := .boolean) (v' := (.int (0 : Int32))) (by decide) rfl (by decide) (g := (mkF m 101 #[.val (.ref a), .val (.int cc), .val (.int (1 : Int32))] [(.int (0 : Int32)), (.ref a)])) rfl rfl (hb hby d4_101)
              refine own_by (st86) ?_
              have O86 : Obj Z h86 a "com/example/boughcheck/boughcheck/DoctypeScan$Lines" sch_lines [(.int xm), (.long (0 : Int64)), (.int (0 : Int32)), (.long (en + (1 : Int64)))] := O85.set (so_sch_lines hw) W86 2 rfl (Nat.le_of_ble_eq_true rfl)
              have N86 := Fr.snoc X86 N85 ga
              have Z86 : n0 ≤ h86.size := Nat.le_trans Z85 (Keep.of_wr W86).1
              have K86 : Keep h0 h86 [a] := K85.wr W86 (Or.inl (List.mem_of_getElem? (i := 0) rfl))
              show OEnds p e below s _ _ _ (T86.setTop (mkF m 104 #[.val (.ref a), .val (.int cc), .val (.int (1 : Int32))] []))
              have q_87_1 : (take_column cc xm co af) = (0 : Int64) := (by rw [take_column, if_neg hc3_1, if_neg hc10_47, if_pos hc17_63, if_neg hc29_64, if_neg hc43_73, if_pos hc54_82] <;> rfl)
              have q_88_2 : (take_afterCarriageReturn cc xm) = (0 : Int32) := (by rw [take_afterCarriageReturn, if_neg hc3_1, if_neg hc10_47, if_pos hc17_63, if_neg hc29_64] <;> rfl)
              have q_89_3 : (take_ends cc xm af en) = (en + (1 : Int64)) := (by rw [take_ends, if_neg hc3_1, if_neg hc10_47, if_pos hc17_63, if_neg hc29_64, if_neg hc43_73, if_pos hc54_82] <;> rfl)
              exact own_retV X86 hx hlk Bd.returns (hb hby d4_104) (by rw [e86]; exact ⟨rfl, N86, K86, by rw [q_87_1, q_88_2, q_89_3]; exact O86⟩) (by decide) (by decide)
            · refine own_by (fun _ k => XS.ifYes X81.here hx rfl (pc0 := 54) (pc' := 75) rfl (hb hby d4_54) rfl ((if0 _ _).trans (feq hc54_82).2) (by decide) (by decide) k) ?_
              show OEnds p e below s _ _ _ (T81.setTop (mkF m 75 #[.val (.ref a), .val (.int cc), .val (.int (1 : Int32))] []))
              refine own_by (fun _ k => XS.iloadN X81.here hx rfl (hb hby d4_75) rfl k) ?_
              show OEnds p e below s _ _ _ (T81.setTop (mkF m 76 #[.val (.ref a), .val (.int cc), .val (.int (1 : Int32))] [(.int (1 : Int32))]))
              refine own_by (fun _ k => XS.ifYes X81.here hx rfl (pc0 := 76) (pc' := 89) rfl (hb hby d4_76) rfl ((if0 _ _).trans (feq (by decide : ¬ ((1 : Int32) = (0 : Int32)))).2) (by decide) (by decide) k) ?_
              show OEnds p e below s _ _ _ (T81.setTop (mkF m 89 #[.val (.ref a), .val (.int cc), .val (.int (1 : Int32))] []))
              refine own_by (fun _ k => XS.aloadN X81.here hx rfl (hb hby d4_89) rfl rfl k) ?_
              show OEnds p e below s _ _ _ (T81.setTop (mkF m 90 #[.val (.ref a), .val (.int cc), .val (.int (1 : Int32))] [(.ref a)]))
              refine own_by (fun _ k => XS.iloadN X81.here hx rfl (hb hby d4_90) rfl k) ?_
              show OEnds p e below s _ _ _ (T81.setTop (mkF m 91 #[.val (.ref a), .val (.int cc), .val (.int (1 : Int32))] [(.int cc), (.ref a)]))
              refine own_by (fun _ k => XS.bipush X81.here hx rfl (hb hby d4_91) k) ?_
              show OEnds p e below s _ _ _ (T81.setTop (mkF m 93 #[.val (.ref a), .val (.int cc), .val (.int (1 : Int32))] [(.int (13 : Int32)), (.int cc), (.ref a)]))
              refine own_by (fun _ k => XS.icmpYes X81.here hx rfl (pc0 := 93) (pc' := 100) rfl (hb hby d4_93) rfl (feq hc29_64).2 (by decide) (by decide) k) ?_
              show OEnds p e below s _ _ _ (T81.setTop (mkF m 100 #[.val (.ref a), .val (.int cc), .val (.int (1 : Int32))] [(.ref a)]))
              refine own_by (fun _ k => XS.iconst X81.here hx rfl (hb hby d4_100) k) ?_
              show OEnds p e below s _ _ _ (T81.setTop (mkF m 101 #[.val (.ref a), .val (.int cc), .val (.int (1 : Int32))] [(.int (0 : Int32)), (.ref a)]))
              obtain ⟨T90, h90, X90, e90, W90, st90⟩ := putFN X81 hx hZ hown (hw _ (List.mem_of_getElem? (i := 22) rfl)) Via.refl e81 (O0.fld 2 rfl rfl) O0.exa (Or.inl (hw _ (List.mem_of_getElem? (i := 23) rfl))) (hw _ (List.mem_of_getElem? (i := 5) rfl)) (ty := .boolean) (v' := (.int (0 : Int32))) (by decide) rfl (by decide) (g := (mkF m 101 #[.val (.ref a), .val (.int cc), .val (.int (1 : Int32))] [(.int (0 : Int32)), (.ref a)])) rfl rfl (hb hby d4_101)
              refine own_by (st90) ?_
              have O90 : Obj Z h90 a "com/example/boughcheck/boughcheck/DoctypeScan$Lines" sch_lines [(.int xm), (.long co), (.int (0 : Int32)), (.long en)] := O0.set (so_sch_lines hw) W90 2 rfl (Nat.le_of_ble_eq_true rfl)
              have N90 := Fr.snoc X90 N0 ga
              have Z90 : n0 ≤ h90.size := Nat.le_trans Z0 (Keep.of_wr W90).1
              have K90 : Keep h0 h90 [a] := K0.wr W90 (Or.inl (List.mem_of_getElem? (i := 0) rfl))
              show OEnds p e below s _ _ _ (T90.setTop (mkF m 104 #[.val (.ref a), .val (.int cc), .val (.int (1 : Int32))] []))
              have q_91_1 : (take_column cc xm co af) = co := (by rw [take_column, if_neg hc3_1, if_neg hc10_47, if_pos hc17_63, if_neg hc29_64, if_neg hc43_73, if_neg hc54_82] <;> rfl)
              have q_92_2 : (take_afterCarriageReturn cc xm) = (0 : Int32) := (by rw [take_afterCarriageReturn, if_neg hc3_1, if_neg hc10_47, if_pos hc17_63, if_neg hc29_64] <;> rfl)
              have q_93_3 : (take_ends cc xm af en) = en := (by rw [take_ends, if_neg hc3_1, if_neg hc10_47, if_pos hc17_63, if_neg hc29_64, if_neg hc43_73, if_neg hc54_82] <;> rfl)
              exact own_retV X90 hx hlk Bd.returns (hb hby d4_104) (by rw [e90]; exact ⟨rfl, N90, K90, by rw [q_91_1, q_92_2, q_93_3]; exact O90⟩) (by decide) (by decide)
      · refine own_by (fun _ k => XS.icmpYes X46.here hx rfl (pc0 := 17) (pc' := 24) rfl (hb hby d4_17) rfl (feq hc17_63).2 (by decide) (by decide) k) ?_
        show OEnds p e below s _ _ _ (T46.setTop (mkF m 24 #[.val (.ref a), .val (.int cc), .unset] []))
        refine own_by (fun _ k => XS.iconst X46.here hx rfl (hb hby d4_24) k) ?_
        show OEnds p e below s _ _ _ (T46.setTop (mkF m 25 #[.val (.ref a), .val (.int cc), .unset] [(.int (0 : Int32))]))
        refine own_by (fun _ k => XS.istoreN X46.here hx rfl (hb hby d4_25) rfl (l' := #[.val (.ref a), .val (.int cc), .val (.int (0 : Int32))]) rfl k) ?_
        show OEnds p e below s _ _ _ (T46.setTop (mkF m 26 #[.val (.ref a), .val (.int cc), .val (.int (0 : Int32))] []))
        refine own_by (fun _ k => XS.iloadN X46.here hx rfl (hb hby d4_26) rfl k) ?_
        show OEnds p e below s _ _ _ (T46.setTop (mkF m 27 #[.val (.ref a), .val (.int cc), .val (.int (0 : Int32))] [(.int cc)]))
        refine own_by (fun _ k => XS.bipush X46.here hx rfl (hb hby d4_27) k) ?_
        show OEnds p e below s _ _ _ (T46.setTop (mkF m 29 #[.val (.ref a), .val (.int cc), .val (.int (0 : Int32))] [(.int (13 : Int32)), (.int cc)]))
        by_cases hc29_94 : cc = (13 : Int32)
        · refine own_by (fun _ k => XS.icmpYes X46.here hx rfl (pc0 := 29) (pc' := 57) rfl (hb hby d4_29) rfl (teq hc29_94).1 (by decide) (by decide) k) ?_
          show OEnds p e below s _ _ _ (T46.setTop (mkF m 57 #[.val (.ref a), .val (.int cc), .val (.int (0 : Int32))] []))
          refine own_by (fun _ k => XS.aloadN X46.here hx rfl (hb hby d4_57) rfl rfl k) ?_
          show OEnds p e below s _ _ _ (T46.setTop (mkF m 58 #[.val (.ref a), .val (.int cc), .val (.int (0 : Int32))] [(.ref a)]))
          refine own_by (fun _ k => XS.dup X46.here hx rfl (hb hby d4_58) rfl rfl k) ?_
          show OEnds p e below s _ _ _ (T46.setTop (mkF m 59 #[.val (.ref a), .val (.int cc), .val (.int (0 : Int32))] [(.ref a), (.ref a)]))
          obtain ⟨T95, X95, e95, st95⟩ := getF X46 hx hZ hown (host := "") (Or.inl (hw _ (List.mem_of_getElem? (i := 36) rfl))) Via.refl e46 (O0.fld 3 rfl rfl) (g := (mkF m 59 #[.val (.ref a), .val (.int cc), .val (.int (0 : Int32))] [(.ref a), (.ref a)])) rfl rfl (hb hby d4_59)
          refine own_by (st95) ?_
          show OEnds p e below s _ _ _ (T95.setTop (mkF m 62 #[.val (.ref a), .val (.int cc), .val (.int (0 : Int32))] [(.long en), (.ref a)]))
          refine own_by (fun _ k => XS.lconst X95.here hx rfl (hb hby d4_62) k) ?_
          show OEnds p e below s _ _ _ (T95.setTop (mkF m 63 #[.val (.ref a), .val (.int cc), .val (.int (0 : Int32))] [(.long (1 : Int64)), (.long en), (.ref a)]))
          refine own_by (fun _ k => XS.ladd X95.here hx rfl (hb hby d4_63) rfl k) ?_
          show OEnds p e below s _ _ _ (T95.setTop (mkF m 64 #[.val (.ref a), .val (.int cc), .val (.int (0 : Int32))] [(.long (en + (1 : Int64))), (.ref a)]))
          obtain ⟨T96, h96, X96, e96, W96, st96⟩ := putF X95 hx hZ hown (host := "") (Or.inl (hw _ (List.mem_of_getElem? (i := 36) rfl))) Via.refl e95 (O0.fld 3 rfl rfl) O0.exa (Or.inl (hw _ (List.mem_of_getElem? (i := 37) rfl))) (hw _ (List.mem_of_getElem? (i := 5) rfl)) (ty := .long) (by decide) rfl rfl (g := (mkF m 64 #[.val (.ref a), .val (.int cc), .val (.int (0 : Int32))] [(.long (en + (1 : Int64))), (.ref a)])) rfl rfl (hb hby d4_64)
          refine own_by (st96) ?_
          have O96 : Obj Z h96 a "com/example/boughcheck/boughcheck/DoctypeScan$Lines" sch_lines [(.int xm), (.long co), (.int af), (.long (en + (1 : Int64)))] := O0.set (so_sch_lines hw) W96 3 rfl (Nat.le_of_ble_eq_true rfl)
          have N96 := Fr.snoc X96 N0 ga
          have Z96 : n0 ≤ h96.size := Nat.le_trans Z0 (Keep.of_wr W96).1
          have K96 : Keep h0 h96 [a] := K0.wr W96 (Or.inl (List.mem_of_getElem? (i := 0) rfl))
          show OEnds p e below s _ _ _ (T96.setTop (mkF m 67 #[.val (.ref a), .val (.int cc), .val (.int (0 : Int32))] []))
          refine own_by (fun _ k => XS.aloadN X96.here hx rfl (hb hby d4_67) rfl rfl k) ?_
          show OEnds p e below s _ _ _ (T96.setTop (mkF m 68 #[.val (.ref a), .val (.int cc), .val (.int (0 : Int32))] [(.ref a)]))
          refine own_by (fun _ k => XS.lconst X96.here hx rfl (hb hby d4_68) k) ?_
          show OEnds p e below s _ _ _ (T96.setTop (mkF m 69 #[.val (.ref a), .val (.int cc), .val (.int (0 : Int32))] [(.long (0 : Int64)), (.ref a)]))
          obtain ⟨T97, h97, X97, e97, W97, st97⟩ := putF X96 hx hZ hown (host := "") (Or.inl (hw _ (List.mem_of_getElem? (i := 20) rfl))) Via.refl e96 (O96.fld 1 rfl rfl) O96.exa (Or.inl (hw _ (List.mem_of_getElem? (i := 21) rfl))) (hw _ (List.mem_of_getElem? (i := 5) rfl)) (ty := .long) (by decide) rfl rfl (g := (mkF m 69 #[.val (.ref a), .val (.int cc), .val (.int (0 : Int32))] [(.long (0 : Int64)), (.ref a)])) rfl rfl (hb hby d4_69)
          refine own_by (st97) ?_
          have O97 : Obj Z h97 a "com/example/boughcheck/boughcheck/DoctypeScan$Lines" sch_lines [(.int xm), (.long (0 : Int64)), (.int af), (.long (en + (1 : Int64)))] := O96.set (so_sch_lines hw) W97 1 rfl (Nat.le_of_ble_eq_true rfl)
          have N97 := Fr.snoc X97 N96 ga
          have Z97 : n0 ≤ h97.size := Nat.le_trans Z96 (Keep.of_wr W97).1
          have K97 : Keep h0 h97 [a] := K96.wr W97 (Or.inl (List.mem_of_getElem? (i := 0) rfl))
          show OEnds p e below s _ _ _ (T97.setTop (mkF m 72 #[.val (.ref a), .val (.int cc), .val (.int (0 : Int32))] []))
          refine own_by (fun _ k => XS.goto X97.here hx rfl (pc0 := 72) (pc' := 89) rfl (hb hby d4_72) (by decide) (by decide) k) ?_
          show OEnds p e below s _ _ _ (T97.setTop (mkF m 89 #[.val (.ref a), .val (.int cc), .val (.int (0 : Int32))] []))
          refine own_by (fun _ k => XS.aloadN X97.here hx rfl (hb hby d4_89) rfl rfl k) ?_
          show OEnds p e below s _ _ _ (T97.setTop (mkF m 90 #[.val (.ref a), .val (.int cc), .val (.int (0 : Int32))] [(.ref a)]))
          refine own_by (fun _ k => XS.iloadN X97.here hx rfl (hb hby d4_90) rfl k) ?_
          show OEnds p e below s _ _ _ (T97.setTop (mkF m 91 #[.val (.ref a), .val (.int cc), .val (.int (0 : Int32))] [(.int cc), (.ref a)]))
          refine own_by (fun _ k => XS.bipush X97.here hx rfl (hb hby d4_91) k) ?_
          show OEnds p e below s _ _ _ (T97.setTop (mkF m 93 #[.val (.ref a), .val (.int cc), .val (.int (0 : Int32))] [(.int (13 : Int32)), (.int cc), (.ref a)]))
          refine own_by (fun _ k => XS.icmpNo X97.here hx rfl (hb hby d4_93) rfl (teq hc29_94).2 k) ?_
          show OEnds p e below s _ _ _ (T97.setTop (mkF m 96 #[.val (.ref a), .val (.int cc), .val (.int (0 : Int32))] [(.ref a)]))
          refine own_by (fun _ k => XS.iconst X97.here hx rfl (hb hby d4_96) k) ?_
          show OEnds p e below s _ _ _ (T97.setTop (mkF m 97 #[.val (.ref a), .val (.int cc), .val (.int (0 : Int32))] [(.int (1 : Int32)), (.ref a)]))
          refine own_by (fun _ k => XS.goto X97.here hx rfl (pc0 := 97) (pc' := 101) rfl (hb hby d4_97) (by decide) (by decide) k) ?_
          show OEnds p e below s _ _ _ (T97.setTop (mkF m 101 #[.val (.ref a), .val (.int cc), .val (.int (0 : Int32))] [(.int (1 : Int32)), (.ref a)]))
          obtain ⟨T98, h98, X98, e98, W98, st98⟩ := putFN X97 hx hZ hown (hw _ (List.mem_of_getElem? (i := 22) rfl)) Via.refl e97 (O97.fld 2 rfl rfl) O97.exa (Or.inl (hw _ (List.mem_of_getElem? (i := 23) rfl))) (hw _ (List.mem_of_getElem? (i := 5) rfl)) (ty := .boolean) (v' := (.int (1 : Int32))) (by decide) rfl (by decide) (g := (mkF m 101 #[.val (.ref a), .val (.int cc), .val (.int (0 : Int32))] [(.int (1 : Int32)), (.ref a)])) rfl rfl (hb hby d4_101)
          refine own_by (st98) ?_
          have O98 : Obj Z h98 a "com/example/boughcheck/boughcheck/DoctypeScan$Lines" sch_lines [(.int xm), (.long (0 : Int64)), (.int (1 : Int32)), (.long (en + (1 : Int64)))] := O97.set (so_sch_lines hw) W98 2 rfl (Nat.le_of_ble_eq_true rfl)
          have N98 := Fr.snoc X98 N97 ga
          have Z98 : n0 ≤ h98.size := Nat.le_trans Z97 (Keep.of_wr W98).1
          have K98 : Keep h0 h98 [a] := K97.wr W98 (Or.inl (List.mem_of_getElem? (i := 0) rfl))
          show OEnds p e below s _ _ _ (T98.setTop (mkF m 104 #[.val (.ref a), .val (.int cc), .val (.int (0 : Int32))] []))
          have q_99_1 : (take_column cc xm co af) = (0 : Int64) := (by rw [take_column, if_neg hc3_1, if_neg hc10_47, if_neg hc17_63, if_pos hc29_94] <;> rfl)
          have q_100_2 : (take_afterCarriageReturn cc xm) = (1 : Int32) := (by rw [take_afterCarriageReturn, if_neg hc3_1, if_neg hc10_47, if_neg hc17_63, if_pos hc29_94] <;> rfl)
          have q_101_3 : (take_ends cc xm af en) = (en + (1 : Int64)) := (by rw [take_ends, if_neg hc3_1, if_neg hc10_47, if_neg hc17_63, if_pos hc29_94] <;> rfl)
          exact own_retV X98 hx hlk Bd.returns (hb hby d4_104) (by rw [e98]; exact ⟨rfl, N98, K98, by rw [q_99_1, q_100_2, q_101_3]; exact O98⟩) (by decide) (by decide)
        · refine own_by (fun _ k => XS.icmpNo X46.here hx rfl (hb hby d4_29) rfl (feq hc29_94).1 k) ?_
          show OEnds p e below s _ _ _ (T46.setTop (mkF m 32 #[.val (.ref a), .val (.int cc), .val (.int (0 : Int32))] []))
          refine own_by (fun _ k => XS.aloadN X46.here hx rfl (hb hby d4_32) rfl rfl k) ?_
          show OEnds p e below s _ _ _ (T46.setTop (mkF m 33 #[.val (.ref a), .val (.int cc), .val (.int (0 : Int32))] [(.ref a)]))
          obtain ⟨T102, X102, e102, st102⟩ := getF X46 hx hZ hown (host := "") (Or.inl (hw _ (List.mem_of_getElem? (i := 13) rfl))) Via.refl e46 (O0.fld 0 rfl rfl) (g := (mkF m 33 #[.val (.ref a), .val (.int cc), .val (.int (0 : Int32))] [(.ref a)])) rfl rfl (hb hby d4_33)
          refine own_by (st102) ?_
          show OEnds p e below s _ _ _ (T102.setTop (mkF m 36 #[.val (.ref a), .val (.int cc), .val (.int (0 : Int32))] [(.int xm)]))
          refine own_by (fun _ k => XS.ifNo X102.here hx rfl (hb hby d4_36) rfl ((if0 _ _).trans (feq hc10_47).1) k) ?_
          show OEnds p e below s _ _ _ (T102.setTop (mkF m 39 #[.val (.ref a), .val (.int cc), .val (.int (0 : Int32))] []))
          refine own_by (fun _ k => XS.iloadN X102.here hx rfl (hb hby d4_39) rfl k) ?_
          show OEnds p e below s _ _ _ (T102.setTop (mkF m 40 #[.val (.ref a), .val (.int cc), .val (.int (0 : Int32))] [(.int cc)]))
          refine own_by (fun _ k => XS.sipush X102.here hx rfl (hb hby d4_40) k) ?_
          show OEnds p e below s _ _ _ (T102.setTop (mkF m 43 #[.val (.ref a), .val (.int cc), .val (.int (0 : Int32))] [(.int (8232 : Int32)), (.int cc)]))
          by_cases hc43_103 : cc = (8232 : Int32)
          · refine own_by (fun _ k => XS.icmpYes X102.here hx rfl (pc0 := 43) (pc' := 57) rfl (hb hby d4_43) rfl (teq hc43_103).1 (by decide) (by decide) k) ?_
            show OEnds p e below s _ _ _ (T102.setTop (mkF m 57 #[.val (.ref a), .val (.int cc), .val (.int (0 : Int32))] []))
            refine own_by (fun _ k => XS.aloadN X102.here hx rfl (hb hby d4_57) rfl rfl k) ?_
            show OEnds p e below s _ _ _ (T102.setTop (mkF m 58 #[.val (.ref a), .val (.int cc), .val (.int (0 : Int32))] [(.ref a)]))
            refine own_by (fun _ k => XS.dup X102.here hx rfl (hb hby d4_58) rfl rfl k) ?_
            show OEnds p e below s _ _ _ (T102.setTop (mkF m 59 #[.val (.ref a), .val (.int cc), .val (.int (0 : Int32))] [(.ref a), (.ref a)]))
            obtain ⟨T104, X104, e104, st104⟩ := getF X102 hx hZ hown (host := "") (Or.inl (hw _ (List.mem_of_getElem? (i := 36) rfl))) Via.refl e102 (O0.fld 3 rfl rfl) (g := (mkF m 59 #[.val (.ref a), .val (.int cc), .val (.int (0 : Int32))] [(.ref a), (.ref a)])) rfl rfl (hb hby d4_59)
            refine own_by (st104) ?_
            show OEnds p e below s _ _ _ (T104.setTop (mkF m 62 #[.val (.ref a), .val (.int cc), .val (.int (0 : Int32))] [(.long en), (.ref a)]))
            refine own_by (fun _ k => XS.lconst X104.here hx rfl (hb hby d4_62) k) ?_
            show OEnds p e below s _ _ _ (T104.setTop (mkF m 63 #[.val (.ref a), .val (.int cc), .val (.int (0 : Int32))] [(.long (1 : Int64)), (.long en), (.ref a)]))
            refine own_by (fun _ k => XS.ladd X104.here hx rfl (hb hby d4_63) rfl k) ?_
            show OEnds p e below s _ _ _ (T104.setTop (mkF m 64 #[.val (.ref a), .val (.int cc), .val (.int (0 : Int32))] [(.long (en + (1 : Int64))), (.ref a)]))
            obtain ⟨T105, h105, X105, e105, W105, st105⟩ := putF X104 hx hZ hown (host := "") (Or.inl (hw _ (List.mem_of_getElem? (i := 36) rfl))) Via.refl e104 (O0.fld 3 rfl rfl) O0.exa (Or.inl (hw _ (List.mem_of_getElem? (i := 37) rfl))) (hw _ (List.mem_of_getElem? (i := 5) rfl)) (ty := .long) (by decide) rfl rfl (g := (mkF m 64 #[.val (.ref a), .val (.int cc), .val (.int (0 : Int32))] [(.long (en + (1 : Int64))), (.ref a)])) rfl rfl (hb hby d4_64)
            refine own_by (st105) ?_
            have O105 : Obj Z h105 a "com/example/boughcheck/boughcheck/DoctypeScan$Lines" sch_lines [(.int xm), (.long co), (.int af), (.long (en + (1 : Int64)))] := O0.set (so_sch_lines hw) W105 3 rfl (Nat.le_of_ble_eq_true rfl)
            have N105 := Fr.snoc X105 N0 ga
            have Z105 : n0 ≤ h105.size := Nat.le_trans Z0 (Keep.of_wr W105).1
            have K105 : Keep h0 h105 [a] := K0.wr W105 (Or.inl (List.mem_of_getElem? (i := 0) rfl))
            show OEnds p e below s _ _ _ (T105.setTop (mkF m 67 #[.val (.ref a), .val (.int cc), .val (.int (0 : Int32))] []))
            refine own_by (fun _ k => XS.aloadN X105.here hx rfl (hb hby d4_67) rfl rfl k) ?_
            show OEnds p e below s _ _ _ (T105.setTop (mkF m 68 #[.val (.ref a), .val (.int cc), .val (.int (0 : Int32))] [(.ref a)]))
            refine own_by (fun _ k => XS.lconst X105.here hx rfl (hb hby d4_68) k) ?_
            show OEnds p e below s _ _ _ (T105.setTop (mkF m 69 #[.val (.ref a), .val (.int cc), .val (.int (0 : Int32))] [(.long (0 : Int64)), (.ref a)]))
            obtain ⟨T106, h106, X106, e106, W106, st106⟩ := putF X105 hx hZ hown (host := "") (Or.inl (hw _ (List.mem_of_getElem? (i := 20) rfl))) Via.refl e105 (O105.fld 1 rfl rfl) O105.exa (Or.inl (hw _ (List.mem_of_getElem? (i := 21) rfl))) (hw _ (List.mem_of_getElem? (i := 5) rfl)) (ty := .long) (by decide) rfl rfl (g := (mkF m 69 #[.val (.ref a), .val (.int cc), .val (.int (0 : Int32))] [(.long (0 : Int64)), (.ref a)])) rfl rfl (hb hby d4_69)
            refine own_by (st106) ?_
            have O106 : Obj Z h106 a "com/example/boughcheck/boughcheck/DoctypeScan$Lines" sch_lines [(.int xm), (.long (0 : Int64)), (.int af), (.long (en + (1 : Int64)))] := O105.set (so_sch_lines hw) W106 1 rfl (Nat.le_of_ble_eq_true rfl)
            have N106 := Fr.snoc X106 N105 ga
            have Z106 : n0 ≤ h106.size := Nat.le_trans Z105 (Keep.of_wr W106).1
            have K106 : Keep h0 h106 [a] := K105.wr W106 (Or.inl (List.mem_of_getElem? (i := 0) rfl))
            show OEnds p e below s _ _ _ (T106.setTop (mkF m 72 #[.val (.ref a), .val (.int cc), .val (.int (0 : Int32))] []))
            refine own_by (fun _ k => XS.goto X106.here hx rfl (pc0 := 72) (pc' := 89) rfl (hb hby d4_72) (by decide) (by decide) k) ?_
            show OEnds p e below s _ _ _ (T106.setTop (mkF m 89 #[.val (.ref a), .val (.int cc), .val (.int (0 : Int32))] []))
            refine own_by (fun _ k => XS.aloadN X106.here hx rfl (hb hby d4_89) rfl rfl k) ?_
            show OEnds p e below s _ _ _ (T106.setTop (mkF m 90 #[.val (.ref a), .val (.int cc), .val (.int (0 : Int32))] [(.ref a)]))
            refine own_by (fun _ k => XS.iloadN X106.here hx rfl (hb hby d4_90) rfl k) ?_
            show OEnds p e below s _ _ _ (T106.setTop (mkF m 91 #[.val (.ref a), .val (.int cc), .val (.int (0 : Int32))] [(.int cc), (.ref a)]))
            refine own_by (fun _ k => XS.bipush X106.here hx rfl (hb hby d4_91) k) ?_
            show OEnds p e below s _ _ _ (T106.setTop (mkF m 93 #[.val (.ref a), .val (.int cc), .val (.int (0 : Int32))] [(.int (13 : Int32)), (.int cc), (.ref a)]))
            refine own_by (fun _ k => XS.icmpYes X106.here hx rfl (pc0 := 93) (pc' := 100) rfl (hb hby d4_93) rfl (feq hc29_94).2 (by decide) (by decide) k) ?_
            show OEnds p e below s _ _ _ (T106.setTop (mkF m 100 #[.val (.ref a), .val (.int cc), .val (.int (0 : Int32))] [(.ref a)]))
            refine own_by (fun _ k => XS.iconst X106.here hx rfl (hb hby d4_100) k) ?_
            show OEnds p e below s _ _ _ (T106.setTop (mkF m 101 #[.val (.ref a), .val (.int cc), .val (.int (0 : Int32))] [(.int (0 : Int32)), (.ref a)]))
            obtain ⟨T107, h107, X107, e107, W107, st107⟩ := putFN X106 hx hZ hown (hw _ (List.mem_of_getElem? (i := 22) rfl)) Via.refl e106 (O106.fld 2 rfl rfl) O106.exa (Or.inl (hw _ (List.mem_of_getElem? (i := 23) rfl))) (hw _ (List.mem_of_getElem? (i := 5) rfl)) (ty := .boolean) (v' := (.int (0 : Int32))) (by decide) rfl (by decide) (g := (mkF m 101 #[.val (.ref a), .val (.int cc), .val (.int (0 : Int32))] [(.int (0 : Int32)), (.ref a)])) rfl rfl (hb hby d4_101)
            refine own_by (st107) ?_
            have O107 : Obj Z h107 a "com/example/boughcheck/boughcheck/DoctypeScan$Lines" sch_lines [(.int xm), (.long (0 : Int64)), (.int (0 : Int32)), (.long (en + (1 : Int64)))] := O106.set (so_sch_lines hw) W107 2 rfl (Nat.le_of_ble_eq_true rfl)
            have N107 := Fr.snoc X107 N106 ga
            have Z107 : n0 ≤ h107.size := Nat.le_trans Z106 (Keep.of_wr W107).1
            have K107 : Keep h0 h107 [a] := K106.wr W107 (Or.inl (List.mem_of_getElem? (i := 0) rfl))
            show OEnds p e below s _ _ _ (T107.setTop (mkF m 104 #[.val (.ref a), .val (.int cc), .val (.int (0 : Int32))] []))
            have q_108_1 : (take_column cc xm co af) = (0 : Int64) := (by rw [take_column, if_neg hc3_1, if_neg hc10_47, if_neg hc17_63, if_neg hc29_94, if_pos hc43_103] <;> rfl)
            have q_109_2 : (take_afterCarriageReturn cc xm) = (0 : Int32) := (by rw [take_afterCarriageReturn, if_neg hc3_1, if_neg hc10_47, if_neg hc17_63, if_neg hc29_94] <;> rfl)
            have q_110_3 : (take_ends cc xm af en) = (en + (1 : Int64)) := (by rw [take_ends, if_neg hc3_1, if_neg hc10_47, if_neg hc17_63, if_neg hc29_94, if_pos hc43_103] <;> rfl)
            exact own_retV X107 hx hlk Bd.returns (hb hby d4_104) (by rw [e107]; exact ⟨rfl, N107, K107, by rw [q_108_1, q_109_2, q_110_3]; exact O107⟩) (by decide) (by decide)
          · refine own_by (fun _ k => XS.icmpNo X102.here hx rfl (hb hby d4_43) rfl (feq hc43_103).1 k) ?_
            show OEnds p e below s _ _ _ (T102.setTop (mkF m 46 #[.val (.ref a), .val (.int cc), .val (.int (0 : Int32))] []))
            refine own_by (fun _ k => XS.iloadN X102.here hx rfl (hb hby d4_46) rfl k) ?_
            show OEnds p e below s _ _ _ (T102.setTop (mkF m 47 #[.val (.ref a), .val (.int cc), .val (.int (0 : Int32))] [(.int (0 : Int32))]))
            refine own_by (fun _ k => XS.ifYes X102.here hx rfl (pc0 := 47) (pc' := 75) rfl (hb hby d4_47) rfl ((if0 _ _).trans (teq (by decide : (0 : Int32) = (0 : Int32))).1) (by decide) (by decide) k) ?_
            show OEnds p e below s _ _ _ (T102.setTop (mkF m 75 #[.val (.ref a), .val (.int cc), .val (.int (0 : Int32))] []))
            refine own_by (fun _ k => XS.iloadN X102.here hx rfl (hb hby d4_75) rfl k) ?_
            show OEnds p e below s _ _ _ (T102.setTop (mkF m 76 #[.val (.ref a), .val (.int cc), .val (.int (0 : Int32))] [(.int (0 : Int32))]))
            refine own_by (fun _ k => XS.ifNo X102.here hx rfl (hb hby d4_76) rfl ((if0 _ _).trans (teq (by decide : (0 : Int32) = (0 : Int32))).2) k) ?_
            show OEnds p e below s _ _ _ (T102.setTop (mkF m 79 #[.val (.ref a), .val (.int cc), .val (.int (0 : Int32))] []))
            refine own_by (fun _ k => XS.aloadN X102.here hx rfl (hb hby d4_79) rfl rfl k) ?_
            show OEnds p e below s _ _ _ (T102.setTop (mkF m 80 #[.val (.ref a), .val (.int cc), .val (.int (0 : Int32))] [(.ref a)]))
            refine own_by (fun _ k => XS.dup X102.here hx rfl (hb hby d4_80) rfl rfl k) ?_
            show OEnds p e below s _ _ _ (T102.setTop (mkF m 81 #[.val (.ref a), .val (.int cc), .val (.int (0 : Int32))] [(.ref a), (.ref a)]))
            obtain ⟨T111, X111, e111, st111⟩ := getF X102 hx hZ hown (host := "") (Or.inl (hw _ (List.mem_of_getElem? (i := 20) rfl))) Via.refl e102 (O0.fld 1 rfl rfl) (g := (mkF m 81 #[.val (.ref a), .val (.int cc), .val (.int (0 : Int32))] [(.ref a), (.ref a)])) rfl rfl (hb hby d4_81)
            refine own_by (st111) ?_
            show OEnds p e below s _ _ _ (T111.setTop (mkF m 84 #[.val (.ref a), .val (.int cc), .val (.int (0 : Int32))] [(.long co), (.ref a)]))
            refine own_by (fun _ k => XS.lconst X111.here hx rfl (hb hby d4_84) k) ?_
            show OEnds p e below s _ _ _ (T111.setTop (mkF m 85 #[.val (.ref a), .val (.int cc), .val (.int (0 : Int32))] [(.long (1 : Int64)), (.long co), (.ref a)]))
            refine own_by (fun _ k => XS.ladd X111.here hx rfl (hb hby d4_85) rfl k) ?_
            show OEnds p e below s _ _ _ (T111.setTop (mkF m 86 #[.val (.ref a), .val (.int cc), .val (.int (0 : Int32))] [(.long (co + (1 : Int64))), (.ref a)]))
            obtain ⟨T112, h112, X112, e112, W112, st112⟩ := putF X111 hx hZ hown (host := "") (Or.inl (hw _ (List.mem_of_getElem? (i := 20) rfl))) Via.refl e111 (O0.fld 1 rfl rfl) O0.exa (Or.inl (hw _ (List.mem_of_getElem? (i := 21) rfl))) (hw _ (List.mem_of_getElem? (i := 5) rfl)) (ty := .long) (by decide) rfl rfl (g := (mkF m 86 #[.val (.ref a), .val (.int cc), .val (.int (0 : Int32))] [(.long (co + (1 : Int64))), (.ref a)])) rfl rfl (hb hby d4_86)
            refine own_by (st112) ?_
            have O112 : Obj Z h112 a "com/example/boughcheck/boughcheck/DoctypeScan$Lines" sch_lines [(.int xm), (.long (co + (1 : Int64))), (.int af), (.long en)] := O0.set (so_sch_lines hw) W112 1 rfl (Nat.le_of_ble_eq_true rfl)
            have N112 := Fr.snoc X112 N0 ga
            have Z112 : n0 ≤ h112.size := Nat.le_trans Z0 (Keep.of_wr W112).1
            have K112 : Keep h0 h112 [a] := K0.wr W112 (Or.inl (List.mem_of_getElem? (i := 0) rfl))
            show OEnds p e below s _ _ _ (T112.setTop (mkF m 89 #[.val (.ref a), .val (.int cc), .val (.int (0 : Int32))] []))
            refine own_by (fun _ k => XS.aloadN X112.here hx rfl (hb hby d4_89) rfl rfl k) ?_
            show OEnds p e below s _ _ _ (T112.setTop (mkF m 90 #[.val (.ref a), .val (.int cc), .val (.int (0 : Int32))] [(.ref a)]))
            refine own_by (fun _ k => XS.iloadN X112.here hx rfl (hb hby d4_90) rfl k) ?_
            show OEnds p e below s _ _ _ (T112.setTop (mkF m 91 #[.val (.ref a), .val (.int cc), .val (.int (0 : Int32))] [(.int cc), (.ref a)]))
            refine own_by (fun _ k => XS.bipush X112.here hx rfl (hb hby d4_91) k) ?_
            show OEnds p e below s _ _ _ (T112.setTop (mkF m 93 #[.val (.ref a), .val (.int cc), .val (.int (0 : Int32))] [(.int (13 : Int32)), (.int cc), (.ref a)]))
            refine own_by (fun _ k => XS.icmpYes X112.here hx rfl (pc0 := 93) (pc' := 100) rfl (hb hby d4_93) rfl (feq hc29_94).2 (by decide) (by decide) k) ?_
            show OEnds p e below s _ _ _ (T112.setTop (mkF m 100 #[.val (.ref a), .val (.int cc), .val (.int (0 : Int32))] [(.ref a)]))
            refine own_by (fun _ k => XS.iconst X112.here hx rfl (hb hby d4_100) k) ?_
            show OEnds p e below s _ _ _ (T112.setTop (mkF m 101 #[.val (.ref a), .val (.int cc), .val (.int (0 : Int32))] [(.int (0 : Int32)), (.ref a)]))
            obtain ⟨T113, h113, X113, e113, W113, st113⟩ := putFN X112 hx hZ hown (hw _ (List.mem_of_getElem? (i := 22) rfl)) Via.refl e112 (O112.fld 2 rfl rfl) O112.exa (Or.inl (hw _ (List.mem_of_getElem? (i := 23) rfl))) (hw _ (List.mem_of_getElem? (i := 5) rfl)) (ty := .boolean) (v' := (.int (0 : Int32))) (by decide) rfl (by decide) (g := (mkF m 101 #[.val (.ref a), .val (.int cc), .val (.int (0 : Int32))] [(.int (0 : Int32)), (.ref a)])) rfl rfl (hb hby d4_101)
            refine own_by (st113) ?_
            have O113 : Obj Z h113 a "com/example/boughcheck/boughcheck/DoctypeScan$Lines" sch_lines [(.int xm), (.long (co + (1 : Int64))), (.int (0 : Int32)), (.long en)] := O112.set (so_sch_lines hw) W113 2 rfl (Nat.le_of_ble_eq_true rfl)
            have N113 := Fr.snoc X113 N112 ga
            have Z113 : n0 ≤ h113.size := Nat.le_trans Z112 (Keep.of_wr W113).1
            have K113 : Keep h0 h113 [a] := K112.wr W113 (Or.inl (List.mem_of_getElem? (i := 0) rfl))
            show OEnds p e below s _ _ _ (T113.setTop (mkF m 104 #[.val (.ref a), .val (.int cc), .val (.int (0 : Int32))] []))
            have q_114_1 : (take_column cc xm co af) = (co + (1 : Int64)) := (by rw [take_column, if_neg hc3_1, if_neg hc10_47, if_neg hc17_63, if_neg hc29_94, if_neg hc43_103] <;> rfl)
            have q_115_2 : (take_afterCarriageReturn cc xm) = (0 : Int32) := (by rw [take_afterCarriageReturn, if_neg hc3_1, if_neg hc10_47, if_neg hc17_63, if_neg hc29_94] <;> rfl)
            have q_116_3 : (take_ends cc xm af en) = en := (by rw [take_ends, if_neg hc3_1, if_neg hc10_47, if_neg hc17_63, if_neg hc29_94, if_neg hc43_103] <;> rfl)
            exact own_retV X113 hx hlk Bd.returns (hb hby d4_104) (by rw [e113]; exact ⟨rfl, N113, K113, by rw [q_114_1, q_115_2, q_116_3]; exact O113⟩) (by decide) (by decide)
theorem d7_0 : decode prog_102_method_4_code 0 = .ok (.aload_n 0, 1) := by decide +kernel
theorem d7_1 : decode prog_102_method_4_code 1 = .ok (.getfield 16, 3) := by decide +kernel
theorem d7_4 : decode prog_102_method_4_code 4 = .ok (.lconst 1, 1) := by decide +kernel
theorem d7_5 : decode prog_102_method_4_code 5 = .ok (.ladd, 1) := by decide +kernel
theorem d7_6 : decode prog_102_method_4_code 6 = .ok (.lreturn, 1) := by decide +kernel
theorem pn_7 : plainName "com/example/boughcheck/boughcheck/DoctypeScan$Lines" = true := by first | (simp [plainName, overriddenIn]; done) | decide +kernel
theorem ef_7 (m : MethodId) (a : Addr) : entryFrame m #[(.ref a)] 1 = mkF m 0 #[.val (.ref a)] [] := by first | (simp [entryFrame, mkF, argsToLocals, Value.category]; done) | rfl
def lline_r (en : Int64) : Int64 := (en + (1 : Int64))
set_option maxRecDepth 65536 in
set_option maxHeartbeats 40000000 in
theorem rm_lline (l : Launch) (Z : State) (a0 : Array Value) (hw : ∀ d ∈ tables_1, d.before a0 Z = true) (ws : List Jvm.Cond) (a : Addr) (xm : Int32) (co : Int64) (af : Int32) (en : Int64) (h0 : Heap) (n0 : Nat) (Z0 : n0 ≤ h0.size) (O0 : Obj Z h0 a "com/example/boughcheck/boughcheck/DoctypeScan$Lines" sch_lines [(.int xm), (.long co), (.int af), (.long en)]) :
    MetFree l (⟨"com/example/boughcheck/boughcheck/DoctypeScan$Lines", "line", "()J"⟩ : MethodName) (head1 (Jvm.Cond.code (⟨"com/example/boughcheck/boughcheck/DoctypeScan$Lines", "line", "()J"⟩ : MethodName) prog_102_method_4_code 1 (some .long) :: ws) ({ frames := 0, cells := 0, slots := 0, locals := 0 } : Room)) (fun a_ U => a_ = #[(.ref a)] ∧ Z.Warmed39 U.vm ∧ U.heap = h0) (fun _ _ _ _ _ => True) (fun _ U o U' => ∃ v_ L_, o = .returned v_ ∧ QP (.long (lline_r en)) h0 v_ U'.heap L_ ∧ FrameEnd U o U' L_ ({ frames := 0, cells := 0, slots := 0, locals := 0 } : Room).cells ({ frames := 0, cells := 0, slots := 0, locals := 0 } : Room).slots) := by
  refine MetFree.of_bodySF (plainFor_of_name pn_7) hisR ?_
  intro p e s m args below meth c s₁ Bd hml0 hP hK
  obtain ⟨rfl, hZ, hh⟩ := hP
  have hx := Bd.exec
  have hby := Bd.bytes
  have hlk : meth.locks = false := Bd.notSynchronized
  have hml : c.maxLocals = 1 := hml0
  have hown : s.vm.findClass "com/example/boughcheck/boughcheck/DoctypeScan$Lines" = some m.cls := findClass_of_methodNamed Bd.named
  have hnm := (name_of_methodNamed Bd.named Bd.method).1
  have X0 : Stand p l e ({ frames := 0, cells := 0, slots := 0, locals := 0 } : Room) s m #[(.ref a)] below meth c s₁ [] 0 0 := Stand.of_body Bd
  have e0 : s₁.heap = h0 := by rw [← hh, Bd.state]; rfl
  have N0 := Fr.nil n0
  have K0 : Keep h0 h0 [] := Keep.refl _ _
  show OEnds p e below s (QP (.long (lline_r en)) h0) _ _ _
  refine own_by (fun t k => castTop (ef_7 m a) k) ?_
  show OEnds p e below s _ _ _ (s₁.setTop (mkF m 0 #[.val (.ref a)] []))
  refine own_by (fun _ k => XS.aloadN X0.here hx rfl (hb hby d7_0) rfl rfl k) ?_
  show OEnds p e below s _ _ _ (s₁.setTop (mkF m 1 #[.val (.ref a)] [(.ref a)]))
  obtain ⟨T1, X1, e1, st1⟩ := getF X0 hx hZ hown (host := "") (Or.inl (hw _ (List.mem_of_getElem? (i := 36) rfl))) Via.refl e0 (O0.fld 3 rfl rfl) (g := (mkF m 1 #[.val (.ref a)] [(.ref a)])) rfl rfl (hb hby d7_1)
  refine own_by (st1) ?_
  show OEnds p e below s _ _ _ (T1.setTop (mkF m 4 #[.val (.ref a)] [(.long en)]))
  refine own_by (fun _ k => XS.lconst X1.here hx rfl (hb hby d7_4) k) ?_
  show OEnds p e below s _ _ _ (T1.setTop (mkF m 5 #[.val (.ref a)] [(.long (1 : Int64)), (.long en)]))
  refine own_by (fun _ k => XS.ladd X1.here hx rfl (hb hby d7_5) rfl k) ?_
  show OEnds p e below s _ _ _ (T1.setTop (mkF m 6 #[.val (.ref a)] [(.long (en + (1 : Int64)))]))
  exact own_retJ X1 hx hlk Bd.returns (hb hby d7_6) ⟨congrArg (fun z => some (Value.long z)) (Eq.symm (by rw [lline_r] <;> rfl)), rfl, e1⟩ (by decide) (by decide)
theorem d8_0 : decode prog_102_method_5_code 0 = .ok (.aload_n 0, 1) := by decide +kernel
theorem d8_1 : decode prog_102_method_5_code 1 = .ok (.getfield 20, 3) := by decide +kernel
theorem d8_4 : decode prog_102_method_5_code 4 = .ok (.lreturn, 1) := by decide +kernel
theorem pn_8 : plainName "com/example/boughcheck/boughcheck/DoctypeScan$Lines" = true := by first | (simp [plainName, overriddenIn]; done) | decide +kernel
theorem ef_8 (m : MethodId) (a : Addr) : entryFrame m #[(.ref a)] 1 = mkF m 0 #[.val (.ref a)] [] := by first | (simp [entryFrame, mkF, argsToLocals, Value.category]; done) | rfl
def lcols_r (co : Int64) : Int64 := co
set_option maxRecDepth 65536 in
set_option maxHeartbeats 40000000 in
theorem rm_lcols (l : Launch) (Z : State) (a0 : Array Value) (hw : ∀ d ∈ tables_1, d.before a0 Z = true) (ws : List Jvm.Cond) (a : Addr) (xm : Int32) (co : Int64) (af : Int32) (en : Int64) (h0 : Heap) (n0 : Nat) (Z0 : n0 ≤ h0.size) (O0 : Obj Z h0 a "com/example/boughcheck/boughcheck/DoctypeScan$Lines" sch_lines [(.int xm), (.long co), (.int af), (.long en)]) :
    MetFree l (⟨"com/example/boughcheck/boughcheck/DoctypeScan$Lines", "columns", "()J"⟩ : MethodName) (head1 (Jvm.Cond.code (⟨"com/example/boughcheck/boughcheck/DoctypeScan$Lines", "columns", "()J"⟩ : MethodName) prog_102_method_5_code 1 (some .long) :: ws) ({ frames := 0, cells := 0, slots := 0, locals := 0 } : Room)) (fun a_ U => a_ = #[(.ref a)] ∧ Z.Warmed39 U.vm ∧ U.heap = h0) (fun _ _ _ _ _ => True) (fun _ U o U' => ∃ v_ L_, o = .returned v_ ∧ QP (.long (lcols_r co)) h0 v_ U'.heap L_ ∧ FrameEnd U o U' L_ ({ frames := 0, cells := 0, slots := 0, locals := 0 } : Room).cells ({ frames := 0, cells := 0, slots := 0, locals := 0 } : Room).slots) := by
  refine MetFree.of_bodySF (plainFor_of_name pn_8) hisR ?_
  intro p e s m args below meth c s₁ Bd hml0 hP hK
  obtain ⟨rfl, hZ, hh⟩ := hP
  have hx := Bd.exec
  have hby := Bd.bytes
  have hlk : meth.locks = false := Bd.notSynchronized
  have hml : c.maxLocals = 1 := hml0
  have hown : s.vm.findClass "com/example/boughcheck/boughcheck/DoctypeScan$Lines" = some m.cls := findClass_of_methodNamed Bd.named
  have hnm := (name_of_methodNamed Bd.named Bd.method).1
  have X0 : Stand p l e ({ frames := 0, cells := 0, slots := 0, locals := 0 } : Room) s m #[(.ref a)] below meth c s₁ [] 0 0 := Stand.of_body Bd
  have e0 : s₁.heap = h0 := by rw [← hh, Bd.state]; rfl
  have N0 := Fr.nil n0
  have K0 : Keep h0 h0 [] := Keep.refl _ _
  show OEnds p e below s (QP (.long (lcols_r co)) h0) _ _ _
  refine own_by (fun t k => castTop (ef_8 m a) k) ?_
  show OEnds p e below s _ _ _ (s₁.setTop (mkF m 0 #[.val (.ref a)] []))
  refine own_by (fun _ k => XS.aloadN X0.here hx rfl (hb hby d8_0) rfl rfl k) ?_
  show OEnds p e below s _ _ _ (s₁.setTop (mkF m 1 #[.val (.ref a)] [(.ref a)]))
  obtain ⟨T1, X1, e1, st1⟩ := getF X0 hx hZ hown (host := "") (Or.inl (hw _ (List.mem_of_getElem? (i := 20) rfl))) Via.refl e0 (O0.fld 1 rfl rfl) (g := (mkF m 1 #[.val (.ref a)] [(.ref a)])) rfl rfl (hb hby d8_1)
  refine own_by (st1) ?_
  show OEnds p e below s _ _ _ (T1.setTop (mkF m 4 #[.val (.ref a)] [(.long co)]))
  exact own_retJ X1 hx hlk Bd.returns (hb hby d8_4) ⟨congrArg (fun z => some (Value.long z)) (Eq.symm (by rw [lcols_r] <;> rfl)), rfl, e1⟩ (by decide) (by decide)
theorem T_x (x : Int32) (hx : x = 0 ∨ x = 1) : linit_xml11 x = x := by
  rcases hx with rfl | rfl <;> decide
theorem T_af (c x : Int32) (hx : x = 0 ∨ x = 1) : take_afterCarriageReturn c (linit_xml11 x) = if c = (13 : Int32) then (1 : Int32) else (0 : Int32) := by
  rw [T_x x hx]
  rcases hx with rfl | rfl <;> by_cases a1 : c = 13 <;> by_cases a2 : c = 10 <;> by_cases a3 : c = 133 <;> simp +decide [take_afterCarriageReturn, a1, a2, a3]
theorem T_af01 (c : Int32) : (if c = (13 : Int32) then (1 : Int32) else (0 : Int32)) = 0 ∨ (if c = (13 : Int32) then (1 : Int32) else (0 : Int32)) = 1 := by
  by_cases a1 : c = 13 <;> simp +decide [a1]
theorem T_ends (c x af : Int32) (en : Int64) (hx : x = 0 ∨ x = 1) (haf : af = 0 ∨ af = 1) : take_ends c (linit_xml11 x) af en = en + endsLine af c x := by
  rw [T_x x hx]
  rcases hx with rfl | rfl <;> rcases haf with rfl | rfl <;> by_cases a1 : c = 13 <;> by_cases a2 : c = 10 <;> by_cases a3 : c = 133 <;> by_cases a4 : c = 8232 <;> simp +decide [take_ends, endsLine, endsLine_17, endsLine_21, endsLine_22, endsLine_40, endsLine_44, endsLine_45, endsLine_64, a1, a2, a3, a4]
theorem T_col (c x af : Int32) (co : Int64) (hx : x = 0 ∨ x = 1) (haf : af = 0 ∨ af = 1) (hc : af = 1 → co = 0) : take_column c (linit_xml11 x) co af = if (breaks c x) = (0 : Int32) then co + (1 : Int64) else (0 : Int64) := by
  rw [T_x x hx]
  rcases hx with rfl | rfl <;> rcases haf with rfl | rfl <;> by_cases a1 : c = 13 <;> by_cases a2 : c = 10 <;> by_cases a3 : c = 133 <;> by_cases a4 : c = 8232 <;> simp +decide [take_column, breaks, breaks_30, breaks_34, breaks_35, nar, a1, a2, a3, a4] <;> simp_all
theorem T_br (c x : Int32) (h : c = 13) : ¬ (breaks c x) = (0 : Int32) := by
  subst h
  simp +decide [breaks, breaks_30, breaks_35, nar]
theorem T_zero (c x : Int32) (co : Int64) : (if c = (13 : Int32) then (1 : Int32) else (0 : Int32)) = 1 → (if (breaks c x) = (0 : Int32) then co else (0 : Int64)) = 0 := by
  intro q
  by_cases a1 : c = 13
  · rw [if_neg (T_br c x a1)]
  · rw [if_neg a1] at q; exact absurd q (by decide)
theorem pl_line2 {xb c0 c1 : Int32} {en2 ln2 : Int64} (hxb : xb = 0 ∨ xb = 1) (e1 : en2 = (take_ends c1 (linit_xml11 xb) (take_afterCarriageReturn c0 (linit_xml11 xb)) (take_ends c0 (linit_xml11 xb) (0 : Int32) (0 : Int64))))
    (e2 : ln2 = (((1 : Int64) + (endsLine (0 : Int32) c0 xb)) + (endsLine (if c0 = (13 : Int32) then (1 : Int32) else (0 : Int32)) c1 xb))) : lline_r en2 = ln2 := by
  rw [lline_r, e1, e2, T_af c0 xb hxb, T_ends c0 xb 0 0 hxb (Or.inl rfl), T_ends c1 xb _ _ hxb (T_af01 c0)]
  generalize endsLine (0 : Int32) c0 xb = u
  generalize endsLine _ c1 xb = v
  apply Int64.toInt_inj.mp
  have := c_ladd (0 + u + v) 1; have := c_ladd (0 + u) v; have := c_ladd 0 u; have := c_ladd (1 + u) v; have := c_ladd 1 u
  have := rng64 (0 + u + v + 1); have := rng64 (1 + u + v)
  have : (0 : Int64).toInt = 0 := by decide
  have : (1 : Int64).toInt = 1 := by decide
  omega
theorem pl_line4 {xb c0 c1 c2 c3 : Int32} {en2 ln2 en4 ln4 : Int64} (hxb : xb = 0 ∨ xb = 1) (e1 : en2 = (take_ends c1 (linit_xml11 xb) (take_afterCarriageReturn c0 (linit_xml11 xb)) (take_ends c0 (linit_xml11 xb) (0 : Int32) (0 : Int64))))
    (e2 : ln2 = (((1 : Int64) + (endsLine (0 : Int32) c0 xb)) + (endsLine (if c0 = (13 : Int32) then (1 : Int32) else (0 : Int32)) c1 xb)))
    (e3 : en4 = (take_ends c3 (linit_xml11 xb) (take_afterCarriageReturn c2 (linit_xml11 xb)) (take_ends c2 (linit_xml11 xb) (take_afterCarriageReturn c1 (linit_xml11 xb)) en2)))
    (e4 : ln4 = ((ln2 + (endsLine (if c1 = (13 : Int32) then (1 : Int32) else (0 : Int32)) c2 xb)) + (endsLine (if c2 = (13 : Int32) then (1 : Int32) else (0 : Int32)) c3 xb))) : lline_r en4 = ln4 := by
  have k := pl_line2 hxb e1 e2
  rw [lline_r] at k
  rw [lline_r, e3, e4, ← k, T_af c1 xb hxb, T_af c2 xb hxb, T_ends c2 xb _ _ hxb (T_af01 c1), T_ends c3 xb _ _ hxb (T_af01 c2)]
  generalize endsLine _ c2 xb = u
  generalize endsLine _ c3 xb = v
  apply Int64.toInt_inj.mp
  have := c_ladd (en2 + u + v) 1; have := c_ladd (en2 + u) v; have := c_ladd en2 u; have := c_ladd (en2 + 1 + u) v; have := c_ladd (en2 + 1) u; have := c_ladd en2 1
  have := rng64 (en2 + u + v + 1); have := rng64 (en2 + 1 + u + v)
  omega
theorem pl_co2 {xb c0 c1 : Int32} {co2 : Int64} (hxb : xb = 0 ∨ xb = 1) (e1 : co2 = (take_column c1 (linit_xml11 xb) (take_column c0 (linit_xml11 xb) (0 : Int64) (0 : Int32)) (take_afterCarriageReturn c0 (linit_xml11 xb)))) :
    co2 = if (breaks c1 xb) = (0 : Int32) then if (breaks c0 xb) = (0 : Int32) then (2 : Int64) else (1 : Int64) else (0 : Int64) := by
  rw [e1, T_af c0 xb hxb, T_col c0 xb 0 0 hxb (Or.inl rfl) (fun q => absurd q (by decide)), T_col c1 xb _ _ hxb (T_af01 c0) (T_zero c0 xb _)]
  by_cases a1 : (breaks c1 xb) = (0 : Int32) <;> by_cases a2 : (breaks c0 xb) = (0 : Int32) <;> simp only [a1, a2, if_true, if_false] <;> decide
theorem pl_col2 {xb c0 c1 : Int32} {co2 cl2 : Int64} (hxb : xb = 0 ∨ xb = 1) (e1 : co2 = (take_column c1 (linit_xml11 xb) (take_column c0 (linit_xml11 xb) (0 : Int64) (0 : Int32)) (take_afterCarriageReturn c0 (linit_xml11 xb))))
    (e2 : cl2 = if (breaks c1 xb) = (0 : Int32) then if (breaks c0 xb) = (0 : Int32) then (2 : Int64) else (1 : Int64) else (0 : Int64)) : lcols_r co2 = cl2 := by
  rw [lcols_r, e2]; exact pl_co2 hxb e1
theorem pl_col4 {xb c0 c1 c2 c3 : Int32} {co2 co4 cl4 : Int64} (hxb : xb = 0 ∨ xb = 1) (e1 : co2 = (take_column c1 (linit_xml11 xb) (take_column c0 (linit_xml11 xb) (0 : Int64) (0 : Int32)) (take_afterCarriageReturn c0 (linit_xml11 xb))))
    (e3 : co4 = (take_column c3 (linit_xml11 xb) (take_column c2 (linit_xml11 xb) co2 (take_afterCarriageReturn c1 (linit_xml11 xb))) (take_afterCarriageReturn c2 (linit_xml11 xb))))
    (e4 : cl4 = if (breaks c3 xb) = (0 : Int32) then if (breaks c2 xb) = (0 : Int32) then if (breaks c1 xb) = (0 : Int32) then if (breaks c0 xb) = (0 : Int32) then (4 : Int64) else (3 : Int64) else (2 : Int64) else (1 : Int64) else (0 : Int64)) : lcols_r co4 = cl4 := by
  have k := pl_co2 hxb e1
  rw [lcols_r, e4, e3, T_af c1 xb hxb, T_af c2 xb hxb, T_col c2 xb _ co2 hxb (T_af01 c1) (fun q => by rw [k]; exact T_zero c1 xb _ q), T_col c3 xb _ _ hxb (T_af01 c2) (T_zero c2 xb _), k]
  by_cases a1 : (breaks c3 xb) = (0 : Int32) <;> by_cases a2 : (breaks c2 xb) = (0 : Int32) <;> by_cases a3 : (breaks c1 xb) = (0 : Int32) <;> by_cases a4 : (breaks c0 xb) = (0 : Int32) <;> simp only [a1, a2, a3, a4, if_true, if_false] <;> decide
theorem pn_0 : plainName "com/example/boughcheck/boughcheck/LinesTakePinLaw" = true := by first | (simp [plainName, overriddenIn]; done) | decide +kernel
theorem ef_0 (m : MethodId) (q0 : Int32) (q1 : Int32) (q2 : Int32) (q3 : Int32) (q4 : Int32) : entryFrame m #[(.int q0), (.int q1), (.int q2), (.int q3), (.int q4)] maxLocals = mkF m 0 #[.val (.int q0), .val (.int q1), .val (.int q2), .val (.int q3), .val (.int q4), .unset, .unset, .unset, .unset, .unset, .unset, .unset, .unset, .unset, .unset, .unset, .unset, .unset, .unset, .unset] [] := by first | (simp [entryFrame, mkF, argsToLocals, Value.category, maxLocals]; done) | rfl
def QL (n0 : Nat) (v : Option Value) (h : Heap) (L : List Loc) : Prop := v = some (.int 1) ∧ Fr n0 L
set_option maxRecDepth 65536 in
set_option maxHeartbeats 40000000 in
theorem rm_law (l : Launch) (Z : State) (a0 : Array Value) (hw : ∀ d ∈ tables_1, d.before a0 Z = true) (ws : List Jvm.Cond) (q0 : Int32) (q1 : Int32) (q2 : Int32) (q3 : Int32) (q4 : Int32) (h0 : Heap) (n0 : Nat) (Z0 : n0 ≤ h0.size) :
    MetFree l x (head1 (Jvm.Cond.code x code maxLocals ret :: ws) room_1) (fun a_ U => a_ = #[(.int q0), (.int q1), (.int q2), (.int q3), (.int q4)] ∧ Z.Warmed39 U.vm ∧ U.heap = h0) (fun _ _ _ _ _ => True) (fun _ U o U' => ∃ v_ L_, o = .returned v_ ∧ QL n0 v_ U'.heap L_ ∧ FrameEnd U o U' L_ room_1.cells room_1.slots) := by
  refine MetFree.of_bodySF (plainFor_of_name pn_0) hisR ?_
  intro p e s m args below meth c s₁ Bd hml0 hP hK
  obtain ⟨rfl, hZ, hh⟩ := hP
  have hx := Bd.exec
  have hby := Bd.bytes
  have hlk : meth.locks = false := Bd.notSynchronized
  have hml : c.maxLocals = 20 := hml0
  have hown : s.vm.findClass "com/example/boughcheck/boughcheck/LinesTakePinLaw" = some m.cls := findClass_of_methodNamed Bd.named
  have hnm := (name_of_methodNamed Bd.named Bd.method).1
  have X0 : Stand p l e room_1 s m #[(.int q0), (.int q1), (.int q2), (.int q3), (.int q4)] below meth c s₁ [] 0 0 := Stand.of_body Bd
  have e0 : s₁.heap = h0 := by rw [← hh, Bd.state]; rfl
  have N0 := Fr.nil n0
  have K0 : Keep h0 h0 [] := Keep.refl _ _
  show OEnds p e below s (QL n0) _ _ _
  refine own_by (fun t k => castTop (ef_0 m q0 q1 q2 q3 q4) k) ?_
  show OEnds p e below s _ _ _ (s₁.setTop (mkF m 0 #[.val (.int q0), .val (.int q1), .val (.int q2), .val (.int q3), .val (.int q4), .unset, .unset, .unset, .unset, .unset, .unset, .unset, .unset, .unset, .unset, .unset, .unset, .unset, .unset, .unset] []))
  refine own_by (fun _ k => XS.iloadN X0.here hx rfl (hb hby at_0) rfl k) ?_
  show OEnds p e below s _ _ _ (s₁.setTop (mkF m 1 #[.val (.int q0), .val (.int q1), .val (.int q2), .val (.int q3), .val (.int q4), .unset, .unset, .unset, .unset, .unset, .unset, .unset, .unset, .unset, .unset, .unset, .unset, .unset, .unset, .unset] [(.int q0)]))
  refine own_by (fun _ k => XS.iconst X0.here hx rfl (hb hby at_1) k) ?_
  show OEnds p e below s _ _ _ (s₁.setTop (mkF m 2 #[.val (.int q0), .val (.int q1), .val (.int q2), .val (.int q3), .val (.int q4), .unset, .unset, .unset, .unset, .unset, .unset, .unset, .unset, .unset, .unset, .unset, .unset, .unset, .unset, .unset] [(.int (1 : Int32)), (.int q0)]))
  refine own_by (fun _ k => XS.iand X0.here hx rfl (hb hby at_2) rfl k) ?_
  show OEnds p e below s _ _ _ (s₁.setTop (mkF m 3 #[.val (.int q0), .val (.int q1), .val (.int q2), .val (.int q3), .val (.int q4), .unset, .unset, .unset, .unset, .unset, .unset, .unset, .unset, .unset, .unset, .unset, .unset, .unset, .unset, .unset] [(.int (q0 &&& (1 : Int32)))]))
  refine own_by (S' := s₁.setTop (mkF m 11 #[.val (.int q0), .val (.int q1), .val (.int q2), .val (.int q3), .val (.int q4), .unset, .unset, .unset, .unset, .unset, .unset, .unset, .unset, .unset, .unset, .unset, .unset, .unset, .unset, .unset] [(.int (if (q0 &&& (1 : Int32)) = (0 : Int32) then (0 : Int32) else (1 : Int32)))])) (fun t k => ?_) ?_
  · by_cases hc3_1 : (q0 &&& (1 : Int32)) = (0 : Int32)
    · rw [if_pos hc3_1] at k
      refine XS.ifYes X0.here hx rfl (pc0 := 3) (pc' := 10) rfl (hb hby at_3) rfl ((if0 _ _).trans (teq hc3_1).1) (by decide) (by decide) ?_
      show Steps p.tables e below (s₁.setTop (mkF m 10 #[.val (.int q0), .val (.int q1), .val (.int q2), .val (.int q3), .val (.int q4), .unset, .unset, .unset, .unset, .unset, .unset, .unset, .unset, .unset, .unset, .unset, .unset, .unset, .unset, .unset] [])) t
      refine XS.iconst X0.here hx rfl (hb hby at_10) ?_
      show Steps p.tables e below (s₁.setTop (mkF m 11 #[.val (.int q0), .val (.int q1), .val (.int q2), .val (.int q3), .val (.int q4), .unset, .unset, .unset, .unset, .unset, .unset, .unset, .unset, .unset, .unset, .unset, .unset, .unset, .unset, .unset] [(.int (0 : Int32))])) t
      exact k
    · rw [if_neg hc3_1] at k
      refine XS.ifNo X0.here hx rfl (hb hby at_3) rfl ((if0 _ _).trans (feq hc3_1).1) ?_
      show Steps p.tables e below (s₁.setTop (mkF m 6 #[.val (.int q0), .val (.int q1), .val (.int q2), .val (.int q3), .val (.int q4), .unset, .unset, .unset, .unset, .unset, .unset, .unset, .unset, .unset, .unset, .unset, .unset, .unset, .unset, .unset] [])) t
      refine XS.iconst X0.here hx rfl (hb hby at_6) ?_
      show Steps p.tables e below (s₁.setTop (mkF m 7 #[.val (.int q0), .val (.int q1), .val (.int q2), .val (.int q3), .val (.int q4), .unset, .unset, .unset, .unset, .unset, .unset, .unset, .unset, .unset, .unset, .unset, .unset, .unset, .unset, .unset] [(.int (1 : Int32))])) t
      refine XS.goto X0.here hx rfl (pc0 := 7) (pc' := 11) rfl (hb hby at_7) (by decide) (by decide) ?_
      show Steps p.tables e below (s₁.setTop (mkF m 11 #[.val (.int q0), .val (.int q1), .val (.int q2), .val (.int q3), .val (.int q4), .unset, .unset, .unset, .unset, .unset, .unset, .unset, .unset, .unset, .unset, .unset, .unset, .unset, .unset, .unset] [(.int (1 : Int32))])) t
      exact k
  show OEnds p e below s _ _ _ (s₁.setTop (mkF m 11 #[.val (.int q0), .val (.int q1), .val (.int q2), .val (.int q3), .val (.int q4), .unset, .unset, .unset, .unset, .unset, .unset, .unset, .unset, .unset, .unset, .unset, .unset, .unset, .unset, .unset] [(.int (if (q0 &&& (1 : Int32)) = (0 : Int32) then (0 : Int32) else (1 : Int32)))]))
  refine own_by (fun _ k => XS.istore X0.here hx rfl (hb hby at_11) rfl (l' := #[.val (.int q0), .val (.int q1), .val (.int q2), .val (.int q3), .val (.int q4), .val (.int (if (q0 &&& (1 : Int32)) = (0 : Int32) then (0 : Int32) else (1 : Int32))), .unset, .unset, .unset, .unset, .unset, .unset, .unset, .unset, .unset, .unset, .unset, .unset, .unset, .unset]) rfl k) ?_
  show OEnds p e below s _ _ _ (s₁.setTop (mkF m 13 #[.val (.int q0), .val (.int q1), .val (.int q2), .val (.int q3), .val (.int q4), .val (.int (if (q0 &&& (1 : Int32)) = (0 : Int32) then (0 : Int32) else (1 : Int32))), .unset, .unset, .unset, .unset, .unset, .unset, .unset, .unset, .unset, .unset, .unset, .unset, .unset, .unset] []))
  obtain ⟨xb, exb⟩ : ∃ z, z = (if (q0 &&& (1 : Int32)) = (0 : Int32) then (0 : Int32) else (1 : Int32)) := ⟨_, rfl⟩
  rw [← exb]
  have hxb : xb = 0 ∨ xb = 1 := by rw [exb]; split <;> simp
  show OEnds p e below s _ _ _ (s₁.setTop (mkF m 13 #[.val (.int q0), .val (.int q1), .val (.int q2), .val (.int q3), .val (.int q4), .val (.int xb), .unset, .unset, .unset, .unset, .unset, .unset, .unset, .unset, .unset, .unset, .unset, .unset, .unset, .unset] []))
  refine own_by (fun _ k => XS.iloadN X0.here hx rfl (hb hby at_13) rfl k) ?_
  show OEnds p e below s _ _ _ (s₁.setTop (mkF m 14 #[.val (.int q0), .val (.int q1), .val (.int q2), .val (.int q3), .val (.int q4), .val (.int xb), .unset, .unset, .unset, .unset, .unset, .unset, .unset, .unset, .unset, .unset, .unset, .unset, .unset, .unset] [(.int q1)]))
  obtain ⟨T2, X2, e2, st2⟩ := own_callP X0 hx hZ (y := (⟨"com/example/boughcheck/boughcheck/LinesTakePinLaw", "draw", "(I)C"⟩ : MethodName)) hown (hw _ (List.mem_of_getElem? (i := 0) rfl)) (hw _ (List.mem_of_getElem? (i := 1) rfl)) (hw _ (List.mem_of_getElem? (i := 2) rfl)) (hw _ (List.mem_of_getElem? (i := 3) rfl)) (by decide) (rm_draw l Z a0 hw [] q1 h0) e0 (g := (mkF m 14 #[.val (.int q0), .val (.int q1), .val (.int q2), .val (.int q3), .val (.int q4), .val (.int xb), .unset, .unset, .unset, .unset, .unset, .unset, .unset, .unset, .unset, .unset, .unset, .unset, .unset, .unset] [(.int q1)])) rfl (by rw [hml]; rfl) (argsL := [(.int q1)]) (rest := []) (lenOf pd_pIrC rfl) rfl (W := 0) (by show 2 * 0 + _ ≤ _; exact Nat.le_of_eq rfl) (hb hby at_14) (by decide) (by decide) (by decide) (by decide)
  refine own_by (st2) ?_
  show OEnds p e below s _ _ _ (T2.setTop (mkF m 17 #[.val (.int q0), .val (.int q1), .val (.int q2), .val (.int q3), .val (.int q4), .val (.int xb), .unset, .unset, .unset, .unset, .unset, .unset, .unset, .unset, .unset, .unset, .unset, .unset, .unset, .unset] [(.int (draw q1))]))
  refine own_by (fun _ k => XS.istore X2.here hx rfl (hb hby at_17) rfl (l' := #[.val (.int q0), .val (.int q1), .val (.int q2), .val (.int q3), .val (.int q4), .val (.int xb), .val (.int (draw q1)), .unset, .unset, .unset, .unset, .unset, .unset, .unset, .unset, .unset, .unset, .unset, .unset, .unset]) rfl k) ?_
  show OEnds p e below s _ _ _ (T2.setTop (mkF m 19 #[.val (.int q0), .val (.int q1), .val (.int q2), .val (.int q3), .val (.int q4), .val (.int xb), .val (.int (draw q1)), .unset, .unset, .unset, .unset, .unset, .unset, .unset, .unset, .unset, .unset, .unset, .unset, .unset] []))
  refine own_by (fun _ k => XS.iloadN X2.here hx rfl (hb hby at_19) rfl k) ?_
  show OEnds p e below s _ _ _ (T2.setTop (mkF m 20 #[.val (.int q0), .val (.int q1), .val (.int q2), .val (.int q3), .val (.int q4), .val (.int xb), .val (.int (draw q1)), .unset, .unset, .unset, .unset, .unset, .unset, .unset, .unset, .unset, .unset, .unset, .unset, .unset] [(.int q2)]))
  obtain ⟨T3, X3, e3, st3⟩ := own_callP X2 hx hZ (y := (⟨"com/example/boughcheck/boughcheck/LinesTakePinLaw", "draw", "(I)C"⟩ : MethodName)) hown (hw _ (List.mem_of_getElem? (i := 0) rfl)) (hw _ (List.mem_of_getElem? (i := 1) rfl)) (hw _ (List.mem_of_getElem? (i := 2) rfl)) (hw _ (List.mem_of_getElem? (i := 3) rfl)) (by decide) (rm_draw l Z a0 hw [] q2 h0) e2 (g := (mkF m 20 #[.val (.int q0), .val (.int q1), .val (.int q2), .val (.int q3), .val (.int q4), .val (.int xb), .val (.int (draw q1)), .unset, .unset, .unset, .unset, .unset, .unset, .unset, .unset, .unset, .unset, .unset, .unset, .unset] [(.int q2)])) rfl (by rw [hml]; rfl) (argsL := [(.int q2)]) (rest := []) (lenOf pd_pIrC rfl) rfl (W := 0) (by show 2 * 0 + _ ≤ _; exact Nat.le_of_eq rfl) (hb hby at_20) (by decide) (by decide) (by decide) (by decide)
  refine own_by (st3) ?_
  show OEnds p e below s _ _ _ (T3.setTop (mkF m 23 #[.val (.int q0), .val (.int q1), .val (.int q2), .val (.int q3), .val (.int q4), .val (.int xb), .val (.int (draw q1)), .unset, .unset, .unset, .unset, .unset, .unset, .unset, .unset, .unset, .unset, .unset, .unset, .unset] [(.int (draw q2))]))
  refine own_by (fun _ k => XS.istore X3.here hx rfl (hb hby at_23) rfl (l' := #[.val (.int q0), .val (.int q1), .val (.int q2), .val (.int q3), .val (.int q4), .val (.int xb), .val (.int (draw q1)), .val (.int (draw q2)), .unset, .unset, .unset, .unset, .unset, .unset, .unset, .unset, .unset, .unset, .unset, .unset]) rfl k) ?_
  show OEnds p e below s _ _ _ (T3.setTop (mkF m 25 #[.val (.int q0), .val (.int q1), .val (.int q2), .val (.int q3), .val (.int q4), .val (.int xb), .val (.int (draw q1)), .val (.int (draw q2)), .unset, .unset, .unset, .unset, .unset, .unset, .unset, .unset, .unset, .unset, .unset, .unset] []))
  refine own_by (fun _ k => XS.iloadN X3.here hx rfl (hb hby at_25) rfl k) ?_
  show OEnds p e below s _ _ _ (T3.setTop (mkF m 26 #[.val (.int q0), .val (.int q1), .val (.int q2), .val (.int q3), .val (.int q4), .val (.int xb), .val (.int (draw q1)), .val (.int (draw q2)), .unset, .unset, .unset, .unset, .unset, .unset, .unset, .unset, .unset, .unset, .unset, .unset] [(.int q3)]))
  obtain ⟨T4, X4, e4, st4⟩ := own_callP X3 hx hZ (y := (⟨"com/example/boughcheck/boughcheck/LinesTakePinLaw", "draw", "(I)C"⟩ : MethodName)) hown (hw _ (List.mem_of_getElem? (i := 0) rfl)) (hw _ (List.mem_of_getElem? (i := 1) rfl)) (hw _ (List.mem_of_getElem? (i := 2) rfl)) (hw _ (List.mem_of_getElem? (i := 3) rfl)) (by decide) (rm_draw l Z a0 hw [] q3 h0) e3 (g := (mkF m 26 #[.val (.int q0), .val (.int q1), .val (.int q2), .val (.int q3), .val (.int q4), .val (.int xb), .val (.int (draw q1)), .val (.int (draw q2)), .unset, .unset, .unset, .unset, .unset, .unset, .unset, .unset, .unset, .unset, .unset, .unset] [(.int q3)])) rfl (by rw [hml]; rfl) (argsL := [(.int q3)]) (rest := []) (lenOf pd_pIrC rfl) rfl (W := 0) (by show 2 * 0 + _ ≤ _; exact Nat.le_of_eq rfl) (hb hby at_26) (by decide) (by decide) (by decide) (by decide)
  refine own_by (st4) ?_
  show OEnds p e below s _ _ _ (T4.setTop (mkF m 29 #[.val (.int q0), .val (.int q1), .val (.int q2), .val (.int q3), .val (.int q4), .val (.int xb), .val (.int (draw q1)), .val (.int (draw q2)), .unset, .unset, .unset, .unset, .unset, .unset, .unset, .unset, .unset, .unset, .unset, .unset] [(.int (draw q3))]))
  refine own_by (fun _ k => XS.istore X4.here hx rfl (hb hby at_29) rfl (l' := #[.val (.int q0), .val (.int q1), .val (.int q2), .val (.int q3), .val (.int q4), .val (.int xb), .val (.int (draw q1)), .val (.int (draw q2)), .val (.int (draw q3)), .unset, .unset, .unset, .unset, .unset, .unset, .unset, .unset, .unset, .unset, .unset]) rfl k) ?_
  show OEnds p e below s _ _ _ (T4.setTop (mkF m 31 #[.val (.int q0), .val (.int q1), .val (.int q2), .val (.int q3), .val (.int q4), .val (.int xb), .val (.int (draw q1)), .val (.int (draw q2)), .val (.int (draw q3)), .unset, .unset, .unset, .unset, .unset, .unset, .unset, .unset, .unset, .unset, .unset] []))
  refine own_by (fun _ k => XS.iload X4.here hx rfl (hb hby at_31) rfl k) ?_
  show OEnds p e below s _ _ _ (T4.setTop (mkF m 33 #[.val (.int q0), .val (.int q1), .val (.int q2), .val (.int q3), .val (.int q4), .val (.int xb), .val (.int (draw q1)), .val (.int (draw q2)), .val (.int (draw q3)), .unset, .unset, .unset, .unset, .unset, .unset, .unset, .unset, .unset, .unset, .unset] [(.int q4)]))
  obtain ⟨T5, X5, e5, st5⟩ := own_callP X4 hx hZ (y := (⟨"com/example/boughcheck/boughcheck/LinesTakePinLaw", "draw", "(I)C"⟩ : MethodName)) hown (hw _ (List.mem_of_getElem? (i := 0) rfl)) (hw _ (List.mem_of_getElem? (i := 1) rfl)) (hw _ (List.mem_of_getElem? (i := 2) rfl)) (hw _ (List.mem_of_getElem? (i := 3) rfl)) (by decide) (rm_draw l Z a0 hw [] q4 h0) e4 (g := (mkF m 33 #[.val (.int q0), .val (.int q1), .val (.int q2), .val (.int q3), .val (.int q4), .val (.int xb), .val (.int (draw q1)), .val (.int (draw q2)), .val (.int (draw q3)), .unset, .unset, .unset, .unset, .unset, .unset, .unset, .unset, .unset, .unset, .unset] [(.int q4)])) rfl (by rw [hml]; rfl) (argsL := [(.int q4)]) (rest := []) (lenOf pd_pIrC rfl) rfl (W := 0) (by show 2 * 0 + _ ≤ _; exact Nat.le_of_eq rfl) (hb hby at_33) (by decide) (by decide) (by decide) (by decide)
  refine own_by (st5) ?_
  show OEnds p e below s _ _ _ (T5.setTop (mkF m 36 #[.val (.int q0), .val (.int q1), .val (.int q2), .val (.int q3), .val (.int q4), .val (.int xb), .val (.int (draw q1)), .val (.int (draw q2)), .val (.int (draw q3)), .unset, .unset, .unset, .unset, .unset, .unset, .unset, .unset, .unset, .unset, .unset] [(.int (draw q4))]))
  refine own_by (fun _ k => XS.istore X5.here hx rfl (hb hby at_36) rfl (l' := #[.val (.int q0), .val (.int q1), .val (.int q2), .val (.int q3), .val (.int q4), .val (.int xb), .val (.int (draw q1)), .val (.int (draw q2)), .val (.int (draw q3)), .val (.int (draw q4)), .unset, .unset, .unset, .unset, .unset, .unset, .unset, .unset, .unset, .unset]) rfl k) ?_
  show OEnds p e below s _ _ _ (T5.setTop (mkF m 38 #[.val (.int q0), .val (.int q1), .val (.int q2), .val (.int q3), .val (.int q4), .val (.int xb), .val (.int (draw q1)), .val (.int (draw q2)), .val (.int (draw q3)), .val (.int (draw q4)), .unset, .unset, .unset, .unset, .unset, .unset, .unset, .unset, .unset, .unset] []))
  obtain ⟨c0, ec0⟩ : ∃ z, z = (draw q1) := ⟨_, rfl⟩
  rw [← ec0]
  obtain ⟨c1, ec1⟩ : ∃ z, z = (draw q2) := ⟨_, rfl⟩
  rw [← ec1]
  obtain ⟨c2, ec2⟩ : ∃ z, z = (draw q3) := ⟨_, rfl⟩
  rw [← ec2]
  obtain ⟨c3, ec3⟩ : ∃ z, z = (draw q4) := ⟨_, rfl⟩
  rw [← ec3]
  show OEnds p e below s _ _ _ (T5.setTop (mkF m 38 #[.val (.int q0), .val (.int q1), .val (.int q2), .val (.int q3), .val (.int q4), .val (.int xb), .val (.int c0), .val (.int c1), .val (.int c2), .val (.int c3), .unset, .unset, .unset, .unset, .unset, .unset, .unset, .unset, .unset, .unset] []))
  obtain ⟨T6, h6, X6, e6, E6, A6, D6, -, st6⟩ := newO X5 hx hZ hown (hw _ (List.mem_of_getElem? (i := 4) rfl)) (hw _ (List.mem_of_getElem? (i := 5) rfl)) (hw _ (List.mem_of_getElem? (i := 6) rfl)) e5 (g := (mkF m 38 #[.val (.int q0), .val (.int q1), .val (.int q2), .val (.int q3), .val (.int q4), .val (.int xb), .val (.int c0), .val (.int c1), .val (.int c2), .val (.int c3), .unset, .unset, .unset, .unset, .unset, .unset, .unset, .unset, .unset, .unset] [])) rfl (hb hby at_38) (by decide) (by decide)
  obtain ⟨nb6, g6⟩ : ∃ z, z = h0.size := ⟨_, rfl⟩
  rw [← g6] at A6 D6 st6
  refine own_by (st6) ?_
  have g_nb6 : n0 ≤ nb6 := Nat.le_trans Z0 (Nat.le_of_eq g6.symm)
  have Z6 : n0 ≤ h6.size := Nat.le_trans Z0 E6.1
  have O6 : Obj Z h6 nb6 "com/example/boughcheck/boughcheck/DoctypeScan$Lines" sch_lines [(.int (0 : Int32)), (.long (0 : Int64)), (.int (0 : Int32)), (.long (0 : Int64))] := Obj.new (so_sch_lines hw) A6 D6 [.boolean, .long, .boolean, .long] (by decide)
  show OEnds p e below s _ _ _ (T6.setTop (mkF m 41 #[.val (.int q0), .val (.int q1), .val (.int q2), .val (.int q3), .val (.int q4), .val (.int xb), .val (.int c0), .val (.int c1), .val (.int c2), .val (.int c3), .unset, .unset, .unset, .unset, .unset, .unset, .unset, .unset, .unset, .unset] [(.ref nb6)]))
  refine own_by (fun _ k => XS.dup X6.here hx rfl (hb hby at_41) rfl rfl k) ?_
  show OEnds p e below s _ _ _ (T6.setTop (mkF m 42 #[.val (.int q0), .val (.int q1), .val (.int q2), .val (.int q3), .val (.int q4), .val (.int xb), .val (.int c0), .val (.int c1), .val (.int c2), .val (.int c3), .unset, .unset, .unset, .unset, .unset, .unset, .unset, .unset, .unset, .unset] [(.ref nb6), (.ref nb6)]))
  refine own_by (fun _ k => XS.iload X6.here hx rfl (hb hby at_42) rfl k) ?_
  show OEnds p e below s _ _ _ (T6.setTop (mkF m 44 #[.val (.int q0), .val (.int q1), .val (.int q2), .val (.int q3), .val (.int q4), .val (.int xb), .val (.int c0), .val (.int c1), .val (.int c2), .val (.int c3), .unset, .unset, .unset, .unset, .unset, .unset, .unset, .unset, .unset, .unset] [(.int xb), (.ref nb6), (.ref nb6)]))
  obtain ⟨v7, T7, L7, h7, X7, e7, hQ7, st7⟩ := own_callI X6 hx hZ (y := (⟨"com/example/boughcheck/boughcheck/DoctypeScan$Lines", "<init>", "(Z)V"⟩ : MethodName)) rfl hown (hw _ (List.mem_of_getElem? (i := 7) rfl)) (hw _ (List.mem_of_getElem? (i := 8) rfl)) (hw _ (List.mem_of_getElem? (i := 9) rfl)) (hw _ (List.mem_of_getElem? (i := 6) rfl)) (by decide) (rm_linit l Z a0 hw [] nb6 xb h6 n0 Z6 O6 g_nb6) e6 (g := (mkF m 44 #[.val (.int q0), .val (.int q1), .val (.int q2), .val (.int q3), .val (.int q4), .val (.int xb), .val (.int c0), .val (.int c1), .val (.int c2), .val (.int c3), .unset, .unset, .unset, .unset, .unset, .unset, .unset, .unset, .unset, .unset] [(.int xb), (.ref nb6), (.ref nb6)])) rfl (by rw [hml]; rfl) (argsL := [(.int xb)]) (rest := [(.ref nb6)]) (lenOf pd_pZrV rfl) rfl (W := 1) (by show 2 * 0 + _ ≤ _; exact Nat.le_of_eq rfl) (hb hby at_44) (by decide) (by decide) (by decide) (by decide)
  obtain ⟨rfl, Nq7, Kq7, O7⟩ := hQ7
  have N7 := Fr.app N0 Nq7
  have Z7 : n0 ≤ h7.size := Nat.le_trans Z6 Kq7.1
  refine own_tr st7 ?_
  show OEnds p e below s _ _ _ (T7.setTop (mkF m 47 #[.val (.int q0), .val (.int q1), .val (.int q2), .val (.int q3), .val (.int q4), .val (.int xb), .val (.int c0), .val (.int c1), .val (.int c2), .val (.int c3), .unset, .unset, .unset, .unset, .unset, .unset, .unset, .unset, .unset, .unset] [(.ref nb6)]))
  refine own_by (fun _ k => XS.astore X7.here hx rfl (hb hby at_47) rfl rfl (l' := #[.val (.int q0), .val (.int q1), .val (.int q2), .val (.int q3), .val (.int q4), .val (.int xb), .val (.int c0), .val (.int c1), .val (.int c2), .val (.int c3), .val (.ref nb6), .unset, .unset, .unset, .unset, .unset, .unset, .unset, .unset, .unset]) rfl k) ?_
  show OEnds p e below s _ _ _ (T7.setTop (mkF m 49 #[.val (.int q0), .val (.int q1), .val (.int q2), .val (.int q3), .val (.int q4), .val (.int xb), .val (.int c0), .val (.int c1), .val (.int c2), .val (.int c3), .val (.ref nb6), .unset, .unset, .unset, .unset, .unset, .unset, .unset, .unset, .unset] []))
  refine own_by (fun _ k => XS.aload X7.here hx rfl (hb hby at_49) rfl rfl k) ?_
  show OEnds p e below s _ _ _ (T7.setTop (mkF m 51 #[.val (.int q0), .val (.int q1), .val (.int q2), .val (.int q3), .val (.int q4), .val (.int xb), .val (.int c0), .val (.int c1), .val (.int c2), .val (.int c3), .val (.ref nb6), .unset, .unset, .unset, .unset, .unset, .unset, .unset, .unset, .unset] [(.ref nb6)]))
  refine own_by (fun _ k => XS.iload X7.here hx rfl (hb hby at_51) rfl k) ?_
  show OEnds p e below s _ _ _ (T7.setTop (mkF m 53 #[.val (.int q0), .val (.int q1), .val (.int q2), .val (.int q3), .val (.int q4), .val (.int xb), .val (.int c0), .val (.int c1), .val (.int c2), .val (.int c3), .val (.ref nb6), .unset, .unset, .unset, .unset, .unset, .unset, .unset, .unset, .unset] [(.int c0), (.ref nb6)]))
  obtain ⟨v8, T8, L8, h8, X8, e8, hQ8, st8⟩ := own_callV X7 hx hZ (y := (⟨"com/example/boughcheck/boughcheck/DoctypeScan$Lines", "take", "(C)V"⟩ : MethodName)) hown (hw _ (List.mem_of_getElem? (i := 15) rfl)) (hw _ (List.mem_of_getElem? (i := 16) rfl)) (hw _ (List.mem_of_getElem? (i := 18) rfl)) (hw _ (List.mem_of_getElem? (i := 17) rfl)) (hw _ (List.mem_of_getElem? (i := 19) rfl)) (hw _ (List.mem_of_getElem? (i := 6) rfl)) (by decide) O7.exa (rm_take l Z a0 hw [] nb6 c0 (linit_xml11 xb) (0 : Int64) (0 : Int32) (0 : Int64) h7 n0 Z7 O7 g_nb6) e7 (g := (mkF m 53 #[.val (.int q0), .val (.int q1), .val (.int q2), .val (.int q3), .val (.int q4), .val (.int xb), .val (.int c0), .val (.int c1), .val (.int c2), .val (.int c3), .val (.ref nb6), .unset, .unset, .unset, .unset, .unset, .unset, .unset, .unset, .unset] [(.int c0), (.ref nb6)])) rfl (by rw [hml]; rfl) (argsL := [(.int c0)]) (rest := []) (lenOf pd_pCrV rfl) rfl (W := 0) (by show 2 * 0 + _ ≤ _; exact Nat.le_of_eq rfl) (hb hby at_53) (by decide) (by decide) (by decide) (by decide)
  obtain ⟨rfl, Nq8, Kq8, O8⟩ := hQ8
  have N8 := Fr.app N7 Nq8
  have Z8 : n0 ≤ h8.size := Nat.le_trans Z7 Kq8.1
  refine own_tr st8 ?_
  show OEnds p e below s _ _ _ (T8.setTop (mkF m 56 #[.val (.int q0), .val (.int q1), .val (.int q2), .val (.int q3), .val (.int q4), .val (.int xb), .val (.int c0), .val (.int c1), .val (.int c2), .val (.int c3), .val (.ref nb6), .unset, .unset, .unset, .unset, .unset, .unset, .unset, .unset, .unset] []))
  refine own_by (fun _ k => XS.aload X8.here hx rfl (hb hby at_56) rfl rfl k) ?_
  show OEnds p e below s _ _ _ (T8.setTop (mkF m 58 #[.val (.int q0), .val (.int q1), .val (.int q2), .val (.int q3), .val (.int q4), .val (.int xb), .val (.int c0), .val (.int c1), .val (.int c2), .val (.int c3), .val (.ref nb6), .unset, .unset, .unset, .unset, .unset, .unset, .unset, .unset, .unset] [(.ref nb6)]))
  refine own_by (fun _ k => XS.iload X8.here hx rfl (hb hby at_58) rfl k) ?_
  show OEnds p e below s _ _ _ (T8.setTop (mkF m 60 #[.val (.int q0), .val (.int q1), .val (.int q2), .val (.int q3), .val (.int q4), .val (.int xb), .val (.int c0), .val (.int c1), .val (.int c2), .val (.int c3), .val (.ref nb6), .unset, .unset, .unset, .unset, .unset, .unset, .unset, .unset, .unset] [(.int c1), (.ref nb6)]))
  obtain ⟨v9, T9, L9, h9, X9, e9, hQ9, st9⟩ := own_callV X8 hx hZ (y := (⟨"com/example/boughcheck/boughcheck/DoctypeScan$Lines", "take", "(C)V"⟩ : MethodName)) hown (hw _ (List.mem_of_getElem? (i := 15) rfl)) (hw _ (List.mem_of_getElem? (i := 16) rfl)) (hw _ (List.mem_of_getElem? (i := 18) rfl)) (hw _ (List.mem_of_getElem? (i := 17) rfl)) (hw _ (List.mem_of_getElem? (i := 19) rfl)) (hw _ (List.mem_of_getElem? (i := 6) rfl)) (by decide) O8.exa (rm_take l Z a0 hw [] nb6 c1 (linit_xml11 xb) (take_column c0 (linit_xml11 xb) (0 : Int64) (0 : Int32)) (take_afterCarriageReturn c0 (linit_xml11 xb)) (take_ends c0 (linit_xml11 xb) (0 : Int32) (0 : Int64)) h8 n0 Z8 O8 g_nb6) e8 (g := (mkF m 60 #[.val (.int q0), .val (.int q1), .val (.int q2), .val (.int q3), .val (.int q4), .val (.int xb), .val (.int c0), .val (.int c1), .val (.int c2), .val (.int c3), .val (.ref nb6), .unset, .unset, .unset, .unset, .unset, .unset, .unset, .unset, .unset] [(.int c1), (.ref nb6)])) rfl (by rw [hml]; rfl) (argsL := [(.int c1)]) (rest := []) (lenOf pd_pCrV rfl) rfl (W := 0) (by show 2 * 0 + _ ≤ _; exact Nat.le_of_eq rfl) (hb hby at_60) (by decide) (by decide) (by decide) (by decide)
  obtain ⟨rfl, Nq9, Kq9, O9⟩ := hQ9
  have N9 := Fr.app N8 Nq9
  have Z9 : n0 ≤ h9.size := Nat.le_trans Z8 Kq9.1
  refine own_tr st9 ?_
  show OEnds p e below s _ _ _ (T9.setTop (mkF m 63 #[.val (.int q0), .val (.int q1), .val (.int q2), .val (.int q3), .val (.int q4), .val (.int xb), .val (.int c0), .val (.int c1), .val (.int c2), .val (.int c3), .val (.ref nb6), .unset, .unset, .unset, .unset, .unset, .unset, .unset, .unset, .unset] []))
  obtain ⟨co2, eco2⟩ : ∃ z, z = (take_column c1 (linit_xml11 xb) (take_column c0 (linit_xml11 xb) (0 : Int64) (0 : Int32)) (take_afterCarriageReturn c0 (linit_xml11 xb))) := ⟨_, rfl⟩
  rw [← eco2] at O9
  obtain ⟨en2, een2⟩ : ∃ z, z = (take_ends c1 (linit_xml11 xb) (take_afterCarriageReturn c0 (linit_xml11 xb)) (take_ends c0 (linit_xml11 xb) (0 : Int32) (0 : Int64))) := ⟨_, rfl⟩
  rw [← een2] at O9
  show OEnds p e below s _ _ _ (T9.setTop (mkF m 63 #[.val (.int q0), .val (.int q1), .val (.int q2), .val (.int q3), .val (.int q4), .val (.int xb), .val (.int c0), .val (.int c1), .val (.int c2), .val (.int c3), .val (.ref nb6), .unset, .unset, .unset, .unset, .unset, .unset, .unset, .unset, .unset] []))
  refine own_by (fun _ k => XS.lconst X9.here hx rfl (hb hby at_63) k) ?_
  show OEnds p e below s _ _ _ (T9.setTop (mkF m 64 #[.val (.int q0), .val (.int q1), .val (.int q2), .val (.int q3), .val (.int q4), .val (.int xb), .val (.int c0), .val (.int c1), .val (.int c2), .val (.int c3), .val (.ref nb6), .unset, .unset, .unset, .unset, .unset, .unset, .unset, .unset, .unset] [(.long (1 : Int64))]))
  refine own_by (fun _ k => XS.iconst X9.here hx rfl (hb hby at_64) k) ?_
  show OEnds p e below s _ _ _ (T9.setTop (mkF m 65 #[.val (.int q0), .val (.int q1), .val (.int q2), .val (.int q3), .val (.int q4), .val (.int xb), .val (.int c0), .val (.int c1), .val (.int c2), .val (.int c3), .val (.ref nb6), .unset, .unset, .unset, .unset, .unset, .unset, .unset, .unset, .unset] [(.int (0 : Int32)), (.long (1 : Int64))]))
  refine own_by (fun _ k => XS.iload X9.here hx rfl (hb hby at_65) rfl k) ?_
  show OEnds p e below s _ _ _ (T9.setTop (mkF m 67 #[.val (.int q0), .val (.int q1), .val (.int q2), .val (.int q3), .val (.int q4), .val (.int xb), .val (.int c0), .val (.int c1), .val (.int c2), .val (.int c3), .val (.ref nb6), .unset, .unset, .unset, .unset, .unset, .unset, .unset, .unset, .unset] [(.int c0), (.int (0 : Int32)), (.long (1 : Int64))]))
  refine own_by (fun _ k => XS.iload X9.here hx rfl (hb hby at_67) rfl k) ?_
  show OEnds p e below s _ _ _ (T9.setTop (mkF m 69 #[.val (.int q0), .val (.int q1), .val (.int q2), .val (.int q3), .val (.int q4), .val (.int xb), .val (.int c0), .val (.int c1), .val (.int c2), .val (.int c3), .val (.ref nb6), .unset, .unset, .unset, .unset, .unset, .unset, .unset, .unset, .unset] [(.int xb), (.int c0), (.int (0 : Int32)), (.long (1 : Int64))]))
  obtain ⟨T10, X10, e10, st10⟩ := own_callP X9 hx hZ (y := (⟨"com/example/boughcheck/boughcheck/LinesTakePinLaw", "endsLine", "(ZCZ)J"⟩ : MethodName)) hown (hw _ (List.mem_of_getElem? (i := 24) rfl)) (hw _ (List.mem_of_getElem? (i := 25) rfl)) (hw _ (List.mem_of_getElem? (i := 2) rfl)) (hw _ (List.mem_of_getElem? (i := 26) rfl)) (by decide) (rm_endsLine l Z a0 hw [] (0 : Int32) c0 xb h9) e9 (g := (mkF m 69 #[.val (.int q0), .val (.int q1), .val (.int q2), .val (.int q3), .val (.int q4), .val (.int xb), .val (.int c0), .val (.int c1), .val (.int c2), .val (.int c3), .val (.ref nb6), .unset, .unset, .unset, .unset, .unset, .unset, .unset, .unset, .unset] [(.int xb), (.int c0), (.int (0 : Int32)), (.long (1 : Int64))])) rfl (by rw [hml]; rfl) (argsL := [(.int (0 : Int32)), (.int c0), (.int xb)]) (rest := [(.long (1 : Int64))]) (lenOf pd_pZCZrJ rfl) rfl (W := 2) (by show 2 * 0 + _ ≤ _; exact Nat.le_of_eq rfl) (hb hby at_69) (by decide) (by decide) (by decide) (by decide)
  refine own_by (st10) ?_
  show OEnds p e below s _ _ _ (T10.setTop (mkF m 72 #[.val (.int q0), .val (.int q1), .val (.int q2), .val (.int q3), .val (.int q4), .val (.int xb), .val (.int c0), .val (.int c1), .val (.int c2), .val (.int c3), .val (.ref nb6), .unset, .unset, .unset, .unset, .unset, .unset, .unset, .unset, .unset] [(.long (endsLine (0 : Int32) c0 xb)), (.long (1 : Int64))]))
  refine own_by (fun _ k => XS.ladd X10.here hx rfl (hb hby at_72) rfl k) ?_
  show OEnds p e below s _ _ _ (T10.setTop (mkF m 73 #[.val (.int q0), .val (.int q1), .val (.int q2), .val (.int q3), .val (.int q4), .val (.int xb), .val (.int c0), .val (.int c1), .val (.int c2), .val (.int c3), .val (.ref nb6), .unset, .unset, .unset, .unset, .unset, .unset, .unset, .unset, .unset] [(.long ((1 : Int64) + (endsLine (0 : Int32) c0 xb)))]))
  refine own_by (fun _ k => XS.iload X10.here hx rfl (hb hby at_73) rfl k) ?_
  show OEnds p e below s _ _ _ (T10.setTop (mkF m 75 #[.val (.int q0), .val (.int q1), .val (.int q2), .val (.int q3), .val (.int q4), .val (.int xb), .val (.int c0), .val (.int c1), .val (.int c2), .val (.int c3), .val (.ref nb6), .unset, .unset, .unset, .unset, .unset, .unset, .unset, .unset, .unset] [(.int c0), (.long ((1 : Int64) + (endsLine (0 : Int32) c0 xb)))]))
  refine own_by (fun _ k => XS.bipush X10.here hx rfl (hb hby at_75) k) ?_
  show OEnds p e below s _ _ _ (T10.setTop (mkF m 77 #[.val (.int q0), .val (.int q1), .val (.int q2), .val (.int q3), .val (.int q4), .val (.int xb), .val (.int c0), .val (.int c1), .val (.int c2), .val (.int c3), .val (.ref nb6), .unset, .unset, .unset, .unset, .unset, .unset, .unset, .unset, .unset] [(.int (13 : Int32)), (.int c0), (.long ((1 : Int64) + (endsLine (0 : Int32) c0 xb)))]))
  refine own_by (S' := T10.setTop (mkF m 85 #[.val (.int q0), .val (.int q1), .val (.int q2), .val (.int q3), .val (.int q4), .val (.int xb), .val (.int c0), .val (.int c1), .val (.int c2), .val (.int c3), .val (.ref nb6), .unset, .unset, .unset, .unset, .unset, .unset, .unset, .unset, .unset] [(.int (if c0 = (13 : Int32) then (1 : Int32) else (0 : Int32))), (.long ((1 : Int64) + (endsLine (0 : Int32) c0 xb)))])) (fun t k => ?_) ?_
  · by_cases hc77_11 : c0 = (13 : Int32)
    · rw [if_pos hc77_11] at k
      refine XS.icmpNo X10.here hx rfl (hb hby at_77) rfl (teq hc77_11).2 ?_
      show Steps p.tables e below (T10.setTop (mkF m 80 #[.val (.int q0), .val (.int q1), .val (.int q2), .val (.int q3), .val (.int q4), .val (.int xb), .val (.int c0), .val (.int c1), .val (.int c2), .val (.int c3), .val (.ref nb6), .unset, .unset, .unset, .unset, .unset, .unset, .unset, .unset, .unset] [(.long ((1 : Int64) + (endsLine (0 : Int32) c0 xb)))])) t
      refine XS.iconst X10.here hx rfl (hb hby at_80) ?_
      show Steps p.tables e below (T10.setTop (mkF m 81 #[.val (.int q0), .val (.int q1), .val (.int q2), .val (.int q3), .val (.int q4), .val (.int xb), .val (.int c0), .val (.int c1), .val (.int c2), .val (.int c3), .val (.ref nb6), .unset, .unset, .unset, .unset, .unset, .unset, .unset, .unset, .unset] [(.int (1 : Int32)), (.long ((1 : Int64) + (endsLine (0 : Int32) c0 xb)))])) t
      refine XS.goto X10.here hx rfl (pc0 := 81) (pc' := 85) rfl (hb hby at_81) (by decide) (by decide) ?_
      show Steps p.tables e below (T10.setTop (mkF m 85 #[.val (.int q0), .val (.int q1), .val (.int q2), .val (.int q3), .val (.int q4), .val (.int xb), .val (.int c0), .val (.int c1), .val (.int c2), .val (.int c3), .val (.ref nb6), .unset, .unset, .unset, .unset, .unset, .unset, .unset, .unset, .unset] [(.int (1 : Int32)), (.long ((1 : Int64) + (endsLine (0 : Int32) c0 xb)))])) t
      exact k
    · rw [if_neg hc77_11] at k
      refine XS.icmpYes X10.here hx rfl (pc0 := 77) (pc' := 84) rfl (hb hby at_77) rfl (feq hc77_11).2 (by decide) (by decide) ?_
      show Steps p.tables e below (T10.setTop (mkF m 84 #[.val (.int q0), .val (.int q1), .val (.int q2), .val (.int q3), .val (.int q4), .val (.int xb), .val (.int c0), .val (.int c1), .val (.int c2), .val (.int c3), .val (.ref nb6), .unset, .unset, .unset, .unset, .unset, .unset, .unset, .unset, .unset] [(.long ((1 : Int64) + (endsLine (0 : Int32) c0 xb)))])) t
      refine XS.iconst X10.here hx rfl (hb hby at_84) ?_
      show Steps p.tables e below (T10.setTop (mkF m 85 #[.val (.int q0), .val (.int q1), .val (.int q2), .val (.int q3), .val (.int q4), .val (.int xb), .val (.int c0), .val (.int c1), .val (.int c2), .val (.int c3), .val (.ref nb6), .unset, .unset, .unset, .unset, .unset, .unset, .unset, .unset, .unset] [(.int (0 : Int32)), (.long ((1 : Int64) + (endsLine (0 : Int32) c0 xb)))])) t
      exact k
  show OEnds p e below s _ _ _ (T10.setTop (mkF m 85 #[.val (.int q0), .val (.int q1), .val (.int q2), .val (.int q3), .val (.int q4), .val (.int xb), .val (.int c0), .val (.int c1), .val (.int c2), .val (.int c3), .val (.ref nb6), .unset, .unset, .unset, .unset, .unset, .unset, .unset, .unset, .unset] [(.int (if c0 = (13 : Int32) then (1 : Int32) else (0 : Int32))), (.long ((1 : Int64) + (endsLine (0 : Int32) c0 xb)))]))
  refine own_by (fun _ k => XS.iload X10.here hx rfl (hb hby at_85) rfl k) ?_
  show OEnds p e below s _ _ _ (T10.setTop (mkF m 87 #[.val (.int q0), .val (.int q1), .val (.int q2), .val (.int q3), .val (.int q4), .val (.int xb), .val (.int c0), .val (.int c1), .val (.int c2), .val (.int c3), .val (.ref nb6), .unset, .unset, .unset, .unset, .unset, .unset, .unset, .unset, .unset] [(.int c1), (.int (if c0 = (13 : Int32) then (1 : Int32) else (0 : Int32))), (.long ((1 : Int64) + (endsLine (0 : Int32) c0 xb)))]))
  refine own_by (fun _ k => XS.iload X10.here hx rfl (hb hby at_87) rfl k) ?_
  show OEnds p e below s _ _ _ (T10.setTop (mkF m 89 #[.val (.int q0), .val (.int q1), .val (.int q2), .val (.int q3), .val (.int q4), .val (.int xb), .val (.int c0), .val (.int c1), .val (.int c2), .val (.int c3), .val (.ref nb6), .unset, .unset, .unset, .unset, .unset, .unset, .unset, .unset, .unset] [(.int xb), (.int c1), (.int (if c0 = (13 : Int32) then (1 : Int32) else (0 : Int32))), (.long ((1 : Int64) + (endsLine (0 : Int32) c0 xb)))]))
  obtain ⟨T12, X12, e12, st12⟩ := own_callP X10 hx hZ (y := (⟨"com/example/boughcheck/boughcheck/LinesTakePinLaw", "endsLine", "(ZCZ)J"⟩ : MethodName)) hown (hw _ (List.mem_of_getElem? (i := 24) rfl)) (hw _ (List.mem_of_getElem? (i := 25) rfl)) (hw _ (List.mem_of_getElem? (i := 2) rfl)) (hw _ (List.mem_of_getElem? (i := 26) rfl)) (by decide) (rm_endsLine l Z a0 hw [] (if c0 = (13 : Int32) then (1 : Int32) else (0 : Int32)) c1 xb h9) e10 (g := (mkF m 89 #[.val (.int q0), .val (.int q1), .val (.int q2), .val (.int q3), .val (.int q4), .val (.int xb), .val (.int c0), .val (.int c1), .val (.int c2), .val (.int c3), .val (.ref nb6), .unset, .unset, .unset, .unset, .unset, .unset, .unset, .unset, .unset] [(.int xb), (.int c1), (.int (if c0 = (13 : Int32) then (1 : Int32) else (0 : Int32))), (.long ((1 : Int64) + (endsLine (0 : Int32) c0 xb)))])) rfl (by rw [hml]; rfl) (argsL := [(.int (if c0 = (13 : Int32) then (1 : Int32) else (0 : Int32))), (.int c1), (.int xb)]) (rest := [(.long ((1 : Int64) + (endsLine (0 : Int32) c0 xb)))]) (lenOf pd_pZCZrJ rfl) rfl (W := 2) (by show 2 * 0 + _ ≤ _; exact Nat.le_of_eq rfl) (hb hby at_89) (by decide) (by decide) (by decide) (by decide)
  refine own_by (st12) ?_
  show OEnds p e below s _ _ _ (T12.setTop (mkF m 92 #[.val (.int q0), .val (.int q1), .val (.int q2), .val (.int q3), .val (.int q4), .val (.int xb), .val (.int c0), .val (.int c1), .val (.int c2), .val (.int c3), .val (.ref nb6), .unset, .unset, .unset, .unset, .unset, .unset, .unset, .unset, .unset] [(.long (endsLine (if c0 = (13 : Int32) then (1 : Int32) else (0 : Int32)) c1 xb)), (.long ((1 : Int64) + (endsLine (0 : Int32) c0 xb)))]))
  refine own_by (fun _ k => XS.ladd X12.here hx rfl (hb hby at_92) rfl k) ?_
  show OEnds p e below s _ _ _ (T12.setTop (mkF m 93 #[.val (.int q0), .val (.int q1), .val (.int q2), .val (.int q3), .val (.int q4), .val (.int xb), .val (.int c0), .val (.int c1), .val (.int c2), .val (.int c3), .val (.ref nb6), .unset, .unset, .unset, .unset, .unset, .unset, .unset, .unset, .unset] [(.long (((1 : Int64) + (endsLine (0 : Int32) c0 xb)) + (endsLine (if c0 = (13 : Int32) then (1 : Int32) else (0 : Int32)) c1 xb)))]))
  refine own_by (fun _ k => XS.lstore X12.here hx rfl (hb hby at_93) rfl (l' := #[.val (.int q0), .val (.int q1), .val (.int q2), .val (.int q3), .val (.int q4), .val (.int xb), .val (.int c0), .val (.int c1), .val (.int c2), .val (.int c3), .val (.ref nb6), .val (.long (((1 : Int64) + (endsLine (0 : Int32) c0 xb)) + (endsLine (if c0 = (13 : Int32) then (1 : Int32) else (0 : Int32)) c1 xb))), .second, .unset, .unset, .unset, .unset, .unset, .unset, .unset]) rfl k) ?_
  show OEnds p e below s _ _ _ (T12.setTop (mkF m 95 #[.val (.int q0), .val (.int q1), .val (.int q2), .val (.int q3), .val (.int q4), .val (.int xb), .val (.int c0), .val (.int c1), .val (.int c2), .val (.int c3), .val (.ref nb6), .val (.long (((1 : Int64) + (endsLine (0 : Int32) c0 xb)) + (endsLine (if c0 = (13 : Int32) then (1 : Int32) else (0 : Int32)) c1 xb))), .second, .unset, .unset, .unset, .unset, .unset, .unset, .unset] []))
  obtain ⟨ln2, eln2⟩ : ∃ z, z = (((1 : Int64) + (endsLine (0 : Int32) c0 xb)) + (endsLine (if c0 = (13 : Int32) then (1 : Int32) else (0 : Int32)) c1 xb)) := ⟨_, rfl⟩
  rw [← eln2]
  have bl132 : ∀ (T : State) (lo : List Loc) (cl2 : Int64) (X_bl132 : Stand p l e room_1 s m #[(.int q0), (.int q1), (.int q2), (.int q3), (.int q4)] below meth c T lo 1 4) (e_bl132 : T.heap = h9) (N_bl132 : Fr n0 lo) (hcl2 : cl2 = if (breaks c1 xb) = (0 : Int32) then if (breaks c0 xb) = (0 : Int32) then (2 : Int64) else (1 : Int64) else (0 : Int64)), OEnds p e below s (QL n0) room_1.cells room_1.slots (T.setTop (mkF m 132 #[.val (.int q0), .val (.int q1), .val (.int q2), .val (.int q3), .val (.int q4), .val (.int xb), .val (.int c0), .val (.int c1), .val (.int c2), .val (.int c3), .val (.ref nb6), .val (.long ln2), .second, .val (.long cl2), .second, .unset, .unset, .unset, .unset, .unset] [])) := by
    intro T lo cl2 X_bl132 e_bl132 N_bl132 hcl2
    show OEnds p e below s _ _ _ (T.setTop (mkF m 132 #[.val (.int q0), .val (.int q1), .val (.int q2), .val (.int q3), .val (.int q4), .val (.int xb), .val (.int c0), .val (.int c1), .val (.int c2), .val (.int c3), .val (.ref nb6), .val (.long ln2), .second, .val (.long cl2), .second, .unset, .unset, .unset, .unset, .unset] []))
    refine own_by (fun _ k => XS.aload X_bl132.here hx rfl (hb hby at_132) rfl rfl k) ?_
    show OEnds p e below s _ _ _ (T.setTop (mkF m 134 #[.val (.int q0), .val (.int q1), .val (.int q2), .val (.int q3), .val (.int q4), .val (.int xb), .val (.int c0), .val (.int c1), .val (.int c2), .val (.int c3), .val (.ref nb6), .val (.long ln2), .second, .val (.long cl2), .second, .unset, .unset, .unset, .unset, .unset] [(.ref nb6)]))
    obtain ⟨T13, X13, e13, st13⟩ := own_callR X_bl132 hx hZ (y := (⟨"com/example/boughcheck/boughcheck/DoctypeScan$Lines", "line", "()J"⟩ : MethodName)) hown (hw _ (List.mem_of_getElem? (i := 31) rfl)) (hw _ (List.mem_of_getElem? (i := 32) rfl)) (hw _ (List.mem_of_getElem? (i := 34) rfl)) (hw _ (List.mem_of_getElem? (i := 33) rfl)) (hw _ (List.mem_of_getElem? (i := 35) rfl)) (hw _ (List.mem_of_getElem? (i := 6) rfl)) (by decide) O9.exa (rm_lline l Z a0 hw [] nb6 (linit_xml11 xb) co2 (take_afterCarriageReturn c1 (linit_xml11 xb)) en2 h9 n0 Z9 O9) e_bl132 (g := (mkF m 134 #[.val (.int q0), .val (.int q1), .val (.int q2), .val (.int q3), .val (.int q4), .val (.int xb), .val (.int c0), .val (.int c1), .val (.int c2), .val (.int c3), .val (.ref nb6), .val (.long ln2), .second, .val (.long cl2), .second, .unset, .unset, .unset, .unset, .unset] [(.ref nb6)])) rfl (by rw [hml]; rfl) (argsL := []) (rest := []) (lenOf pd_prJ rfl) rfl (W := 0) (by show 2 * 0 + _ ≤ _; exact Nat.le_of_eq rfl) (hb hby at_134) (by decide) (by decide) (by decide) (by decide)
    refine own_by (st13) ?_
    show OEnds p e below s _ _ _ (T13.setTop (mkF m 137 #[.val (.int q0), .val (.int q1), .val (.int q2), .val (.int q3), .val (.int q4), .val (.int xb), .val (.int c0), .val (.int c1), .val (.int c2), .val (.int c3), .val (.ref nb6), .val (.long ln2), .second, .val (.long cl2), .second, .unset, .unset, .unset, .unset, .unset] [(.long (lline_r en2))]))
    refine own_by (fun _ k => XS.lload X13.here hx rfl (hb hby at_137) rfl k) ?_
    show OEnds p e below s _ _ _ (T13.setTop (mkF m 139 #[.val (.int q0), .val (.int q1), .val (.int q2), .val (.int q3), .val (.int q4), .val (.int xb), .val (.int c0), .val (.int c1), .val (.int c2), .val (.int c3), .val (.ref nb6), .val (.long ln2), .second, .val (.long cl2), .second, .unset, .unset, .unset, .unset, .unset] [(.long ln2), (.long (lline_r en2))]))
    refine own_by (fun _ k => XS.lcmp X13.here hx rfl (hb hby at_139) rfl k) ?_
    show OEnds p e below s _ _ _ (T13.setTop (mkF m 140 #[.val (.int q0), .val (.int q1), .val (.int q2), .val (.int q3), .val (.int q4), .val (.int xb), .val (.int c0), .val (.int c1), .val (.int c2), .val (.int c3), .val (.ref nb6), .val (.long ln2), .second, .val (.long cl2), .second, .unset, .unset, .unset, .unset, .unset] [(.int (lcmpW (lline_r en2) ln2))]))
    refine own_by (fun _ k => XS.ifNo X13.here hx rfl (hb hby at_140) rfl ((if0 _ _).trans (teq ((lw_eq _ _).mpr (pl_line2 hxb een2 eln2))).2) k) ?_
    show OEnds p e below s _ _ _ (T13.setTop (mkF m 143 #[.val (.int q0), .val (.int q1), .val (.int q2), .val (.int q3), .val (.int q4), .val (.int xb), .val (.int c0), .val (.int c1), .val (.int c2), .val (.int c3), .val (.ref nb6), .val (.long ln2), .second, .val (.long cl2), .second, .unset, .unset, .unset, .unset, .unset] []))
    refine own_by (fun _ k => XS.aload X13.here hx rfl (hb hby at_143) rfl rfl k) ?_
    show OEnds p e below s _ _ _ (T13.setTop (mkF m 145 #[.val (.int q0), .val (.int q1), .val (.int q2), .val (.int q3), .val (.int q4), .val (.int xb), .val (.int c0), .val (.int c1), .val (.int c2), .val (.int c3), .val (.ref nb6), .val (.long ln2), .second, .val (.long cl2), .second, .unset, .unset, .unset, .unset, .unset] [(.ref nb6)]))
    obtain ⟨T14, X14, e14, st14⟩ := own_callR X13 hx hZ (y := (⟨"com/example/boughcheck/boughcheck/DoctypeScan$Lines", "columns", "()J"⟩ : MethodName)) hown (hw _ (List.mem_of_getElem? (i := 38) rfl)) (hw _ (List.mem_of_getElem? (i := 39) rfl)) (hw _ (List.mem_of_getElem? (i := 41) rfl)) (hw _ (List.mem_of_getElem? (i := 40) rfl)) (hw _ (List.mem_of_getElem? (i := 42) rfl)) (hw _ (List.mem_of_getElem? (i := 6) rfl)) (by decide) O9.exa (rm_lcols l Z a0 hw [] nb6 (linit_xml11 xb) co2 (take_afterCarriageReturn c1 (linit_xml11 xb)) en2 h9 n0 Z9 O9) e13 (g := (mkF m 145 #[.val (.int q0), .val (.int q1), .val (.int q2), .val (.int q3), .val (.int q4), .val (.int xb), .val (.int c0), .val (.int c1), .val (.int c2), .val (.int c3), .val (.ref nb6), .val (.long ln2), .second, .val (.long cl2), .second, .unset, .unset, .unset, .unset, .unset] [(.ref nb6)])) rfl (by rw [hml]; rfl) (argsL := []) (rest := []) (lenOf pd_prJ rfl) rfl (W := 0) (by show 2 * 0 + _ ≤ _; exact Nat.le_of_eq rfl) (hb hby at_145) (by decide) (by decide) (by decide) (by decide)
    refine own_by (st14) ?_
    show OEnds p e below s _ _ _ (T14.setTop (mkF m 148 #[.val (.int q0), .val (.int q1), .val (.int q2), .val (.int q3), .val (.int q4), .val (.int xb), .val (.int c0), .val (.int c1), .val (.int c2), .val (.int c3), .val (.ref nb6), .val (.long ln2), .second, .val (.long cl2), .second, .unset, .unset, .unset, .unset, .unset] [(.long (lcols_r co2))]))
    refine own_by (fun _ k => XS.lload X14.here hx rfl (hb hby at_148) rfl k) ?_
    show OEnds p e below s _ _ _ (T14.setTop (mkF m 150 #[.val (.int q0), .val (.int q1), .val (.int q2), .val (.int q3), .val (.int q4), .val (.int xb), .val (.int c0), .val (.int c1), .val (.int c2), .val (.int c3), .val (.ref nb6), .val (.long ln2), .second, .val (.long cl2), .second, .unset, .unset, .unset, .unset, .unset] [(.long cl2), (.long (lcols_r co2))]))
    refine own_by (fun _ k => XS.lcmp X14.here hx rfl (hb hby at_150) rfl k) ?_
    show OEnds p e below s _ _ _ (T14.setTop (mkF m 151 #[.val (.int q0), .val (.int q1), .val (.int q2), .val (.int q3), .val (.int q4), .val (.int xb), .val (.int c0), .val (.int c1), .val (.int c2), .val (.int c3), .val (.ref nb6), .val (.long ln2), .second, .val (.long cl2), .second, .unset, .unset, .unset, .unset, .unset] [(.int (lcmpW (lcols_r co2) cl2))]))
    refine own_by (fun _ k => XS.ifNo X14.here hx rfl (hb hby at_151) rfl ((if0 _ _).trans (teq ((lw_eq _ _).mpr (pl_col2 hxb eco2 hcl2))).2) k) ?_
    show OEnds p e below s _ _ _ (T14.setTop (mkF m 154 #[.val (.int q0), .val (.int q1), .val (.int q2), .val (.int q3), .val (.int q4), .val (.int xb), .val (.int c0), .val (.int c1), .val (.int c2), .val (.int c3), .val (.ref nb6), .val (.long ln2), .second, .val (.long cl2), .second, .unset, .unset, .unset, .unset, .unset] []))
    refine own_by (fun _ k => XS.iconst X14.here hx rfl (hb hby at_154) k) ?_
    show OEnds p e below s _ _ _ (T14.setTop (mkF m 155 #[.val (.int q0), .val (.int q1), .val (.int q2), .val (.int q3), .val (.int q4), .val (.int xb), .val (.int c0), .val (.int c1), .val (.int c2), .val (.int c3), .val (.ref nb6), .val (.long ln2), .second, .val (.long cl2), .second, .unset, .unset, .unset, .unset, .unset] [(.int (1 : Int32))]))
    refine own_by (fun _ k => XS.goto X14.here hx rfl (pc0 := 155) (pc' := 159) rfl (hb hby at_155) (by decide) (by decide) k) ?_
    show OEnds p e below s _ _ _ (T14.setTop (mkF m 159 #[.val (.int q0), .val (.int q1), .val (.int q2), .val (.int q3), .val (.int q4), .val (.int xb), .val (.int c0), .val (.int c1), .val (.int c2), .val (.int c3), .val (.ref nb6), .val (.long ln2), .second, .val (.long cl2), .second, .unset, .unset, .unset, .unset, .unset] [(.int (1 : Int32))]))
    refine own_by (fun _ k => XS.istore X14.here hx rfl (hb hby at_159) rfl (l' := #[.val (.int q0), .val (.int q1), .val (.int q2), .val (.int q3), .val (.int q4), .val (.int xb), .val (.int c0), .val (.int c1), .val (.int c2), .val (.int c3), .val (.ref nb6), .val (.long ln2), .second, .val (.long cl2), .second, .val (.int (1 : Int32)), .unset, .unset, .unset, .unset]) rfl k) ?_
    show OEnds p e below s _ _ _ (T14.setTop (mkF m 161 #[.val (.int q0), .val (.int q1), .val (.int q2), .val (.int q3), .val (.int q4), .val (.int xb), .val (.int c0), .val (.int c1), .val (.int c2), .val (.int c3), .val (.ref nb6), .val (.long ln2), .second, .val (.long cl2), .second, .val (.int (1 : Int32)), .unset, .unset, .unset, .unset] []))
    refine own_by (fun _ k => XS.aload X14.here hx rfl (hb hby at_161) rfl rfl k) ?_
    show OEnds p e below s _ _ _ (T14.setTop (mkF m 163 #[.val (.int q0), .val (.int q1), .val (.int q2), .val (.int q3), .val (.int q4), .val (.int xb), .val (.int c0), .val (.int c1), .val (.int c2), .val (.int c3), .val (.ref nb6), .val (.long ln2), .second, .val (.long cl2), .second, .val (.int (1 : Int32)), .unset, .unset, .unset, .unset] [(.ref nb6)]))
    refine own_by (fun _ k => XS.iload X14.here hx rfl (hb hby at_163) rfl k) ?_
    show OEnds p e below s _ _ _ (T14.setTop (mkF m 165 #[.val (.int q0), .val (.int q1), .val (.int q2), .val (.int q3), .val (.int q4), .val (.int xb), .val (.int c0), .val (.int c1), .val (.int c2), .val (.int c3), .val (.ref nb6), .val (.long ln2), .second, .val (.long cl2), .second, .val (.int (1 : Int32)), .unset, .unset, .unset, .unset] [(.int c2), (.ref nb6)]))
    obtain ⟨v15, T15, L15, h15, X15, e15, hQ15, st15⟩ := own_callV X14 hx hZ (y := (⟨"com/example/boughcheck/boughcheck/DoctypeScan$Lines", "take", "(C)V"⟩ : MethodName)) hown (hw _ (List.mem_of_getElem? (i := 15) rfl)) (hw _ (List.mem_of_getElem? (i := 16) rfl)) (hw _ (List.mem_of_getElem? (i := 18) rfl)) (hw _ (List.mem_of_getElem? (i := 17) rfl)) (hw _ (List.mem_of_getElem? (i := 19) rfl)) (hw _ (List.mem_of_getElem? (i := 6) rfl)) (by decide) O9.exa (rm_take l Z a0 hw [] nb6 c2 (linit_xml11 xb) co2 (take_afterCarriageReturn c1 (linit_xml11 xb)) en2 h9 n0 Z9 O9 g_nb6) e14 (g := (mkF m 165 #[.val (.int q0), .val (.int q1), .val (.int q2), .val (.int q3), .val (.int q4), .val (.int xb), .val (.int c0), .val (.int c1), .val (.int c2), .val (.int c3), .val (.ref nb6), .val (.long ln2), .second, .val (.long cl2), .second, .val (.int (1 : Int32)), .unset, .unset, .unset, .unset] [(.int c2), (.ref nb6)])) rfl (by rw [hml]; rfl) (argsL := [(.int c2)]) (rest := []) (lenOf pd_pCrV rfl) rfl (W := 0) (by show 2 * 0 + _ ≤ _; exact Nat.le_of_eq rfl) (hb hby at_165) (by decide) (by decide) (by decide) (by decide)
    obtain ⟨rfl, Nq15, Kq15, O15⟩ := hQ15
    have N15 := Fr.app N_bl132 Nq15
    have Z15 : n0 ≤ h15.size := Nat.le_trans Z9 Kq15.1
    refine own_tr st15 ?_
    show OEnds p e below s _ _ _ (T15.setTop (mkF m 168 #[.val (.int q0), .val (.int q1), .val (.int q2), .val (.int q3), .val (.int q4), .val (.int xb), .val (.int c0), .val (.int c1), .val (.int c2), .val (.int c3), .val (.ref nb6), .val (.long ln2), .second, .val (.long cl2), .second, .val (.int (1 : Int32)), .unset, .unset, .unset, .unset] []))
    refine own_by (fun _ k => XS.aload X15.here hx rfl (hb hby at_168) rfl rfl k) ?_
    show OEnds p e below s _ _ _ (T15.setTop (mkF m 170 #[.val (.int q0), .val (.int q1), .val (.int q2), .val (.int q3), .val (.int q4), .val (.int xb), .val (.int c0), .val (.int c1), .val (.int c2), .val (.int c3), .val (.ref nb6), .val (.long ln2), .second, .val (.long cl2), .second, .val (.int (1 : Int32)), .unset, .unset, .unset, .unset] [(.ref nb6)]))
    refine own_by (fun _ k => XS.iload X15.here hx rfl (hb hby at_170) rfl k) ?_
    show OEnds p e below s _ _ _ (T15.setTop (mkF m 172 #[.val (.int q0), .val (.int q1), .val (.int q2), .val (.int q3), .val (.int q4), .val (.int xb), .val (.int c0), .val (.int c1), .val (.int c2), .val (.int c3), .val (.ref nb6), .val (.long ln2), .second, .val (.long cl2), .second, .val (.int (1 : Int32)), .unset, .unset, .unset, .unset] [(.int c3), (.ref nb6)]))
    obtain ⟨v16, T16, L16, h16, X16, e16, hQ16, st16⟩ := own_callV X15 hx hZ (y := (⟨"com/example/boughcheck/boughcheck/DoctypeScan$Lines", "take", "(C)V"⟩ : MethodName)) hown (hw _ (List.mem_of_getElem? (i := 15) rfl)) (hw _ (List.mem_of_getElem? (i := 16) rfl)) (hw _ (List.mem_of_getElem? (i := 18) rfl)) (hw _ (List.mem_of_getElem? (i := 17) rfl)) (hw _ (List.mem_of_getElem? (i := 19) rfl)) (hw _ (List.mem_of_getElem? (i := 6) rfl)) (by decide) O15.exa (rm_take l Z a0 hw [] nb6 c3 (linit_xml11 xb) (take_column c2 (linit_xml11 xb) co2 (take_afterCarriageReturn c1 (linit_xml11 xb))) (take_afterCarriageReturn c2 (linit_xml11 xb)) (take_ends c2 (linit_xml11 xb) (take_afterCarriageReturn c1 (linit_xml11 xb)) en2) h15 n0 Z15 O15 g_nb6) e15 (g := (mkF m 172 #[.val (.int q0), .val (.int q1), .val (.int q2), .val (.int q3), .val (.int q4), .val (.int xb), .val (.int c0), .val (.int c1), .val (.int c2), .val (.int c3), .val (.ref nb6), .val (.long ln2), .second, .val (.long cl2), .second, .val (.int (1 : Int32)), .unset, .unset, .unset, .unset] [(.int c3), (.ref nb6)])) rfl (by rw [hml]; rfl) (argsL := [(.int c3)]) (rest := []) (lenOf pd_pCrV rfl) rfl (W := 0) (by show 2 * 0 + _ ≤ _; exact Nat.le_of_eq rfl) (hb hby at_172) (by decide) (by decide) (by decide) (by decide)
    obtain ⟨rfl, Nq16, Kq16, O16⟩ := hQ16
    have N16 := Fr.app N15 Nq16
    have Z16 : n0 ≤ h16.size := Nat.le_trans Z15 Kq16.1
    refine own_tr st16 ?_
    show OEnds p e below s _ _ _ (T16.setTop (mkF m 175 #[.val (.int q0), .val (.int q1), .val (.int q2), .val (.int q3), .val (.int q4), .val (.int xb), .val (.int c0), .val (.int c1), .val (.int c2), .val (.int c3), .val (.ref nb6), .val (.long ln2), .second, .val (.long cl2), .second, .val (.int (1 : Int32)), .unset, .unset, .unset, .unset] []))
    obtain ⟨co4, eco4⟩ : ∃ z, z = (take_column c3 (linit_xml11 xb) (take_column c2 (linit_xml11 xb) co2 (take_afterCarriageReturn c1 (linit_xml11 xb))) (take_afterCarriageReturn c2 (linit_xml11 xb))) := ⟨_, rfl⟩
    rw [← eco4] at O16
    obtain ⟨en4, een4⟩ : ∃ z, z = (take_ends c3 (linit_xml11 xb) (take_afterCarriageReturn c2 (linit_xml11 xb)) (take_ends c2 (linit_xml11 xb) (take_afterCarriageReturn c1 (linit_xml11 xb)) en2)) := ⟨_, rfl⟩
    rw [← een4] at O16
    show OEnds p e below s _ _ _ (T16.setTop (mkF m 175 #[.val (.int q0), .val (.int q1), .val (.int q2), .val (.int q3), .val (.int q4), .val (.int xb), .val (.int c0), .val (.int c1), .val (.int c2), .val (.int c3), .val (.ref nb6), .val (.long ln2), .second, .val (.long cl2), .second, .val (.int (1 : Int32)), .unset, .unset, .unset, .unset] []))
    refine own_by (fun _ k => XS.lload X16.here hx rfl (hb hby at_175) rfl k) ?_
    show OEnds p e below s _ _ _ (T16.setTop (mkF m 177 #[.val (.int q0), .val (.int q1), .val (.int q2), .val (.int q3), .val (.int q4), .val (.int xb), .val (.int c0), .val (.int c1), .val (.int c2), .val (.int c3), .val (.ref nb6), .val (.long ln2), .second, .val (.long cl2), .second, .val (.int (1 : Int32)), .unset, .unset, .unset, .unset] [(.long ln2)]))
    refine own_by (fun _ k => XS.iload X16.here hx rfl (hb hby at_177) rfl k) ?_
    show OEnds p e below s _ _ _ (T16.setTop (mkF m 179 #[.val (.int q0), .val (.int q1), .val (.int q2), .val (.int q3), .val (.int q4), .val (.int xb), .val (.int c0), .val (.int c1), .val (.int c2), .val (.int c3), .val (.ref nb6), .val (.long ln2), .second, .val (.long cl2), .second, .val (.int (1 : Int32)), .unset, .unset, .unset, .unset] [(.int c1), (.long ln2)]))
    refine own_by (fun _ k => XS.bipush X16.here hx rfl (hb hby at_179) k) ?_
    show OEnds p e below s _ _ _ (T16.setTop (mkF m 181 #[.val (.int q0), .val (.int q1), .val (.int q2), .val (.int q3), .val (.int q4), .val (.int xb), .val (.int c0), .val (.int c1), .val (.int c2), .val (.int c3), .val (.ref nb6), .val (.long ln2), .second, .val (.long cl2), .second, .val (.int (1 : Int32)), .unset, .unset, .unset, .unset] [(.int (13 : Int32)), (.int c1), (.long ln2)]))
    refine own_by (S' := T16.setTop (mkF m 189 #[.val (.int q0), .val (.int q1), .val (.int q2), .val (.int q3), .val (.int q4), .val (.int xb), .val (.int c0), .val (.int c1), .val (.int c2), .val (.int c3), .val (.ref nb6), .val (.long ln2), .second, .val (.long cl2), .second, .val (.int (1 : Int32)), .unset, .unset, .unset, .unset] [(.int (if c1 = (13 : Int32) then (1 : Int32) else (0 : Int32))), (.long ln2)])) (fun t k => ?_) ?_
    · by_cases hc181_17 : c1 = (13 : Int32)
      · rw [if_pos hc181_17] at k
        refine XS.icmpNo X16.here hx rfl (hb hby at_181) rfl (teq hc181_17).2 ?_
        show Steps p.tables e below (T16.setTop (mkF m 184 #[.val (.int q0), .val (.int q1), .val (.int q2), .val (.int q3), .val (.int q4), .val (.int xb), .val (.int c0), .val (.int c1), .val (.int c2), .val (.int c3), .val (.ref nb6), .val (.long ln2), .second, .val (.long cl2), .second, .val (.int (1 : Int32)), .unset, .unset, .unset, .unset] [(.long ln2)])) t
        refine XS.iconst X16.here hx rfl (hb hby at_184) ?_
        show Steps p.tables e below (T16.setTop (mkF m 185 #[.val (.int q0), .val (.int q1), .val (.int q2), .val (.int q3), .val (.int q4), .val (.int xb), .val (.int c0), .val (.int c1), .val (.int c2), .val (.int c3), .val (.ref nb6), .val (.long ln2), .second, .val (.long cl2), .second, .val (.int (1 : Int32)), .unset, .unset, .unset, .unset] [(.int (1 : Int32)), (.long ln2)])) t
        refine XS.goto X16.here hx rfl (pc0 := 185) (pc' := 189) rfl (hb hby at_185) (by decide) (by decide) ?_
        show Steps p.tables e below (T16.setTop (mkF m 189 #[.val (.int q0), .val (.int q1), .val (.int q2), .val (.int q3), .val (.int q4), .val (.int xb), .val (.int c0), .val (.int c1), .val (.int c2), .val (.int c3), .val (.ref nb6), .val (.long ln2), .second, .val (.long cl2), .second, .val (.int (1 : Int32)), .unset, .unset, .unset, .unset] [(.int (1 : Int32)), (.long ln2)])) t
        exact k
      · rw [if_neg hc181_17] at k
        refine XS.icmpYes X16.here hx rfl (pc0 := 181) (pc' := 188) rfl (hb hby at_181) rfl (feq hc181_17).2 (by decide) (by decide) ?_
        show Steps p.tables e below (T16.setTop (mkF m 188 #[.val (.int q0), .val (.int q1), .val (.int q2), .val (.int q3), .val (.int q4), .val (.int xb), .val (.int c0), .val (.int c1), .val (.int c2), .val (.int c3), .val (.ref nb6), .val (.long ln2), .second, .val (.long cl2), .second, .val (.int (1 : Int32)), .unset, .unset, .unset, .unset] [(.long ln2)])) t
        refine XS.iconst X16.here hx rfl (hb hby at_188) ?_
        show Steps p.tables e below (T16.setTop (mkF m 189 #[.val (.int q0), .val (.int q1), .val (.int q2), .val (.int q3), .val (.int q4), .val (.int xb), .val (.int c0), .val (.int c1), .val (.int c2), .val (.int c3), .val (.ref nb6), .val (.long ln2), .second, .val (.long cl2), .second, .val (.int (1 : Int32)), .unset, .unset, .unset, .unset] [(.int (0 : Int32)), (.long ln2)])) t
        exact k
    show OEnds p e below s _ _ _ (T16.setTop (mkF m 189 #[.val (.int q0), .val (.int q1), .val (.int q2), .val (.int q3), .val (.int q4), .val (.int xb), .val (.int c0), .val (.int c1), .val (.int c2), .val (.int c3), .val (.ref nb6), .val (.long ln2), .second, .val (.long cl2), .second, .val (.int (1 : Int32)), .unset, .unset, .unset, .unset] [(.int (if c1 = (13 : Int32) then (1 : Int32) else (0 : Int32))), (.long ln2)]))
    refine own_by (fun _ k => XS.iload X16.here hx rfl (hb hby at_189) rfl k) ?_
    show OEnds p e below s _ _ _ (T16.setTop (mkF m 191 #[.val (.int q0), .val (.int q1), .val (.int q2), .val (.int q3), .val (.int q4), .val (.int xb), .val (.int c0), .val (.int c1), .val (.int c2), .val (.int c3), .val (.ref nb6), .val (.long ln2), .second, .val (.long cl2), .second, .val (.int (1 : Int32)), .unset, .unset, .unset, .unset] [(.int c2), (.int (if c1 = (13 : Int32) then (1 : Int32) else (0 : Int32))), (.long ln2)]))
    refine own_by (fun _ k => XS.iload X16.here hx rfl (hb hby at_191) rfl k) ?_
    show OEnds p e below s _ _ _ (T16.setTop (mkF m 193 #[.val (.int q0), .val (.int q1), .val (.int q2), .val (.int q3), .val (.int q4), .val (.int xb), .val (.int c0), .val (.int c1), .val (.int c2), .val (.int c3), .val (.ref nb6), .val (.long ln2), .second, .val (.long cl2), .second, .val (.int (1 : Int32)), .unset, .unset, .unset, .unset] [(.int xb), (.int c2), (.int (if c1 = (13 : Int32) then (1 : Int32) else (0 : Int32))), (.long ln2)]))
    obtain ⟨T18, X18, e18, st18⟩ := own_callP X16 hx hZ (y := (⟨"com/example/boughcheck/boughcheck/LinesTakePinLaw", "endsLine", "(ZCZ)J"⟩ : MethodName)) hown (hw _ (List.mem_of_getElem? (i := 24) rfl)) (hw _ (List.mem_of_getElem? (i := 25) rfl)) (hw _ (List.mem_of_getElem? (i := 2) rfl)) (hw _ (List.mem_of_getElem? (i := 26) rfl)) (by decide) (rm_endsLine l Z a0 hw [] (if c1 = (13 : Int32) then (1 : Int32) else (0 : Int32)) c2 xb h16) e16 (g := (mkF m 193 #[.val (.int q0), .val (.int q1), .val (.int q2), .val (.int q3), .val (.int q4), .val (.int xb), .val (.int c0), .val (.int c1), .val (.int c2), .val (.int c3), .val (.ref nb6), .val (.long ln2), .second, .val (.long cl2), .second, .val (.int (1 : Int32)), .unset, .unset, .unset, .unset] [(.int xb), (.int c2), (.int (if c1 = (13 : Int32) then (1 : Int32) else (0 : Int32))), (.long ln2)])) rfl (by rw [hml]; rfl) (argsL := [(.int (if c1 = (13 : Int32) then (1 : Int32) else (0 : Int32))), (.int c2), (.int xb)]) (rest := [(.long ln2)]) (lenOf pd_pZCZrJ rfl) rfl (W := 2) (by show 2 * 0 + _ ≤ _; exact Nat.le_of_eq rfl) (hb hby at_193) (by decide) (by decide) (by decide) (by decide)
    refine own_by (st18) ?_
    show OEnds p e below s _ _ _ (T18.setTop (mkF m 196 #[.val (.int q0), .val (.int q1), .val (.int q2), .val (.int q3), .val (.int q4), .val (.int xb), .val (.int c0), .val (.int c1), .val (.int c2), .val (.int c3), .val (.ref nb6), .val (.long ln2), .second, .val (.long cl2), .second, .val (.int (1 : Int32)), .unset, .unset, .unset, .unset] [(.long (endsLine (if c1 = (13 : Int32) then (1 : Int32) else (0 : Int32)) c2 xb)), (.long ln2)]))
    refine own_by (fun _ k => XS.ladd X18.here hx rfl (hb hby at_196) rfl k) ?_
    show OEnds p e below s _ _ _ (T18.setTop (mkF m 197 #[.val (.int q0), .val (.int q1), .val (.int q2), .val (.int q3), .val (.int q4), .val (.int xb), .val (.int c0), .val (.int c1), .val (.int c2), .val (.int c3), .val (.ref nb6), .val (.long ln2), .second, .val (.long cl2), .second, .val (.int (1 : Int32)), .unset, .unset, .unset, .unset] [(.long (ln2 + (endsLine (if c1 = (13 : Int32) then (1 : Int32) else (0 : Int32)) c2 xb)))]))
    refine own_by (fun _ k => XS.iload X18.here hx rfl (hb hby at_197) rfl k) ?_
    show OEnds p e below s _ _ _ (T18.setTop (mkF m 199 #[.val (.int q0), .val (.int q1), .val (.int q2), .val (.int q3), .val (.int q4), .val (.int xb), .val (.int c0), .val (.int c1), .val (.int c2), .val (.int c3), .val (.ref nb6), .val (.long ln2), .second, .val (.long cl2), .second, .val (.int (1 : Int32)), .unset, .unset, .unset, .unset] [(.int c2), (.long (ln2 + (endsLine (if c1 = (13 : Int32) then (1 : Int32) else (0 : Int32)) c2 xb)))]))
    refine own_by (fun _ k => XS.bipush X18.here hx rfl (hb hby at_199) k) ?_
    show OEnds p e below s _ _ _ (T18.setTop (mkF m 201 #[.val (.int q0), .val (.int q1), .val (.int q2), .val (.int q3), .val (.int q4), .val (.int xb), .val (.int c0), .val (.int c1), .val (.int c2), .val (.int c3), .val (.ref nb6), .val (.long ln2), .second, .val (.long cl2), .second, .val (.int (1 : Int32)), .unset, .unset, .unset, .unset] [(.int (13 : Int32)), (.int c2), (.long (ln2 + (endsLine (if c1 = (13 : Int32) then (1 : Int32) else (0 : Int32)) c2 xb)))]))
    refine own_by (S' := T18.setTop (mkF m 209 #[.val (.int q0), .val (.int q1), .val (.int q2), .val (.int q3), .val (.int q4), .val (.int xb), .val (.int c0), .val (.int c1), .val (.int c2), .val (.int c3), .val (.ref nb6), .val (.long ln2), .second, .val (.long cl2), .second, .val (.int (1 : Int32)), .unset, .unset, .unset, .unset] [(.int (if c2 = (13 : Int32) then (1 : Int32) else (0 : Int32))), (.long (ln2 + (endsLine (if c1 = (13 : Int32) then (1 : Int32) else (0 : Int32)) c2 xb)))])) (fun t k => ?_) ?_
    · by_cases hc201_19 : c2 = (13 : Int32)
      · rw [if_pos hc201_19] at k
        refine XS.icmpNo X18.here hx rfl (hb hby at_201) rfl (teq hc201_19).2 ?_
        show Steps p.tables e below (T18.setTop (mkF m 204 #[.val (.int q0), .val (.int q1), .val (.int q2), .val (.int q3), .val (.int q4), .val (.int xb), .val (.int c0), .val (.int c1), .val (.int c2), .val (.int c3), .val (.ref nb6), .val (.long ln2), .second, .val (.long cl2), .second, .val (.int (1 : Int32)), .unset, .unset, .unset, .unset] [(.long (ln2 + (endsLine (if c1 = (13 : Int32) then (1 : Int32) else (0 : Int32)) c2 xb)))])) t
        refine XS.iconst X18.here hx rfl (hb hby at_204) ?_
        show Steps p.tables e below (T18.setTop (mkF m 205 #[.val (.int q0), .val (.int q1), .val (.int q2), .val (.int q3), .val (.int q4), .val (.int xb), .val (.int c0), .val (.int c1), .val (.int c2), .val (.int c3), .val (.ref nb6), .val (.long ln2), .second, .val (.long cl2), .second, .val (.int (1 : Int32)), .unset, .unset, .unset, .unset] [(.int (1 : Int32)), (.long (ln2 + (endsLine (if c1 = (13 : Int32) then (1 : Int32) else (0 : Int32)) c2 xb)))])) t
        refine XS.goto X18.here hx rfl (pc0 := 205) (pc' := 209) rfl (hb hby at_205) (by decide) (by decide) ?_
        show Steps p.tables e below (T18.setTop (mkF m 209 #[.val (.int q0), .val (.int q1), .val (.int q2), .val (.int q3), .val (.int q4), .val (.int xb), .val (.int c0), .val (.int c1), .val (.int c2), .val (.int c3), .val (.ref nb6), .val (.long ln2), .second, .val (.long cl2), .second, .val (.int (1 : Int32)), .unset, .unset, .unset, .unset] [(.int (1 : Int32)), (.long (ln2 + (endsLine (if c1 = (13 : Int32) then (1 : Int32) else (0 : Int32)) c2 xb)))])) t
        exact k
      · rw [if_neg hc201_19] at k
        refine XS.icmpYes X18.here hx rfl (pc0 := 201) (pc' := 208) rfl (hb hby at_201) rfl (feq hc201_19).2 (by decide) (by decide) ?_
        show Steps p.tables e below (T18.setTop (mkF m 208 #[.val (.int q0), .val (.int q1), .val (.int q2), .val (.int q3), .val (.int q4), .val (.int xb), .val (.int c0), .val (.int c1), .val (.int c2), .val (.int c3), .val (.ref nb6), .val (.long ln2), .second, .val (.long cl2), .second, .val (.int (1 : Int32)), .unset, .unset, .unset, .unset] [(.long (ln2 + (endsLine (if c1 = (13 : Int32) then (1 : Int32) else (0 : Int32)) c2 xb)))])) t
        refine XS.iconst X18.here hx rfl (hb hby at_208) ?_
        show Steps p.tables e below (T18.setTop (mkF m 209 #[.val (.int q0), .val (.int q1), .val (.int q2), .val (.int q3), .val (.int q4), .val (.int xb), .val (.int c0), .val (.int c1), .val (.int c2), .val (.int c3), .val (.ref nb6), .val (.long ln2), .second, .val (.long cl2), .second, .val (.int (1 : Int32)), .unset, .unset, .unset, .unset] [(.int (0 : Int32)), (.long (ln2 + (endsLine (if c1 = (13 : Int32) then (1 : Int32) else (0 : Int32)) c2 xb)))])) t
        exact k
    show OEnds p e below s _ _ _ (T18.setTop (mkF m 209 #[.val (.int q0), .val (.int q1), .val (.int q2), .val (.int q3), .val (.int q4), .val (.int xb), .val (.int c0), .val (.int c1), .val (.int c2), .val (.int c3), .val (.ref nb6), .val (.long ln2), .second, .val (.long cl2), .second, .val (.int (1 : Int32)), .unset, .unset, .unset, .unset] [(.int (if c2 = (13 : Int32) then (1 : Int32) else (0 : Int32))), (.long (ln2 + (endsLine (if c1 = (13 : Int32) then (1 : Int32) else (0 : Int32)) c2 xb)))]))
    refine own_by (fun _ k => XS.iload X18.here hx rfl (hb hby at_209) rfl k) ?_
    show OEnds p e below s _ _ _ (T18.setTop (mkF m 211 #[.val (.int q0), .val (.int q1), .val (.int q2), .val (.int q3), .val (.int q4), .val (.int xb), .val (.int c0), .val (.int c1), .val (.int c2), .val (.int c3), .val (.ref nb6), .val (.long ln2), .second, .val (.long cl2), .second, .val (.int (1 : Int32)), .unset, .unset, .unset, .unset] [(.int c3), (.int (if c2 = (13 : Int32) then (1 : Int32) else (0 : Int32))), (.long (ln2 + (endsLine (if c1 = (13 : Int32) then (1 : Int32) else (0 : Int32)) c2 xb)))]))
    refine own_by (fun _ k => XS.iload X18.here hx rfl (hb hby at_211) rfl k) ?_
    show OEnds p e below s _ _ _ (T18.setTop (mkF m 213 #[.val (.int q0), .val (.int q1), .val (.int q2), .val (.int q3), .val (.int q4), .val (.int xb), .val (.int c0), .val (.int c1), .val (.int c2), .val (.int c3), .val (.ref nb6), .val (.long ln2), .second, .val (.long cl2), .second, .val (.int (1 : Int32)), .unset, .unset, .unset, .unset] [(.int xb), (.int c3), (.int (if c2 = (13 : Int32) then (1 : Int32) else (0 : Int32))), (.long (ln2 + (endsLine (if c1 = (13 : Int32) then (1 : Int32) else (0 : Int32)) c2 xb)))]))
    obtain ⟨T20, X20, e20, st20⟩ := own_callP X18 hx hZ (y := (⟨"com/example/boughcheck/boughcheck/LinesTakePinLaw", "endsLine", "(ZCZ)J"⟩ : MethodName)) hown (hw _ (List.mem_of_getElem? (i := 24) rfl)) (hw _ (List.mem_of_getElem? (i := 25) rfl)) (hw _ (List.mem_of_getElem? (i := 2) rfl)) (hw _ (List.mem_of_getElem? (i := 26) rfl)) (by decide) (rm_endsLine l Z a0 hw [] (if c2 = (13 : Int32) then (1 : Int32) else (0 : Int32)) c3 xb h16) e18 (g := (mkF m 213 #[.val (.int q0), .val (.int q1), .val (.int q2), .val (.int q3), .val (.int q4), .val (.int xb), .val (.int c0), .val (.int c1), .val (.int c2), .val (.int c3), .val (.ref nb6), .val (.long ln2), .second, .val (.long cl2), .second, .val (.int (1 : Int32)), .unset, .unset, .unset, .unset] [(.int xb), (.int c3), (.int (if c2 = (13 : Int32) then (1 : Int32) else (0 : Int32))), (.long (ln2 + (endsLine (if c1 = (13 : Int32) then (1 : Int32) else (0 : Int32)) c2 xb)))])) rfl (by rw [hml]; rfl) (argsL := [(.int (if c2 = (13 : Int32) then (1 : Int32) else (0 : Int32))), (.int c3), (.int xb)]) (rest := [(.long (ln2 + (endsLine (if c1 = (13 : Int32) then (1 : Int32) else (0 : Int32)) c2 xb)))]) (lenOf pd_pZCZrJ rfl) rfl (W := 2) (by show 2 * 0 + _ ≤ _; exact Nat.le_of_eq rfl) (hb hby at_213) (by decide) (by decide) (by decide) (by decide)
    refine own_by (st20) ?_
    show OEnds p e below s _ _ _ (T20.setTop (mkF m 216 #[.val (.int q0), .val (.int q1), .val (.int q2), .val (.int q3), .val (.int q4), .val (.int xb), .val (.int c0), .val (.int c1), .val (.int c2), .val (.int c3), .val (.ref nb6), .val (.long ln2), .second, .val (.long cl2), .second, .val (.int (1 : Int32)), .unset, .unset, .unset, .unset] [(.long (endsLine (if c2 = (13 : Int32) then (1 : Int32) else (0 : Int32)) c3 xb)), (.long (ln2 + (endsLine (if c1 = (13 : Int32) then (1 : Int32) else (0 : Int32)) c2 xb)))]))
    refine own_by (fun _ k => XS.ladd X20.here hx rfl (hb hby at_216) rfl k) ?_
    show OEnds p e below s _ _ _ (T20.setTop (mkF m 217 #[.val (.int q0), .val (.int q1), .val (.int q2), .val (.int q3), .val (.int q4), .val (.int xb), .val (.int c0), .val (.int c1), .val (.int c2), .val (.int c3), .val (.ref nb6), .val (.long ln2), .second, .val (.long cl2), .second, .val (.int (1 : Int32)), .unset, .unset, .unset, .unset] [(.long ((ln2 + (endsLine (if c1 = (13 : Int32) then (1 : Int32) else (0 : Int32)) c2 xb)) + (endsLine (if c2 = (13 : Int32) then (1 : Int32) else (0 : Int32)) c3 xb)))]))
    refine own_by (fun _ k => XS.lstore X20.here hx rfl (hb hby at_217) rfl (l' := #[.val (.int q0), .val (.int q1), .val (.int q2), .val (.int q3), .val (.int q4), .val (.int xb), .val (.int c0), .val (.int c1), .val (.int c2), .val (.int c3), .val (.ref nb6), .val (.long ln2), .second, .val (.long cl2), .second, .val (.int (1 : Int32)), .val (.long ((ln2 + (endsLine (if c1 = (13 : Int32) then (1 : Int32) else (0 : Int32)) c2 xb)) + (endsLine (if c2 = (13 : Int32) then (1 : Int32) else (0 : Int32)) c3 xb))), .second, .unset, .unset]) rfl k) ?_
    show OEnds p e below s _ _ _ (T20.setTop (mkF m 219 #[.val (.int q0), .val (.int q1), .val (.int q2), .val (.int q3), .val (.int q4), .val (.int xb), .val (.int c0), .val (.int c1), .val (.int c2), .val (.int c3), .val (.ref nb6), .val (.long ln2), .second, .val (.long cl2), .second, .val (.int (1 : Int32)), .val (.long ((ln2 + (endsLine (if c1 = (13 : Int32) then (1 : Int32) else (0 : Int32)) c2 xb)) + (endsLine (if c2 = (13 : Int32) then (1 : Int32) else (0 : Int32)) c3 xb))), .second, .unset, .unset] []))
    obtain ⟨ln4, eln4⟩ : ∃ z, z = ((ln2 + (endsLine (if c1 = (13 : Int32) then (1 : Int32) else (0 : Int32)) c2 xb)) + (endsLine (if c2 = (13 : Int32) then (1 : Int32) else (0 : Int32)) c3 xb)) := ⟨_, rfl⟩
    rw [← eln4]
    have bl292 : ∀ (T : State) (lo : List Loc) (cl4 : Int64) (X_bl292 : Stand p l e room_1 s m #[(.int q0), (.int q1), (.int q2), (.int q3), (.int q4)] below meth c T lo 1 4) (e_bl292 : T.heap = h16) (N_bl292 : Fr n0 lo) (hcl4 : cl4 = if (breaks c3 xb) = (0 : Int32) then if (breaks c2 xb) = (0 : Int32) then if (breaks c1 xb) = (0 : Int32) then if (breaks c0 xb) = (0 : Int32) then (4 : Int64) else (3 : Int64) else (2 : Int64) else (1 : Int64) else (0 : Int64)), OEnds p e below s (QL n0) room_1.cells room_1.slots (T.setTop (mkF m 292 #[.val (.int q0), .val (.int q1), .val (.int q2), .val (.int q3), .val (.int q4), .val (.int xb), .val (.int c0), .val (.int c1), .val (.int c2), .val (.int c3), .val (.ref nb6), .val (.long ln2), .second, .val (.long cl2), .second, .val (.int (1 : Int32)), .val (.long ln4), .second, .val (.long cl4), .second] [])) := by
      intro T lo cl4 X_bl292 e_bl292 N_bl292 hcl4
      show OEnds p e below s _ _ _ (T.setTop (mkF m 292 #[.val (.int q0), .val (.int q1), .val (.int q2), .val (.int q3), .val (.int q4), .val (.int xb), .val (.int c0), .val (.int c1), .val (.int c2), .val (.int c3), .val (.ref nb6), .val (.long ln2), .second, .val (.long cl2), .second, .val (.int (1 : Int32)), .val (.long ln4), .second, .val (.long cl4), .second] []))
      refine own_by (fun _ k => XS.iload X_bl292.here hx rfl (hb hby at_292) rfl k) ?_
      show OEnds p e below s _ _ _ (T.setTop (mkF m 294 #[.val (.int q0), .val (.int q1), .val (.int q2), .val (.int q3), .val (.int q4), .val (.int xb), .val (.int c0), .val (.int c1), .val (.int c2), .val (.int c3), .val (.ref nb6), .val (.long ln2), .second, .val (.long cl2), .second, .val (.int (1 : Int32)), .val (.long ln4), .second, .val (.long cl4), .second] [(.int (1 : Int32))]))
      refine own_by (fun _ k => XS.ifNo X_bl292.here hx rfl (hb hby at_294) rfl ((if0 _ _).trans (feq (by decide : ¬ ((1 : Int32) = (0 : Int32)))).1) k) ?_
      show OEnds p e below s _ _ _ (T.setTop (mkF m 297 #[.val (.int q0), .val (.int q1), .val (.int q2), .val (.int q3), .val (.int q4), .val (.int xb), .val (.int c0), .val (.int c1), .val (.int c2), .val (.int c3), .val (.ref nb6), .val (.long ln2), .second, .val (.long cl2), .second, .val (.int (1 : Int32)), .val (.long ln4), .second, .val (.long cl4), .second] []))
      refine own_by (fun _ k => XS.aload X_bl292.here hx rfl (hb hby at_297) rfl rfl k) ?_
      show OEnds p e below s _ _ _ (T.setTop (mkF m 299 #[.val (.int q0), .val (.int q1), .val (.int q2), .val (.int q3), .val (.int q4), .val (.int xb), .val (.int c0), .val (.int c1), .val (.int c2), .val (.int c3), .val (.ref nb6), .val (.long ln2), .second, .val (.long cl2), .second, .val (.int (1 : Int32)), .val (.long ln4), .second, .val (.long cl4), .second] [(.ref nb6)]))
      obtain ⟨T21, X21, e21, st21⟩ := own_callR X_bl292 hx hZ (y := (⟨"com/example/boughcheck/boughcheck/DoctypeScan$Lines", "line", "()J"⟩ : MethodName)) hown (hw _ (List.mem_of_getElem? (i := 31) rfl)) (hw _ (List.mem_of_getElem? (i := 32) rfl)) (hw _ (List.mem_of_getElem? (i := 34) rfl)) (hw _ (List.mem_of_getElem? (i := 33) rfl)) (hw _ (List.mem_of_getElem? (i := 35) rfl)) (hw _ (List.mem_of_getElem? (i := 6) rfl)) (by decide) O16.exa (rm_lline l Z a0 hw [] nb6 (linit_xml11 xb) co4 (take_afterCarriageReturn c3 (linit_xml11 xb)) en4 h16 n0 Z16 O16) e_bl292 (g := (mkF m 299 #[.val (.int q0), .val (.int q1), .val (.int q2), .val (.int q3), .val (.int q4), .val (.int xb), .val (.int c0), .val (.int c1), .val (.int c2), .val (.int c3), .val (.ref nb6), .val (.long ln2), .second, .val (.long cl2), .second, .val (.int (1 : Int32)), .val (.long ln4), .second, .val (.long cl4), .second] [(.ref nb6)])) rfl (by rw [hml]; rfl) (argsL := []) (rest := []) (lenOf pd_prJ rfl) rfl (W := 0) (by show 2 * 0 + _ ≤ _; exact Nat.le_of_eq rfl) (hb hby at_299) (by decide) (by decide) (by decide) (by decide)
      refine own_by (st21) ?_
      show OEnds p e below s _ _ _ (T21.setTop (mkF m 302 #[.val (.int q0), .val (.int q1), .val (.int q2), .val (.int q3), .val (.int q4), .val (.int xb), .val (.int c0), .val (.int c1), .val (.int c2), .val (.int c3), .val (.ref nb6), .val (.long ln2), .second, .val (.long cl2), .second, .val (.int (1 : Int32)), .val (.long ln4), .second, .val (.long cl4), .second] [(.long (lline_r en4))]))
      refine own_by (fun _ k => XS.lload X21.here hx rfl (hb hby at_302) rfl k) ?_
      show OEnds p e below s _ _ _ (T21.setTop (mkF m 304 #[.val (.int q0), .val (.int q1), .val (.int q2), .val (.int q3), .val (.int q4), .val (.int xb), .val (.int c0), .val (.int c1), .val (.int c2), .val (.int c3), .val (.ref nb6), .val (.long ln2), .second, .val (.long cl2), .second, .val (.int (1 : Int32)), .val (.long ln4), .second, .val (.long cl4), .second] [(.long ln4), (.long (lline_r en4))]))
      refine own_by (fun _ k => XS.lcmp X21.here hx rfl (hb hby at_304) rfl k) ?_
      show OEnds p e below s _ _ _ (T21.setTop (mkF m 305 #[.val (.int q0), .val (.int q1), .val (.int q2), .val (.int q3), .val (.int q4), .val (.int xb), .val (.int c0), .val (.int c1), .val (.int c2), .val (.int c3), .val (.ref nb6), .val (.long ln2), .second, .val (.long cl2), .second, .val (.int (1 : Int32)), .val (.long ln4), .second, .val (.long cl4), .second] [(.int (lcmpW (lline_r en4) ln4))]))
      refine own_by (fun _ k => XS.ifNo X21.here hx rfl (hb hby at_305) rfl ((if0 _ _).trans (teq ((lw_eq _ _).mpr (pl_line4 hxb een2 eln2 een4 eln4))).2) k) ?_
      show OEnds p e below s _ _ _ (T21.setTop (mkF m 308 #[.val (.int q0), .val (.int q1), .val (.int q2), .val (.int q3), .val (.int q4), .val (.int xb), .val (.int c0), .val (.int c1), .val (.int c2), .val (.int c3), .val (.ref nb6), .val (.long ln2), .second, .val (.long cl2), .second, .val (.int (1 : Int32)), .val (.long ln4), .second, .val (.long cl4), .second] []))
      refine own_by (fun _ k => XS.aload X21.here hx rfl (hb hby at_308) rfl rfl k) ?_
      show OEnds p e below s _ _ _ (T21.setTop (mkF m 310 #[.val (.int q0), .val (.int q1), .val (.int q2), .val (.int q3), .val (.int q4), .val (.int xb), .val (.int c0), .val (.int c1), .val (.int c2), .val (.int c3), .val (.ref nb6), .val (.long ln2), .second, .val (.long cl2), .second, .val (.int (1 : Int32)), .val (.long ln4), .second, .val (.long cl4), .second] [(.ref nb6)]))
      obtain ⟨T22, X22, e22, st22⟩ := own_callR X21 hx hZ (y := (⟨"com/example/boughcheck/boughcheck/DoctypeScan$Lines", "columns", "()J"⟩ : MethodName)) hown (hw _ (List.mem_of_getElem? (i := 38) rfl)) (hw _ (List.mem_of_getElem? (i := 39) rfl)) (hw _ (List.mem_of_getElem? (i := 41) rfl)) (hw _ (List.mem_of_getElem? (i := 40) rfl)) (hw _ (List.mem_of_getElem? (i := 42) rfl)) (hw _ (List.mem_of_getElem? (i := 6) rfl)) (by decide) O16.exa (rm_lcols l Z a0 hw [] nb6 (linit_xml11 xb) co4 (take_afterCarriageReturn c3 (linit_xml11 xb)) en4 h16 n0 Z16 O16) e21 (g := (mkF m 310 #[.val (.int q0), .val (.int q1), .val (.int q2), .val (.int q3), .val (.int q4), .val (.int xb), .val (.int c0), .val (.int c1), .val (.int c2), .val (.int c3), .val (.ref nb6), .val (.long ln2), .second, .val (.long cl2), .second, .val (.int (1 : Int32)), .val (.long ln4), .second, .val (.long cl4), .second] [(.ref nb6)])) rfl (by rw [hml]; rfl) (argsL := []) (rest := []) (lenOf pd_prJ rfl) rfl (W := 0) (by show 2 * 0 + _ ≤ _; exact Nat.le_of_eq rfl) (hb hby at_310) (by decide) (by decide) (by decide) (by decide)
      refine own_by (st22) ?_
      show OEnds p e below s _ _ _ (T22.setTop (mkF m 313 #[.val (.int q0), .val (.int q1), .val (.int q2), .val (.int q3), .val (.int q4), .val (.int xb), .val (.int c0), .val (.int c1), .val (.int c2), .val (.int c3), .val (.ref nb6), .val (.long ln2), .second, .val (.long cl2), .second, .val (.int (1 : Int32)), .val (.long ln4), .second, .val (.long cl4), .second] [(.long (lcols_r co4))]))
      refine own_by (fun _ k => XS.lload X22.here hx rfl (hb hby at_313) rfl k) ?_
      show OEnds p e below s _ _ _ (T22.setTop (mkF m 315 #[.val (.int q0), .val (.int q1), .val (.int q2), .val (.int q3), .val (.int q4), .val (.int xb), .val (.int c0), .val (.int c1), .val (.int c2), .val (.int c3), .val (.ref nb6), .val (.long ln2), .second, .val (.long cl2), .second, .val (.int (1 : Int32)), .val (.long ln4), .second, .val (.long cl4), .second] [(.long cl4), (.long (lcols_r co4))]))
      refine own_by (fun _ k => XS.lcmp X22.here hx rfl (hb hby at_315) rfl k) ?_
      show OEnds p e below s _ _ _ (T22.setTop (mkF m 316 #[.val (.int q0), .val (.int q1), .val (.int q2), .val (.int q3), .val (.int q4), .val (.int xb), .val (.int c0), .val (.int c1), .val (.int c2), .val (.int c3), .val (.ref nb6), .val (.long ln2), .second, .val (.long cl2), .second, .val (.int (1 : Int32)), .val (.long ln4), .second, .val (.long cl4), .second] [(.int (lcmpW (lcols_r co4) cl4))]))
      refine own_by (fun _ k => XS.ifNo X22.here hx rfl (hb hby at_316) rfl ((if0 _ _).trans (teq ((lw_eq _ _).mpr (pl_col4 hxb eco2 eco4 hcl4))).2) k) ?_
      show OEnds p e below s _ _ _ (T22.setTop (mkF m 319 #[.val (.int q0), .val (.int q1), .val (.int q2), .val (.int q3), .val (.int q4), .val (.int xb), .val (.int c0), .val (.int c1), .val (.int c2), .val (.int c3), .val (.ref nb6), .val (.long ln2), .second, .val (.long cl2), .second, .val (.int (1 : Int32)), .val (.long ln4), .second, .val (.long cl4), .second] []))
      refine own_by (fun _ k => XS.iconst X22.here hx rfl (hb hby at_319) k) ?_
      show OEnds p e below s _ _ _ (T22.setTop (mkF m 320 #[.val (.int q0), .val (.int q1), .val (.int q2), .val (.int q3), .val (.int q4), .val (.int xb), .val (.int c0), .val (.int c1), .val (.int c2), .val (.int c3), .val (.ref nb6), .val (.long ln2), .second, .val (.long cl2), .second, .val (.int (1 : Int32)), .val (.long ln4), .second, .val (.long cl4), .second] [(.int (1 : Int32))]))
      refine own_by (fun _ k => XS.goto X22.here hx rfl (pc0 := 320) (pc' := 324) rfl (hb hby at_320) (by decide) (by decide) k) ?_
      show OEnds p e below s _ _ _ (T22.setTop (mkF m 324 #[.val (.int q0), .val (.int q1), .val (.int q2), .val (.int q3), .val (.int q4), .val (.int xb), .val (.int c0), .val (.int c1), .val (.int c2), .val (.int c3), .val (.ref nb6), .val (.long ln2), .second, .val (.long cl2), .second, .val (.int (1 : Int32)), .val (.long ln4), .second, .val (.long cl4), .second] [(.int (1 : Int32))]))
      exact own_retN X22 hx hlk .boolean (by simp) Bd.returns (hb hby at_324) ⟨rfl, N_bl292⟩ (by decide) (by decide)
    show OEnds p e below s _ _ _ (T20.setTop (mkF m 219 #[.val (.int q0), .val (.int q1), .val (.int q2), .val (.int q3), .val (.int q4), .val (.int xb), .val (.int c0), .val (.int c1), .val (.int c2), .val (.int c3), .val (.ref nb6), .val (.long ln2), .second, .val (.long cl2), .second, .val (.int (1 : Int32)), .val (.long ln4), .second, .unset, .unset] []))
    refine own_by (fun _ k => XS.iload X20.here hx rfl (hb hby at_219) rfl k) ?_
    show OEnds p e below s _ _ _ (T20.setTop (mkF m 221 #[.val (.int q0), .val (.int q1), .val (.int q2), .val (.int q3), .val (.int q4), .val (.int xb), .val (.int c0), .val (.int c1), .val (.int c2), .val (.int c3), .val (.ref nb6), .val (.long ln2), .second, .val (.long cl2), .second, .val (.int (1 : Int32)), .val (.long ln4), .second, .unset, .unset] [(.int c3)]))
    refine own_by (fun _ k => XS.iload X20.here hx rfl (hb hby at_221) rfl k) ?_
    show OEnds p e below s _ _ _ (T20.setTop (mkF m 223 #[.val (.int q0), .val (.int q1), .val (.int q2), .val (.int q3), .val (.int q4), .val (.int xb), .val (.int c0), .val (.int c1), .val (.int c2), .val (.int c3), .val (.ref nb6), .val (.long ln2), .second, .val (.long cl2), .second, .val (.int (1 : Int32)), .val (.long ln4), .second, .unset, .unset] [(.int xb), (.int c3)]))
    obtain ⟨T23, X23, e23, st23⟩ := own_callP X20 hx hZ (y := (⟨"com/example/boughcheck/boughcheck/LinesTakePinLaw", "breaks", "(CZ)Z"⟩ : MethodName)) hown (hw _ (List.mem_of_getElem? (i := 27) rfl)) (hw _ (List.mem_of_getElem? (i := 28) rfl)) (hw _ (List.mem_of_getElem? (i := 2) rfl)) (hw _ (List.mem_of_getElem? (i := 29) rfl)) (by decide) (rm_breaks l Z a0 hw [] c3 xb h16) e20 (g := (mkF m 223 #[.val (.int q0), .val (.int q1), .val (.int q2), .val (.int q3), .val (.int q4), .val (.int xb), .val (.int c0), .val (.int c1), .val (.int c2), .val (.int c3), .val (.ref nb6), .val (.long ln2), .second, .val (.long cl2), .second, .val (.int (1 : Int32)), .val (.long ln4), .second, .unset, .unset] [(.int xb), (.int c3)])) rfl (by rw [hml]; rfl) (argsL := [(.int c3), (.int xb)]) (rest := []) (lenOf pd_pCZrZ rfl) rfl (W := 0) (by show 2 * 0 + _ ≤ _; exact Nat.le_of_eq rfl) (hb hby at_223) (by decide) (by decide) (by decide) (by decide)
    refine own_by (st23) ?_
    show OEnds p e below s _ _ _ (T23.setTop (mkF m 226 #[.val (.int q0), .val (.int q1), .val (.int q2), .val (.int q3), .val (.int q4), .val (.int xb), .val (.int c0), .val (.int c1), .val (.int c2), .val (.int c3), .val (.ref nb6), .val (.long ln2), .second, .val (.long cl2), .second, .val (.int (1 : Int32)), .val (.long ln4), .second, .unset, .unset] [(.int (breaks c3 xb))]))
    by_cases hc226_24 : (breaks c3 xb) = (0 : Int32)
    · refine own_by (fun _ k => XS.ifYes X23.here hx rfl (pc0 := 226) (pc' := 235) rfl (hb hby at_226) rfl ((if0 _ _).trans (teq hc226_24).1) (by decide) (by decide) k) ?_
      show OEnds p e below s _ _ _ (T23.setTop (mkF m 235 #[.val (.int q0), .val (.int q1), .val (.int q2), .val (.int q3), .val (.int q4), .val (.int xb), .val (.int c0), .val (.int c1), .val (.int c2), .val (.int c3), .val (.ref nb6), .val (.long ln2), .second, .val (.long cl2), .second, .val (.int (1 : Int32)), .val (.long ln4), .second, .unset, .unset] []))
      refine own_by (fun _ k => XS.iload X23.here hx rfl (hb hby at_235) rfl k) ?_
      show OEnds p e below s _ _ _ (T23.setTop (mkF m 237 #[.val (.int q0), .val (.int q1), .val (.int q2), .val (.int q3), .val (.int q4), .val (.int xb), .val (.int c0), .val (.int c1), .val (.int c2), .val (.int c3), .val (.ref nb6), .val (.long ln2), .second, .val (.long cl2), .second, .val (.int (1 : Int32)), .val (.long ln4), .second, .unset, .unset] [(.int c2)]))
      refine own_by (fun _ k => XS.iload X23.here hx rfl (hb hby at_237) rfl k) ?_
      show OEnds p e below s _ _ _ (T23.setTop (mkF m 239 #[.val (.int q0), .val (.int q1), .val (.int q2), .val (.int q3), .val (.int q4), .val (.int xb), .val (.int c0), .val (.int c1), .val (.int c2), .val (.int c3), .val (.ref nb6), .val (.long ln2), .second, .val (.long cl2), .second, .val (.int (1 : Int32)), .val (.long ln4), .second, .unset, .unset] [(.int xb), (.int c2)]))
      obtain ⟨T25, X25, e25, st25⟩ := own_callP X23 hx hZ (y := (⟨"com/example/boughcheck/boughcheck/LinesTakePinLaw", "breaks", "(CZ)Z"⟩ : MethodName)) hown (hw _ (List.mem_of_getElem? (i := 27) rfl)) (hw _ (List.mem_of_getElem? (i := 28) rfl)) (hw _ (List.mem_of_getElem? (i := 2) rfl)) (hw _ (List.mem_of_getElem? (i := 29) rfl)) (by decide) (rm_breaks l Z a0 hw [] c2 xb h16) e23 (g := (mkF m 239 #[.val (.int q0), .val (.int q1), .val (.int q2), .val (.int q3), .val (.int q4), .val (.int xb), .val (.int c0), .val (.int c1), .val (.int c2), .val (.int c3), .val (.ref nb6), .val (.long ln2), .second, .val (.long cl2), .second, .val (.int (1 : Int32)), .val (.long ln4), .second, .unset, .unset] [(.int xb), (.int c2)])) rfl (by rw [hml]; rfl) (argsL := [(.int c2), (.int xb)]) (rest := []) (lenOf pd_pCZrZ rfl) rfl (W := 0) (by show 2 * 0 + _ ≤ _; exact Nat.le_of_eq rfl) (hb hby at_239) (by decide) (by decide) (by decide) (by decide)
      refine own_by (st25) ?_
      show OEnds p e below s _ _ _ (T25.setTop (mkF m 242 #[.val (.int q0), .val (.int q1), .val (.int q2), .val (.int q3), .val (.int q4), .val (.int xb), .val (.int c0), .val (.int c1), .val (.int c2), .val (.int c3), .val (.ref nb6), .val (.long ln2), .second, .val (.long cl2), .second, .val (.int (1 : Int32)), .val (.long ln4), .second, .unset, .unset] [(.int (breaks c2 xb))]))
      by_cases hc242_26 : (breaks c2 xb) = (0 : Int32)
      · refine own_by (fun _ k => XS.ifYes X25.here hx rfl (pc0 := 242) (pc' := 251) rfl (hb hby at_242) rfl ((if0 _ _).trans (teq hc242_26).1) (by decide) (by decide) k) ?_
        show OEnds p e below s _ _ _ (T25.setTop (mkF m 251 #[.val (.int q0), .val (.int q1), .val (.int q2), .val (.int q3), .val (.int q4), .val (.int xb), .val (.int c0), .val (.int c1), .val (.int c2), .val (.int c3), .val (.ref nb6), .val (.long ln2), .second, .val (.long cl2), .second, .val (.int (1 : Int32)), .val (.long ln4), .second, .unset, .unset] []))
        refine own_by (fun _ k => XS.iload X25.here hx rfl (hb hby at_251) rfl k) ?_
        show OEnds p e below s _ _ _ (T25.setTop (mkF m 253 #[.val (.int q0), .val (.int q1), .val (.int q2), .val (.int q3), .val (.int q4), .val (.int xb), .val (.int c0), .val (.int c1), .val (.int c2), .val (.int c3), .val (.ref nb6), .val (.long ln2), .second, .val (.long cl2), .second, .val (.int (1 : Int32)), .val (.long ln4), .second, .unset, .unset] [(.int c1)]))
        refine own_by (fun _ k => XS.iload X25.here hx rfl (hb hby at_253) rfl k) ?_
        show OEnds p e below s _ _ _ (T25.setTop (mkF m 255 #[.val (.int q0), .val (.int q1), .val (.int q2), .val (.int q3), .val (.int q4), .val (.int xb), .val (.int c0), .val (.int c1), .val (.int c2), .val (.int c3), .val (.ref nb6), .val (.long ln2), .second, .val (.long cl2), .second, .val (.int (1 : Int32)), .val (.long ln4), .second, .unset, .unset] [(.int xb), (.int c1)]))
        obtain ⟨T27, X27, e27, st27⟩ := own_callP X25 hx hZ (y := (⟨"com/example/boughcheck/boughcheck/LinesTakePinLaw", "breaks", "(CZ)Z"⟩ : MethodName)) hown (hw _ (List.mem_of_getElem? (i := 27) rfl)) (hw _ (List.mem_of_getElem? (i := 28) rfl)) (hw _ (List.mem_of_getElem? (i := 2) rfl)) (hw _ (List.mem_of_getElem? (i := 29) rfl)) (by decide) (rm_breaks l Z a0 hw [] c1 xb h16) e25 (g := (mkF m 255 #[.val (.int q0), .val (.int q1), .val (.int q2), .val (.int q3), .val (.int q4), .val (.int xb), .val (.int c0), .val (.int c1), .val (.int c2), .val (.int c3), .val (.ref nb6), .val (.long ln2), .second, .val (.long cl2), .second, .val (.int (1 : Int32)), .val (.long ln4), .second, .unset, .unset] [(.int xb), (.int c1)])) rfl (by rw [hml]; rfl) (argsL := [(.int c1), (.int xb)]) (rest := []) (lenOf pd_pCZrZ rfl) rfl (W := 0) (by show 2 * 0 + _ ≤ _; exact Nat.le_of_eq rfl) (hb hby at_255) (by decide) (by decide) (by decide) (by decide)
        refine own_by (st27) ?_
        show OEnds p e below s _ _ _ (T27.setTop (mkF m 258 #[.val (.int q0), .val (.int q1), .val (.int q2), .val (.int q3), .val (.int q4), .val (.int xb), .val (.int c0), .val (.int c1), .val (.int c2), .val (.int c3), .val (.ref nb6), .val (.long ln2), .second, .val (.long cl2), .second, .val (.int (1 : Int32)), .val (.long ln4), .second, .unset, .unset] [(.int (breaks c1 xb))]))
        by_cases hc258_28 : (breaks c1 xb) = (0 : Int32)
        · refine own_by (fun _ k => XS.ifYes X27.here hx rfl (pc0 := 258) (pc' := 269) rfl (hb hby at_258) rfl ((if0 _ _).trans (teq hc258_28).1) (by decide) (by decide) k) ?_
          show OEnds p e below s _ _ _ (T27.setTop (mkF m 269 #[.val (.int q0), .val (.int q1), .val (.int q2), .val (.int q3), .val (.int q4), .val (.int xb), .val (.int c0), .val (.int c1), .val (.int c2), .val (.int c3), .val (.ref nb6), .val (.long ln2), .second, .val (.long cl2), .second, .val (.int (1 : Int32)), .val (.long ln4), .second, .unset, .unset] []))
          refine own_by (fun _ k => XS.iload X27.here hx rfl (hb hby at_269) rfl k) ?_
          show OEnds p e below s _ _ _ (T27.setTop (mkF m 271 #[.val (.int q0), .val (.int q1), .val (.int q2), .val (.int q3), .val (.int q4), .val (.int xb), .val (.int c0), .val (.int c1), .val (.int c2), .val (.int c3), .val (.ref nb6), .val (.long ln2), .second, .val (.long cl2), .second, .val (.int (1 : Int32)), .val (.long ln4), .second, .unset, .unset] [(.int c0)]))
          refine own_by (fun _ k => XS.iload X27.here hx rfl (hb hby at_271) rfl k) ?_
          show OEnds p e below s _ _ _ (T27.setTop (mkF m 273 #[.val (.int q0), .val (.int q1), .val (.int q2), .val (.int q3), .val (.int q4), .val (.int xb), .val (.int c0), .val (.int c1), .val (.int c2), .val (.int c3), .val (.ref nb6), .val (.long ln2), .second, .val (.long cl2), .second, .val (.int (1 : Int32)), .val (.long ln4), .second, .unset, .unset] [(.int xb), (.int c0)]))
          obtain ⟨T29, X29, e29, st29⟩ := own_callP X27 hx hZ (y := (⟨"com/example/boughcheck/boughcheck/LinesTakePinLaw", "breaks", "(CZ)Z"⟩ : MethodName)) hown (hw _ (List.mem_of_getElem? (i := 27) rfl)) (hw _ (List.mem_of_getElem? (i := 28) rfl)) (hw _ (List.mem_of_getElem? (i := 2) rfl)) (hw _ (List.mem_of_getElem? (i := 29) rfl)) (by decide) (rm_breaks l Z a0 hw [] c0 xb h16) e27 (g := (mkF m 273 #[.val (.int q0), .val (.int q1), .val (.int q2), .val (.int q3), .val (.int q4), .val (.int xb), .val (.int c0), .val (.int c1), .val (.int c2), .val (.int c3), .val (.ref nb6), .val (.long ln2), .second, .val (.long cl2), .second, .val (.int (1 : Int32)), .val (.long ln4), .second, .unset, .unset] [(.int xb), (.int c0)])) rfl (by rw [hml]; rfl) (argsL := [(.int c0), (.int xb)]) (rest := []) (lenOf pd_pCZrZ rfl) rfl (W := 0) (by show 2 * 0 + _ ≤ _; exact Nat.le_of_eq rfl) (hb hby at_273) (by decide) (by decide) (by decide) (by decide)
          refine own_by (st29) ?_
          show OEnds p e below s _ _ _ (T29.setTop (mkF m 276 #[.val (.int q0), .val (.int q1), .val (.int q2), .val (.int q3), .val (.int q4), .val (.int xb), .val (.int c0), .val (.int c1), .val (.int c2), .val (.int c3), .val (.ref nb6), .val (.long ln2), .second, .val (.long cl2), .second, .val (.int (1 : Int32)), .val (.long ln4), .second, .unset, .unset] [(.int (breaks c0 xb))]))
          by_cases hc276_30 : (breaks c0 xb) = (0 : Int32)
          · refine own_by (fun _ k => XS.ifYes X29.here hx rfl (pc0 := 276) (pc' := 287) rfl (hb hby at_276) rfl ((if0 _ _).trans (teq hc276_30).1) (by decide) (by decide) k) ?_
            show OEnds p e below s _ _ _ (T29.setTop (mkF m 287 #[.val (.int q0), .val (.int q1), .val (.int q2), .val (.int q3), .val (.int q4), .val (.int xb), .val (.int c0), .val (.int c1), .val (.int c2), .val (.int c3), .val (.ref nb6), .val (.long ln2), .second, .val (.long cl2), .second, .val (.int (1 : Int32)), .val (.long ln4), .second, .unset, .unset] []))
            refine own_by (X29.ldc2Long hx hown (mvT hZ (hw _ (List.mem_of_getElem? (i := 43) rfl))) (g := (mkF m 287 #[.val (.int q0), .val (.int q1), .val (.int q2), .val (.int q3), .val (.int q4), .val (.int xb), .val (.int c0), .val (.int c1), .val (.int c2), .val (.int c3), .val (.ref nb6), .val (.long ln2), .second, .val (.long cl2), .second, .val (.int (1 : Int32)), .val (.long ln4), .second, .unset, .unset] [])) rfl (hb hby at_287)) ?_
            show OEnds p e below s _ _ _ (T29.setTop (mkF m 290 #[.val (.int q0), .val (.int q1), .val (.int q2), .val (.int q3), .val (.int q4), .val (.int xb), .val (.int c0), .val (.int c1), .val (.int c2), .val (.int c3), .val (.ref nb6), .val (.long ln2), .second, .val (.long cl2), .second, .val (.int (1 : Int32)), .val (.long ln4), .second, .unset, .unset] [(.long (4 : Int64))]))
            refine own_by (fun _ k => XS.lstore X29.here hx rfl (hb hby at_290) rfl (l' := #[.val (.int q0), .val (.int q1), .val (.int q2), .val (.int q3), .val (.int q4), .val (.int xb), .val (.int c0), .val (.int c1), .val (.int c2), .val (.int c3), .val (.ref nb6), .val (.long ln2), .second, .val (.long cl2), .second, .val (.int (1 : Int32)), .val (.long ln4), .second, .val (.long (4 : Int64)), .second]) rfl k) ?_
            show OEnds p e below s _ _ _ (T29.setTop (mkF m 292 #[.val (.int q0), .val (.int q1), .val (.int q2), .val (.int q3), .val (.int q4), .val (.int xb), .val (.int c0), .val (.int c1), .val (.int c2), .val (.int c3), .val (.ref nb6), .val (.long ln2), .second, .val (.long cl2), .second, .val (.int (1 : Int32)), .val (.long ln4), .second, .val (.long (4 : Int64)), .second] []))
            exact bl292 T29 _ (4 : Int64) X29 e29 N16 (by rw [if_pos hc226_24, if_pos hc242_26, if_pos hc258_28, if_pos hc276_30])
          · refine own_by (fun _ k => XS.ifNo X29.here hx rfl (hb hby at_276) rfl ((if0 _ _).trans (feq hc276_30).1) k) ?_
            show OEnds p e below s _ _ _ (T29.setTop (mkF m 279 #[.val (.int q0), .val (.int q1), .val (.int q2), .val (.int q3), .val (.int q4), .val (.int xb), .val (.int c0), .val (.int c1), .val (.int c2), .val (.int c3), .val (.ref nb6), .val (.long ln2), .second, .val (.long cl2), .second, .val (.int (1 : Int32)), .val (.long ln4), .second, .unset, .unset] []))
            refine own_by (X29.ldc2Long hx hown (mvT hZ (hw _ (List.mem_of_getElem? (i := 44) rfl))) (g := (mkF m 279 #[.val (.int q0), .val (.int q1), .val (.int q2), .val (.int q3), .val (.int q4), .val (.int xb), .val (.int c0), .val (.int c1), .val (.int c2), .val (.int c3), .val (.ref nb6), .val (.long ln2), .second, .val (.long cl2), .second, .val (.int (1 : Int32)), .val (.long ln4), .second, .unset, .unset] [])) rfl (hb hby at_279)) ?_
            show OEnds p e below s _ _ _ (T29.setTop (mkF m 282 #[.val (.int q0), .val (.int q1), .val (.int q2), .val (.int q3), .val (.int q4), .val (.int xb), .val (.int c0), .val (.int c1), .val (.int c2), .val (.int c3), .val (.ref nb6), .val (.long ln2), .second, .val (.long cl2), .second, .val (.int (1 : Int32)), .val (.long ln4), .second, .unset, .unset] [(.long (3 : Int64))]))
            refine own_by (fun _ k => XS.lstore X29.here hx rfl (hb hby at_282) rfl (l' := #[.val (.int q0), .val (.int q1), .val (.int q2), .val (.int q3), .val (.int q4), .val (.int xb), .val (.int c0), .val (.int c1), .val (.int c2), .val (.int c3), .val (.ref nb6), .val (.long ln2), .second, .val (.long cl2), .second, .val (.int (1 : Int32)), .val (.long ln4), .second, .val (.long (3 : Int64)), .second]) rfl k) ?_
            show OEnds p e below s _ _ _ (T29.setTop (mkF m 284 #[.val (.int q0), .val (.int q1), .val (.int q2), .val (.int q3), .val (.int q4), .val (.int xb), .val (.int c0), .val (.int c1), .val (.int c2), .val (.int c3), .val (.ref nb6), .val (.long ln2), .second, .val (.long cl2), .second, .val (.int (1 : Int32)), .val (.long ln4), .second, .val (.long (3 : Int64)), .second] []))
            refine own_by (fun _ k => XS.goto X29.here hx rfl (pc0 := 284) (pc' := 292) rfl (hb hby at_284) (by decide) (by decide) k) ?_
            show OEnds p e below s _ _ _ (T29.setTop (mkF m 292 #[.val (.int q0), .val (.int q1), .val (.int q2), .val (.int q3), .val (.int q4), .val (.int xb), .val (.int c0), .val (.int c1), .val (.int c2), .val (.int c3), .val (.ref nb6), .val (.long ln2), .second, .val (.long cl2), .second, .val (.int (1 : Int32)), .val (.long ln4), .second, .val (.long (3 : Int64)), .second] []))
            exact bl292 T29 _ (3 : Int64) X29 e29 N16 (by rw [if_pos hc226_24, if_pos hc242_26, if_pos hc258_28, if_neg hc276_30])
        · refine own_by (fun _ k => XS.ifNo X27.here hx rfl (hb hby at_258) rfl ((if0 _ _).trans (feq hc258_28).1) k) ?_
          show OEnds p e below s _ _ _ (T27.setTop (mkF m 261 #[.val (.int q0), .val (.int q1), .val (.int q2), .val (.int q3), .val (.int q4), .val (.int xb), .val (.int c0), .val (.int c1), .val (.int c2), .val (.int c3), .val (.ref nb6), .val (.long ln2), .second, .val (.long cl2), .second, .val (.int (1 : Int32)), .val (.long ln4), .second, .unset, .unset] []))
          refine own_by (X27.ldc2Long hx hown (mvT hZ (hw _ (List.mem_of_getElem? (i := 30) rfl))) (g := (mkF m 261 #[.val (.int q0), .val (.int q1), .val (.int q2), .val (.int q3), .val (.int q4), .val (.int xb), .val (.int c0), .val (.int c1), .val (.int c2), .val (.int c3), .val (.ref nb6), .val (.long ln2), .second, .val (.long cl2), .second, .val (.int (1 : Int32)), .val (.long ln4), .second, .unset, .unset] [])) rfl (hb hby at_261)) ?_
          show OEnds p e below s _ _ _ (T27.setTop (mkF m 264 #[.val (.int q0), .val (.int q1), .val (.int q2), .val (.int q3), .val (.int q4), .val (.int xb), .val (.int c0), .val (.int c1), .val (.int c2), .val (.int c3), .val (.ref nb6), .val (.long ln2), .second, .val (.long cl2), .second, .val (.int (1 : Int32)), .val (.long ln4), .second, .unset, .unset] [(.long (2 : Int64))]))
          refine own_by (fun _ k => XS.lstore X27.here hx rfl (hb hby at_264) rfl (l' := #[.val (.int q0), .val (.int q1), .val (.int q2), .val (.int q3), .val (.int q4), .val (.int xb), .val (.int c0), .val (.int c1), .val (.int c2), .val (.int c3), .val (.ref nb6), .val (.long ln2), .second, .val (.long cl2), .second, .val (.int (1 : Int32)), .val (.long ln4), .second, .val (.long (2 : Int64)), .second]) rfl k) ?_
          show OEnds p e below s _ _ _ (T27.setTop (mkF m 266 #[.val (.int q0), .val (.int q1), .val (.int q2), .val (.int q3), .val (.int q4), .val (.int xb), .val (.int c0), .val (.int c1), .val (.int c2), .val (.int c3), .val (.ref nb6), .val (.long ln2), .second, .val (.long cl2), .second, .val (.int (1 : Int32)), .val (.long ln4), .second, .val (.long (2 : Int64)), .second] []))
          refine own_by (fun _ k => XS.goto X27.here hx rfl (pc0 := 266) (pc' := 292) rfl (hb hby at_266) (by decide) (by decide) k) ?_
          show OEnds p e below s _ _ _ (T27.setTop (mkF m 292 #[.val (.int q0), .val (.int q1), .val (.int q2), .val (.int q3), .val (.int q4), .val (.int xb), .val (.int c0), .val (.int c1), .val (.int c2), .val (.int c3), .val (.ref nb6), .val (.long ln2), .second, .val (.long cl2), .second, .val (.int (1 : Int32)), .val (.long ln4), .second, .val (.long (2 : Int64)), .second] []))
          exact bl292 T27 _ (2 : Int64) X27 e27 N16 (by rw [if_pos hc226_24, if_pos hc242_26, if_neg hc258_28])
      · refine own_by (fun _ k => XS.ifNo X25.here hx rfl (hb hby at_242) rfl ((if0 _ _).trans (feq hc242_26).1) k) ?_
        show OEnds p e below s _ _ _ (T25.setTop (mkF m 245 #[.val (.int q0), .val (.int q1), .val (.int q2), .val (.int q3), .val (.int q4), .val (.int xb), .val (.int c0), .val (.int c1), .val (.int c2), .val (.int c3), .val (.ref nb6), .val (.long ln2), .second, .val (.long cl2), .second, .val (.int (1 : Int32)), .val (.long ln4), .second, .unset, .unset] []))
        refine own_by (fun _ k => XS.lconst X25.here hx rfl (hb hby at_245) k) ?_
        show OEnds p e below s _ _ _ (T25.setTop (mkF m 246 #[.val (.int q0), .val (.int q1), .val (.int q2), .val (.int q3), .val (.int q4), .val (.int xb), .val (.int c0), .val (.int c1), .val (.int c2), .val (.int c3), .val (.ref nb6), .val (.long ln2), .second, .val (.long cl2), .second, .val (.int (1 : Int32)), .val (.long ln4), .second, .unset, .unset] [(.long (1 : Int64))]))
        refine own_by (fun _ k => XS.lstore X25.here hx rfl (hb hby at_246) rfl (l' := #[.val (.int q0), .val (.int q1), .val (.int q2), .val (.int q3), .val (.int q4), .val (.int xb), .val (.int c0), .val (.int c1), .val (.int c2), .val (.int c3), .val (.ref nb6), .val (.long ln2), .second, .val (.long cl2), .second, .val (.int (1 : Int32)), .val (.long ln4), .second, .val (.long (1 : Int64)), .second]) rfl k) ?_
        show OEnds p e below s _ _ _ (T25.setTop (mkF m 248 #[.val (.int q0), .val (.int q1), .val (.int q2), .val (.int q3), .val (.int q4), .val (.int xb), .val (.int c0), .val (.int c1), .val (.int c2), .val (.int c3), .val (.ref nb6), .val (.long ln2), .second, .val (.long cl2), .second, .val (.int (1 : Int32)), .val (.long ln4), .second, .val (.long (1 : Int64)), .second] []))
        refine own_by (fun _ k => XS.goto X25.here hx rfl (pc0 := 248) (pc' := 292) rfl (hb hby at_248) (by decide) (by decide) k) ?_
        show OEnds p e below s _ _ _ (T25.setTop (mkF m 292 #[.val (.int q0), .val (.int q1), .val (.int q2), .val (.int q3), .val (.int q4), .val (.int xb), .val (.int c0), .val (.int c1), .val (.int c2), .val (.int c3), .val (.ref nb6), .val (.long ln2), .second, .val (.long cl2), .second, .val (.int (1 : Int32)), .val (.long ln4), .second, .val (.long (1 : Int64)), .second] []))
        exact bl292 T25 _ (1 : Int64) X25 e25 N16 (by rw [if_pos hc226_24, if_neg hc242_26])
    · refine own_by (fun _ k => XS.ifNo X23.here hx rfl (hb hby at_226) rfl ((if0 _ _).trans (feq hc226_24).1) k) ?_
      show OEnds p e below s _ _ _ (T23.setTop (mkF m 229 #[.val (.int q0), .val (.int q1), .val (.int q2), .val (.int q3), .val (.int q4), .val (.int xb), .val (.int c0), .val (.int c1), .val (.int c2), .val (.int c3), .val (.ref nb6), .val (.long ln2), .second, .val (.long cl2), .second, .val (.int (1 : Int32)), .val (.long ln4), .second, .unset, .unset] []))
      refine own_by (fun _ k => XS.lconst X23.here hx rfl (hb hby at_229) k) ?_
      show OEnds p e below s _ _ _ (T23.setTop (mkF m 230 #[.val (.int q0), .val (.int q1), .val (.int q2), .val (.int q3), .val (.int q4), .val (.int xb), .val (.int c0), .val (.int c1), .val (.int c2), .val (.int c3), .val (.ref nb6), .val (.long ln2), .second, .val (.long cl2), .second, .val (.int (1 : Int32)), .val (.long ln4), .second, .unset, .unset] [(.long (0 : Int64))]))
      refine own_by (fun _ k => XS.lstore X23.here hx rfl (hb hby at_230) rfl (l' := #[.val (.int q0), .val (.int q1), .val (.int q2), .val (.int q3), .val (.int q4), .val (.int xb), .val (.int c0), .val (.int c1), .val (.int c2), .val (.int c3), .val (.ref nb6), .val (.long ln2), .second, .val (.long cl2), .second, .val (.int (1 : Int32)), .val (.long ln4), .second, .val (.long (0 : Int64)), .second]) rfl k) ?_
      show OEnds p e below s _ _ _ (T23.setTop (mkF m 232 #[.val (.int q0), .val (.int q1), .val (.int q2), .val (.int q3), .val (.int q4), .val (.int xb), .val (.int c0), .val (.int c1), .val (.int c2), .val (.int c3), .val (.ref nb6), .val (.long ln2), .second, .val (.long cl2), .second, .val (.int (1 : Int32)), .val (.long ln4), .second, .val (.long (0 : Int64)), .second] []))
      refine own_by (fun _ k => XS.goto X23.here hx rfl (pc0 := 232) (pc' := 292) rfl (hb hby at_232) (by decide) (by decide) k) ?_
      show OEnds p e below s _ _ _ (T23.setTop (mkF m 292 #[.val (.int q0), .val (.int q1), .val (.int q2), .val (.int q3), .val (.int q4), .val (.int xb), .val (.int c0), .val (.int c1), .val (.int c2), .val (.int c3), .val (.ref nb6), .val (.long ln2), .second, .val (.long cl2), .second, .val (.int (1 : Int32)), .val (.long ln4), .second, .val (.long (0 : Int64)), .second] []))
      exact bl292 T23 _ (0 : Int64) X23 e23 N16 (by rw [if_neg hc226_24])
  show OEnds p e below s _ _ _ (T12.setTop (mkF m 95 #[.val (.int q0), .val (.int q1), .val (.int q2), .val (.int q3), .val (.int q4), .val (.int xb), .val (.int c0), .val (.int c1), .val (.int c2), .val (.int c3), .val (.ref nb6), .val (.long ln2), .second, .unset, .unset, .unset, .unset, .unset, .unset, .unset] []))
  refine own_by (fun _ k => XS.iload X12.here hx rfl (hb hby at_95) rfl k) ?_
  show OEnds p e below s _ _ _ (T12.setTop (mkF m 97 #[.val (.int q0), .val (.int q1), .val (.int q2), .val (.int q3), .val (.int q4), .val (.int xb), .val (.int c0), .val (.int c1), .val (.int c2), .val (.int c3), .val (.ref nb6), .val (.long ln2), .second, .unset, .unset, .unset, .unset, .unset, .unset, .unset] [(.int c1)]))
  refine own_by (fun _ k => XS.iload X12.here hx rfl (hb hby at_97) rfl k) ?_
  show OEnds p e below s _ _ _ (T12.setTop (mkF m 99 #[.val (.int q0), .val (.int q1), .val (.int q2), .val (.int q3), .val (.int q4), .val (.int xb), .val (.int c0), .val (.int c1), .val (.int c2), .val (.int c3), .val (.ref nb6), .val (.long ln2), .second, .unset, .unset, .unset, .unset, .unset, .unset, .unset] [(.int xb), (.int c1)]))
  obtain ⟨T31, X31, e31, st31⟩ := own_callP X12 hx hZ (y := (⟨"com/example/boughcheck/boughcheck/LinesTakePinLaw", "breaks", "(CZ)Z"⟩ : MethodName)) hown (hw _ (List.mem_of_getElem? (i := 27) rfl)) (hw _ (List.mem_of_getElem? (i := 28) rfl)) (hw _ (List.mem_of_getElem? (i := 2) rfl)) (hw _ (List.mem_of_getElem? (i := 29) rfl)) (by decide) (rm_breaks l Z a0 hw [] c1 xb h9) e12 (g := (mkF m 99 #[.val (.int q0), .val (.int q1), .val (.int q2), .val (.int q3), .val (.int q4), .val (.int xb), .val (.int c0), .val (.int c1), .val (.int c2), .val (.int c3), .val (.ref nb6), .val (.long ln2), .second, .unset, .unset, .unset, .unset, .unset, .unset, .unset] [(.int xb), (.int c1)])) rfl (by rw [hml]; rfl) (argsL := [(.int c1), (.int xb)]) (rest := []) (lenOf pd_pCZrZ rfl) rfl (W := 0) (by show 2 * 0 + _ ≤ _; exact Nat.le_of_eq rfl) (hb hby at_99) (by decide) (by decide) (by decide) (by decide)
  refine own_by (st31) ?_
  show OEnds p e below s _ _ _ (T31.setTop (mkF m 102 #[.val (.int q0), .val (.int q1), .val (.int q2), .val (.int q3), .val (.int q4), .val (.int xb), .val (.int c0), .val (.int c1), .val (.int c2), .val (.int c3), .val (.ref nb6), .val (.long ln2), .second, .unset, .unset, .unset, .unset, .unset, .unset, .unset] [(.int (breaks c1 xb))]))
  by_cases hc102_32 : (breaks c1 xb) = (0 : Int32)
  · refine own_by (fun _ k => XS.ifYes X31.here hx rfl (pc0 := 102) (pc' := 111) rfl (hb hby at_102) rfl ((if0 _ _).trans (teq hc102_32).1) (by decide) (by decide) k) ?_
    show OEnds p e below s _ _ _ (T31.setTop (mkF m 111 #[.val (.int q0), .val (.int q1), .val (.int q2), .val (.int q3), .val (.int q4), .val (.int xb), .val (.int c0), .val (.int c1), .val (.int c2), .val (.int c3), .val (.ref nb6), .val (.long ln2), .second, .unset, .unset, .unset, .unset, .unset, .unset, .unset] []))
    refine own_by (fun _ k => XS.iload X31.here hx rfl (hb hby at_111) rfl k) ?_
    show OEnds p e below s _ _ _ (T31.setTop (mkF m 113 #[.val (.int q0), .val (.int q1), .val (.int q2), .val (.int q3), .val (.int q4), .val (.int xb), .val (.int c0), .val (.int c1), .val (.int c2), .val (.int c3), .val (.ref nb6), .val (.long ln2), .second, .unset, .unset, .unset, .unset, .unset, .unset, .unset] [(.int c0)]))
    refine own_by (fun _ k => XS.iload X31.here hx rfl (hb hby at_113) rfl k) ?_
    show OEnds p e below s _ _ _ (T31.setTop (mkF m 115 #[.val (.int q0), .val (.int q1), .val (.int q2), .val (.int q3), .val (.int q4), .val (.int xb), .val (.int c0), .val (.int c1), .val (.int c2), .val (.int c3), .val (.ref nb6), .val (.long ln2), .second, .unset, .unset, .unset, .unset, .unset, .unset, .unset] [(.int xb), (.int c0)]))
    obtain ⟨T33, X33, e33, st33⟩ := own_callP X31 hx hZ (y := (⟨"com/example/boughcheck/boughcheck/LinesTakePinLaw", "breaks", "(CZ)Z"⟩ : MethodName)) hown (hw _ (List.mem_of_getElem? (i := 27) rfl)) (hw _ (List.mem_of_getElem? (i := 28) rfl)) (hw _ (List.mem_of_getElem? (i := 2) rfl)) (hw _ (List.mem_of_getElem? (i := 29) rfl)) (by decide) (rm_breaks l Z a0 hw [] c0 xb h9) e31 (g := (mkF m 115 #[.val (.int q0), .val (.int q1), .val (.int q2), .val (.int q3), .val (.int q4), .val (.int xb), .val (.int c0), .val (.int c1), .val (.int c2), .val (.int c3), .val (.ref nb6), .val (.long ln2), .second, .unset, .unset, .unset, .unset, .unset, .unset, .unset] [(.int xb), (.int c0)])) rfl (by rw [hml]; rfl) (argsL := [(.int c0), (.int xb)]) (rest := []) (lenOf pd_pCZrZ rfl) rfl (W := 0) (by show 2 * 0 + _ ≤ _; exact Nat.le_of_eq rfl) (hb hby at_115) (by decide) (by decide) (by decide) (by decide)
    refine own_by (st33) ?_
    show OEnds p e below s _ _ _ (T33.setTop (mkF m 118 #[.val (.int q0), .val (.int q1), .val (.int q2), .val (.int q3), .val (.int q4), .val (.int xb), .val (.int c0), .val (.int c1), .val (.int c2), .val (.int c3), .val (.ref nb6), .val (.long ln2), .second, .unset, .unset, .unset, .unset, .unset, .unset, .unset] [(.int (breaks c0 xb))]))
    by_cases hc118_34 : (breaks c0 xb) = (0 : Int32)
    · refine own_by (fun _ k => XS.ifYes X33.here hx rfl (pc0 := 118) (pc' := 127) rfl (hb hby at_118) rfl ((if0 _ _).trans (teq hc118_34).1) (by decide) (by decide) k) ?_
      show OEnds p e below s _ _ _ (T33.setTop (mkF m 127 #[.val (.int q0), .val (.int q1), .val (.int q2), .val (.int q3), .val (.int q4), .val (.int xb), .val (.int c0), .val (.int c1), .val (.int c2), .val (.int c3), .val (.ref nb6), .val (.long ln2), .second, .unset, .unset, .unset, .unset, .unset, .unset, .unset] []))
      refine own_by (X33.ldc2Long hx hown (mvT hZ (hw _ (List.mem_of_getElem? (i := 30) rfl))) (g := (mkF m 127 #[.val (.int q0), .val (.int q1), .val (.int q2), .val (.int q3), .val (.int q4), .val (.int xb), .val (.int c0), .val (.int c1), .val (.int c2), .val (.int c3), .val (.ref nb6), .val (.long ln2), .second, .unset, .unset, .unset, .unset, .unset, .unset, .unset] [])) rfl (hb hby at_127)) ?_
      show OEnds p e below s _ _ _ (T33.setTop (mkF m 130 #[.val (.int q0), .val (.int q1), .val (.int q2), .val (.int q3), .val (.int q4), .val (.int xb), .val (.int c0), .val (.int c1), .val (.int c2), .val (.int c3), .val (.ref nb6), .val (.long ln2), .second, .unset, .unset, .unset, .unset, .unset, .unset, .unset] [(.long (2 : Int64))]))
      refine own_by (fun _ k => XS.lstore X33.here hx rfl (hb hby at_130) rfl (l' := #[.val (.int q0), .val (.int q1), .val (.int q2), .val (.int q3), .val (.int q4), .val (.int xb), .val (.int c0), .val (.int c1), .val (.int c2), .val (.int c3), .val (.ref nb6), .val (.long ln2), .second, .val (.long (2 : Int64)), .second, .unset, .unset, .unset, .unset, .unset]) rfl k) ?_
      show OEnds p e below s _ _ _ (T33.setTop (mkF m 132 #[.val (.int q0), .val (.int q1), .val (.int q2), .val (.int q3), .val (.int q4), .val (.int xb), .val (.int c0), .val (.int c1), .val (.int c2), .val (.int c3), .val (.ref nb6), .val (.long ln2), .second, .val (.long (2 : Int64)), .second, .unset, .unset, .unset, .unset, .unset] []))
      exact bl132 T33 _ (2 : Int64) X33 e33 N9 (by rw [if_pos hc102_32, if_pos hc118_34])
    · refine own_by (fun _ k => XS.ifNo X33.here hx rfl (hb hby at_118) rfl ((if0 _ _).trans (feq hc118_34).1) k) ?_
      show OEnds p e below s _ _ _ (T33.setTop (mkF m 121 #[.val (.int q0), .val (.int q1), .val (.int q2), .val (.int q3), .val (.int q4), .val (.int xb), .val (.int c0), .val (.int c1), .val (.int c2), .val (.int c3), .val (.ref nb6), .val (.long ln2), .second, .unset, .unset, .unset, .unset, .unset, .unset, .unset] []))
      refine own_by (fun _ k => XS.lconst X33.here hx rfl (hb hby at_121) k) ?_
      show OEnds p e below s _ _ _ (T33.setTop (mkF m 122 #[.val (.int q0), .val (.int q1), .val (.int q2), .val (.int q3), .val (.int q4), .val (.int xb), .val (.int c0), .val (.int c1), .val (.int c2), .val (.int c3), .val (.ref nb6), .val (.long ln2), .second, .unset, .unset, .unset, .unset, .unset, .unset, .unset] [(.long (1 : Int64))]))
      refine own_by (fun _ k => XS.lstore X33.here hx rfl (hb hby at_122) rfl (l' := #[.val (.int q0), .val (.int q1), .val (.int q2), .val (.int q3), .val (.int q4), .val (.int xb), .val (.int c0), .val (.int c1), .val (.int c2), .val (.int c3), .val (.ref nb6), .val (.long ln2), .second, .val (.long (1 : Int64)), .second, .unset, .unset, .unset, .unset, .unset]) rfl k) ?_
      show OEnds p e below s _ _ _ (T33.setTop (mkF m 124 #[.val (.int q0), .val (.int q1), .val (.int q2), .val (.int q3), .val (.int q4), .val (.int xb), .val (.int c0), .val (.int c1), .val (.int c2), .val (.int c3), .val (.ref nb6), .val (.long ln2), .second, .val (.long (1 : Int64)), .second, .unset, .unset, .unset, .unset, .unset] []))
      refine own_by (fun _ k => XS.goto X33.here hx rfl (pc0 := 124) (pc' := 132) rfl (hb hby at_124) (by decide) (by decide) k) ?_
      show OEnds p e below s _ _ _ (T33.setTop (mkF m 132 #[.val (.int q0), .val (.int q1), .val (.int q2), .val (.int q3), .val (.int q4), .val (.int xb), .val (.int c0), .val (.int c1), .val (.int c2), .val (.int c3), .val (.ref nb6), .val (.long ln2), .second, .val (.long (1 : Int64)), .second, .unset, .unset, .unset, .unset, .unset] []))
      exact bl132 T33 _ (1 : Int64) X33 e33 N9 (by rw [if_pos hc102_32, if_neg hc118_34])
  · refine own_by (fun _ k => XS.ifNo X31.here hx rfl (hb hby at_102) rfl ((if0 _ _).trans (feq hc102_32).1) k) ?_
    show OEnds p e below s _ _ _ (T31.setTop (mkF m 105 #[.val (.int q0), .val (.int q1), .val (.int q2), .val (.int q3), .val (.int q4), .val (.int xb), .val (.int c0), .val (.int c1), .val (.int c2), .val (.int c3), .val (.ref nb6), .val (.long ln2), .second, .unset, .unset, .unset, .unset, .unset, .unset, .unset] []))
    refine own_by (fun _ k => XS.lconst X31.here hx rfl (hb hby at_105) k) ?_
    show OEnds p e below s _ _ _ (T31.setTop (mkF m 106 #[.val (.int q0), .val (.int q1), .val (.int q2), .val (.int q3), .val (.int q4), .val (.int xb), .val (.int c0), .val (.int c1), .val (.int c2), .val (.int c3), .val (.ref nb6), .val (.long ln2), .second, .unset, .unset, .unset, .unset, .unset, .unset, .unset] [(.long (0 : Int64))]))
    refine own_by (fun _ k => XS.lstore X31.here hx rfl (hb hby at_106) rfl (l' := #[.val (.int q0), .val (.int q1), .val (.int q2), .val (.int q3), .val (.int q4), .val (.int xb), .val (.int c0), .val (.int c1), .val (.int c2), .val (.int c3), .val (.ref nb6), .val (.long ln2), .second, .val (.long (0 : Int64)), .second, .unset, .unset, .unset, .unset, .unset]) rfl k) ?_
    show OEnds p e below s _ _ _ (T31.setTop (mkF m 108 #[.val (.int q0), .val (.int q1), .val (.int q2), .val (.int q3), .val (.int q4), .val (.int xb), .val (.int c0), .val (.int c1), .val (.int c2), .val (.int c3), .val (.ref nb6), .val (.long ln2), .second, .val (.long (0 : Int64)), .second, .unset, .unset, .unset, .unset, .unset] []))
    refine own_by (fun _ k => XS.goto X31.here hx rfl (pc0 := 108) (pc' := 132) rfl (hb hby at_108) (by decide) (by decide) k) ?_
    show OEnds p e below s _ _ _ (T31.setTop (mkF m 132 #[.val (.int q0), .val (.int q1), .val (.int q2), .val (.int q3), .val (.int q4), .val (.int xb), .val (.int c0), .val (.int c1), .val (.int c2), .val (.int c3), .val (.ref nb6), .val (.long ln2), .second, .val (.long (0 : Int64)), .second, .unset, .unset, .unset, .unset, .unset] []))
    exact bl132 T31 _ (0 : Int64) X31 e31 N9 (by rw [if_neg hc102_32])
set_option maxRecDepth 65536 in
set_option maxHeartbeats 40000000 in
theorem comes_1 {Post : Tables → Env → Array Value → State → Outcome → State → Prop} (hpost : ∀ tb e args s v u, (limb_1_1.after args s (.returned v) u = true ∧ limb_1_2.after args s (.returned v) u = true ∧ True) → FrameEnd s (.returned v) u (Jvm.fieldLocs frame_1_writes args s ++ Jvm.arrayLocs frame_1_arrays args s ++ Jvm.staticLocs frame_1_statics s) 16 128 → Post tb e args s (.returned v) u) :
    ArmFor flags0 classFile x code maxLocals ret World_1 tables_1 room_1 Calls_1 rest_1 Pre_1 Post := by
  intro l hfl _ _ p e ha hc hk s m args below hf hA hF happ hP
  obtain ⟨hcalls, hrest, hpre⟩ := hP
  obtain ⟨-, -, -, hnamed, -, -, -, hat⟩ := (Spec.applies_iff hf).mp happ
  obtain ⟨hg, hn⟩ := and_e (Cond.before_iff.mp (show (Jvm.Cond.and given_1 narrow_1).before args s = true from hpre))
  obtain ⟨hct, hg0⟩ := and_e hg
  obtain ⟨ga0, hg1⟩ := and_e hg0
  obtain ⟨ga1, hg2⟩ := and_e hg1
  obtain ⟨ga2, hg3⟩ := and_e hg2
  obtain ⟨ga3, hg4⟩ := and_e hg3
  have ga4 := hg4
  obtain ⟨w0, w1, w2, w3, w4, rfl⟩ : ∃ w0 w1 w2 w3 w4 : Value, args = #[w0, w1, w2, w3, w4] := by
    have hs : args.size = 5 := by simpa [Cond.value, given_1] using hct
    obtain ⟨L⟩ := args
    match L, hs with
    | [w0, w1, w2, w3, w4], _ => exact ⟨w0, w1, w2, w3, w4, rfl⟩
  have hw := fun d (hd : d ∈ tables_1) => atoms_spec (ws := Jvm.Cond.code x code maxLocals ret :: tables_1) hat d (List.mem_cons_of_mem _ hd)
  obtain ⟨i0, ei0⟩ := is_v ga0
  obtain rfl : w0 = (.int i0) := Option.some.inj ei0
  obtain ⟨i1, ei1⟩ := is_v ga1
  obtain rfl : w1 = (.int i1) := Option.some.inj ei1
  obtain ⟨i2, ei2⟩ := is_v ga2
  obtain rfl : w2 = (.int i2) := Option.some.inj ei2
  obtain ⟨i3, ei3⟩ := is_v ga3
  obtain rfl : w3 = (.int i3) := Option.some.inj ei3
  obtain ⟨i4, ei4⟩ := is_v ga4
  obtain rfl : w4 = (.int i4) := Option.some.inj ei4
  obtain ⟨n, o, h1, h2, h3, _, L, rfl, ⟨rfl, N⟩, hq⟩ := rm_law l s _ hw tables_1 i0 i1 i2 i3 i4 s.heap s.heap.size (Nat.le_refl _) p e ha hc hk s m _ below hf ((Spec.applies_iff_loose hf).mp happ).1 ⟨rfl, State.Warmed39.refl s, rfl⟩ trivial
  refine ⟨n, _, h1, h2, h3, hpost _ _ _ _ _ _ ⟨Cond.after_iff.mpr rfl, Cond.after_iff.mpr (eq_i res_at (Term.int_eval (1)) rfl), trivial⟩ ⟨hq.1, hq.2.1, (hq.2.2.sift fun y hy => Or.inr (N y hy)).mono (by decide) (by decide)⟩⟩
theorem main_1_1 : Claimed_1_1 := comes_1 fun _ _ _ _ _ _ h hF => ⟨h.1, hF⟩
theorem main_1_2 : Claimed_1_2 := comes_1 fun _ _ _ _ _ _ h hF => ⟨h.2.1, hF⟩
end Jvm.Pilot.@@N@@
namespace Jvm.Pilot.@@N@@
open Jvm Jvm.ClassFile Sem Op Lib Jvm.Free Jvm.Stand Jvm.Pilot.@@N@@.Jvm.D
/-! MADE BY PROGRAM (witnessworld.py) out of the Statement's table words and the real class files: 9 classes; the members and pool entries that the words name. The judged class is class 1, her method 4. -/
namespace start1
open Jvm.ClassFile
def u (s : String) : CpInfo := .utf8 (stringToUtf16 s)
/-- a pool by its gaps: so many unusable entries, then the entry; so many at the end -/
def gap : Nat → List CpInfo → List CpInfo
  | 0, r => r
  | n + 1, r => .unusable :: gap n r
def poolList (es : List (Nat × CpInfo)) (last : Nat) : List CpInfo := es.foldr (fun e r => gap e.1 (e.2 :: r)) (gap last [])
def pool (es : List (Nat × CpInfo)) (last : Nat) : Array CpInfo := ⟨poolList es last⟩
def fileOf (pool : Array CpInfo) (this : Nat) (attrs : Array Attribute := #[]) (ms : Array MethodInfo := #[]) (fl : Nat := 33) (sup : Nat := 0) (ifs : Array Nat := #[]) (fds : Array FieldInfo := #[]) : ClassFile where
  minorVersion := 0
  majorVersion := 65
  constantPool := pool
  accessFlags := fl
  thisClass := this
  superClass := sup
  interfaces := ifs
  fields := fds
  methods := ms
  attributes := attrs
def plain (name : String) (sup : Option ClassId) : Class where
  name := name
  kind := .ordinary
  loader := none
  accessFlags := 33
  super := sup
  interfaces := #[]
  cf := none
  fields := #[]
  methods := #[]
  instanceTypes := #[]
  staticTypes := #[]
  resolved := #[]
  callSites := []
  init := .initialized
  statics := none
  mirror := none

def pool0 : Array CpInfo := pool [(5, u "<init>"), (0, u "()V"), (1, .class_ 10), (1, u "java/lang/Object")] 113

def k0c0 : Code := { maxStack := 0, maxLocals := 1, code := object_method_1_code, exceptionTable := #[], attributes := #[] }
def k0m0 : Method := { name := "<init>", desc := "()V", sig := { parameters := [], returnType := none }, accessFlags := 1, code := some k0c0 }
/-- java/lang/Object -/
def k0 : Class := { plain "java/lang/Object" none with
  accessFlags := 33
  interfaces := #[]
  cf := some (fileOf pool0 8 #[] #[{ accessFlags := 1, nameIndex := 5, descriptorIndex := 6, attributes := #[] }] 33 0 #[] #[])
  fields := #[]
  methods := #[k0m0]
  instanceTypes := #[]
  staticTypes := #[]
  resolved := Array.replicate 124 none
  statics := none }

def pool1 : Array CpInfo := pool [(2, .class_ 4), (1, u "java/lang/Object"), (0, u "<init>"), (0, u "()V"), (0, .methodref 8 9), (0, .class_ 10), (0, .nameAndType 11 12), (0, u "com/example/boughcheck/boughcheck/LinesTakePinLaw"), (0, u "draw"), (0, u "(I)C"), (0, .class_ 14), (0, u "com/example/boughcheck/boughcheck/DoctypeScan$Lines"), (0, .methodref 13 16), (0, .nameAndType 5 17), (0, u "(Z)V"), (0, .methodref 13 19), (0, .nameAndType 20 21), (0, u "take"), (0, u "(C)V"), (0, .methodref 8 23), (0, .nameAndType 24 25), (0, u "endsLine"), (0, u "(ZCZ)J"), (0, .methodref 8 27), (0, .nameAndType 28 29), (0, u "breaks"), (0, u "(CZ)Z"), (0, .long 2), (1, .methodref 13 33), (0, .nameAndType 34 35), (0, u "line"), (0, u "()J"), (0, .methodref 13 37), (0, .nameAndType 38 35), (0, u "columns"), (0, .long 3), (1, .long 4), (4, u "law"), (0, u "(IIIII)Z")] 6

def k1m0 : Method := { name := "<init>", desc := "()V", sig := { parameters := [], returnType := none }, accessFlags := 2, code := none }
def k1c1 : Code := { maxStack := 2, maxLocals := 2, code := method_2_code, exceptionTable := #[], attributes := #[] }
def k1m1 : Method := { name := "draw", desc := "(I)C", sig := { parameters := [.int], returnType := some .char }, accessFlags := 10, code := some k1c1 }
def k1c2 : Code := { maxStack := 2, maxLocals := 2, code := method_3_code, exceptionTable := #[], attributes := #[] }
def k1m2 : Method := { name := "breaks", desc := "(CZ)Z", sig := { parameters := [.char, .boolean], returnType := some .boolean }, accessFlags := 10, code := some k1c2 }
def k1c3 : Code := { maxStack := 2, maxLocals := 5, code := method_4_code, exceptionTable := #[], attributes := #[] }
def k1m3 : Method := { name := "endsLine", desc := "(ZCZ)J", sig := { parameters := [.boolean, .char, .boolean], returnType := some .long }, accessFlags := 10, code := some k1c3 }
def k1c4 : Code := { maxStack := 5, maxLocals := 20, code := code, exceptionTable := #[], attributes := #[] }
def k1m4 : Method := { name := "law", desc := "(IIIII)Z", sig := { parameters := [.int, .int, .int, .int, .int], returnType := some .boolean }, accessFlags := 9, code := some k1c4 }
/-- com/example/boughcheck/boughcheck/LinesTakePinLaw -/
def k1 : Class := { plain "com/example/boughcheck/boughcheck/LinesTakePinLaw" (some 0) with
  accessFlags := 49
  interfaces := #[]
  cf := some (fileOf pool1 8 #[] #[{ accessFlags := 2, nameIndex := 5, descriptorIndex := 6, attributes := #[] }, { accessFlags := 10, nameIndex := 11, descriptorIndex := 12, attributes := #[] }, { accessFlags := 10, nameIndex := 28, descriptorIndex := 29, attributes := #[] }, { accessFlags := 10, nameIndex := 24, descriptorIndex := 25, attributes := #[] }, { accessFlags := 9, nameIndex := 46, descriptorIndex := 47, attributes := #[] }] 49 2 #[] #[])
  fields := #[]
  methods := #[k1m0, k1m1, k1m2, k1m3, k1m4]
  instanceTypes := #[]
  staticTypes := #[]
  resolved := Array.replicate 54 none
  statics := none }

def pool2 : Array CpInfo := pool [(1, .methodref 2 3), (0, .class_ 4), (0, .nameAndType 5 6), (0, u "java/lang/Object"), (0, u "<init>"), (0, u "()V"), (0, .fieldref 8 9), (0, .class_ 10), (0, .nameAndType 11 12), (0, u "com/example/boughcheck/boughcheck/DoctypeScan$Lines"), (0, u "xml11"), (0, u "Z"), (0, .fieldref 8 14), (0, .nameAndType 15 12), (0, u "afterCarriageReturn"), (0, .fieldref 8 17), (0, .nameAndType 18 19), (0, u "ends"), (0, u "J"), (0, .fieldref 8 21), (0, .nameAndType 22 19), (0, u "column"), (5, u "(Z)V"), (2, u "take"), (0, u "(C)V"), (3, u "line"), (0, u "()J"), (0, u "columns"), (3, .class_ 43), (0, u "com/example/boughcheck/boughcheck/DoctypeScan")] 3

def k2c0 : Code := { maxStack := 2, maxLocals := 2, code := prog_102_method_1_code, exceptionTable := #[], attributes := #[] }
def k2m0 : Method := { name := "<init>", desc := "(Z)V", sig := { parameters := [.boolean], returnType := none }, accessFlags := 0, code := some k2c0 }
def k2c1 : Code := { maxStack := 5, maxLocals := 3, code := prog_102_method_2_code, exceptionTable := #[], attributes := #[] }
def k2m1 : Method := { name := "take", desc := "(C)V", sig := { parameters := [.char], returnType := none }, accessFlags := 0, code := some k2c1 }
def k2c2 : Code := { maxStack := 4, maxLocals := 1, code := prog_102_method_4_code, exceptionTable := #[], attributes := #[] }
def k2m2 : Method := { name := "line", desc := "()J", sig := { parameters := [], returnType := some .long }, accessFlags := 0, code := some k2c2 }
def k2c3 : Code := { maxStack := 2, maxLocals := 1, code := prog_102_method_5_code, exceptionTable := #[], attributes := #[] }
def k2m3 : Method := { name := "columns", desc := "()J", sig := { parameters := [], returnType := some .long }, accessFlags := 0, code := some k2c3 }
/-- com/example/boughcheck/boughcheck/DoctypeScan$Lines -/
def k2 : Class := { plain "com/example/boughcheck/boughcheck/DoctypeScan$Lines" (some 0) with
  accessFlags := 48
  interfaces := #[]
  cf := some (fileOf pool2 8 #[.nestHost 42] #[{ accessFlags := 0, nameIndex := 5, descriptorIndex := 28, attributes := #[] }, { accessFlags := 0, nameIndex := 31, descriptorIndex := 32, attributes := #[] }, { accessFlags := 0, nameIndex := 36, descriptorIndex := 37, attributes := #[] }, { accessFlags := 0, nameIndex := 38, descriptorIndex := 37, attributes := #[] }] 48 2 #[] #[{ accessFlags := 18, nameIndex := 11, descriptorIndex := 12, attributes := #[] }, { accessFlags := 2, nameIndex := 18, descriptorIndex := 19, attributes := #[] }, { accessFlags := 2, nameIndex := 22, descriptorIndex := 19, attributes := #[] }, { accessFlags := 2, nameIndex := 15, descriptorIndex := 12, attributes := #[] }])
  fields := #[{ name := "xml11", type := .boolean, accessFlags := 18, slot := 0, constantValue := 0 }, { name := "ends", type := .long, accessFlags := 2, slot := 1, constantValue := 0 }, { name := "column", type := .long, accessFlags := 2, slot := 2, constantValue := 0 }, { name := "afterCarriageReturn", type := .boolean, accessFlags := 2, slot := 3, constantValue := 0 }]
  methods := #[k2m0, k2m1, k2m2, k2m3]
  instanceTypes := #[.boolean, .long, .long, .boolean]
  staticTypes := #[]
  resolved := Array.replicate 47 none
  statics := none }

def pool3 : Array CpInfo := pool [(1, u "java/lang/Cloneable"), (0, .class_ 1), (0, u "java/lang/Object"), (0, .class_ 3)] 3

/-- java/lang/Cloneable -/
def k3 : Class := { plain "java/lang/Cloneable" (some 0) with
  accessFlags := 1537
  interfaces := #[]
  cf := some (fileOf pool3 2 #[] #[] 1537 4 #[] #[])
  fields := #[]
  methods := #[]
  instanceTypes := #[]
  staticTypes := #[]
  resolved := Array.replicate 8 none
  statics := none }

def pool4 : Array CpInfo := pool [(1, u "java/io/Serializable"), (0, .class_ 1), (0, u "java/lang/Object"), (0, .class_ 3)] 3

/-- java/io/Serializable -/
def k4 : Class := { plain "java/io/Serializable" (some 0) with
  accessFlags := 1537
  interfaces := #[]
  cf := some (fileOf pool4 2 #[] #[] 1537 4 #[] #[])
  fields := #[]
  methods := #[]
  instanceTypes := #[]
  staticTypes := #[]
  resolved := Array.replicate 8 none
  statics := none }

/-- the primitive byte -/
def k5 : Class := { plain "byte" none with kind := .primitive 'B', accessFlags := 0x411 }
/-- [B -/
def k6 : Class := { plain "[B" (some 0) with kind := .array 5 .byte, interfaces := #[3, 4], accessFlags := 1041 }

/-- the primitive int -/
def k7 : Class := { plain "int" none with kind := .primitive 'I', accessFlags := 0x411 }
/-- [I -/
def k8 : Class := { plain "[I" (some 0) with kind := .array 7 .int, interfaces := #[3, 4], accessFlags := 1041 }

def heap : Heap := #[]
def classes : Array Class := #[k0, k1, k2, k3, k4, k5, k6, k7, k8]
def interned : List (Array UInt16 × Addr) := []
def slotsUsed : Nat := 0
def theMethod : MethodId := ⟨1, 4⟩
def args0 : Array Value := #[.int 1, .int 2, .int 3, .int 4, .int 5]
def aboutOver (below : List Frame) : State where
  vm := { classes := classes, interned := interned.toArray }
  heap := heap
  slotsUsed := slotsUsed
  threads := #[{ frames := .invoking theMethod args0 :: below }]
def below0 : List Frame := [.native { method := ⟨0, 0⟩, args := #[] }]
def about1 : State := aboutOver below0
def p0 : Program := .bare "" "" ""
def e0 : Env := launch0.env 0 0 0
theorem w_frames : about1.frames = Frame.invoking theMethod args0 :: below0 := rfl
set_option maxRecDepth 65536 in
theorem w_args : argsFit about1.vm theMethod args0 = true := by decide +kernel
set_option maxRecDepth 65536 in
theorem w_heap : heapFits about1 = true := by decide +kernel
set_option maxRecDepth 65536 in
theorem w_runnable : about1.curStatus? = some .runnable := by decide +kernel
set_option maxRecDepth 65536 in
theorem w_alone : about1.alone = true := by decide +kernel
set_option maxRecDepth 65536 in
theorem w_named : about1.methodNamed? x = some theMethod := by decide +kernel
set_option maxRecDepth 65536 in
theorem w_hears : about1.hears theMethod below0 = true := by decide +kernel
set_option maxRecDepth 65536 in
theorem w_ripe : about1.ripe theMethod args0 below0 = true := by decide +kernel
theorem w_running : about1.status = .running := rfl
set_option maxRecDepth 65536 in
theorem w_room : about1.hasRoom e0.platform room_1 = true :=
  launch0.hasRoom_least _ room_1 (by decide +kernel) (by decide +kernel) (by decide +kernel) (by decide +kernel) (by decide +kernel) (by decide +kernel)
theorem allAtoms_all (ts : List Jvm.Cond) (a : Array Jvm.Value) (st : Jvm.State) : (allAtoms ts).before a st = ts.all (fun c => c.before a st) := by
  induction ts with
  | nil => rfl
  | cons c t ih =>
    show (Jvm.Cond.and c (allAtoms t)).before a st = _
    rw [Jvm.Cond.before_and, ih, List.all_cons]
def words1 : List Jvm.Cond := Jvm.Cond.code x code maxLocals ret :: tables_1
/-- a 'code' word, met by the world's own term for the bytes: nothing is compared byte by byte -/
theorem code_word {y : MethodName} {bytes : ByteArray} {mx : Nat} {rt : Option FieldType} {a : Array Value} {s : State} {m : MethodId} {meth : Method} {c : Code} (h1 : s.methodNamed? y = some m) (h2 : s.vm.method? m = some meth) (h3 : meth.code = some c) (h4 : c.code = bytes)
    (h5 : (c.maxLocals == mx && c.exceptionTable.isEmpty && decide (c.maxStack ≤ mostOperands) && decide (meth.sig.returnType = rt) && !meth.locks && decide (parseMethodDescriptor y.desc = some meth.sig)) = true) : (Jvm.Cond.code y bytes mx rt).before a s = true := by
  simp only [Bool.and_eq_true, beq_iff_eq, Bool.not_eq_true', decide_eq_true_eq] at h5
  obtain ⟨⟨⟨⟨⟨g1, g2⟩, g3⟩, g4⟩, g5⟩, g6⟩ := h5
  simp [Cond.before, Cond.holds, Cond.value, h1, h2, h3, h4, g1, g2, g3, g4, g5, g6]
def isCode : Jvm.Cond → Bool
  | .code _ _ _ _ => true
  | _ => false
theorem all_split {L : List Jvm.Cond} {P : Jvm.Cond → Bool} (h1 : L.all (fun c => isCode c || P c) = true) (h2 : ∀ c ∈ L.filter isCode, P c = true) : L.all P = true := by
  refine List.all_eq_true.mpr fun c hc => ?_
  have h := List.all_eq_true.mp h1 c hc
  rcases Bool.eq_false_or_eq_true (isCode c) with hi | hi
  · exact h2 c (List.mem_filter.mpr ⟨hc, hi⟩)
  · simpa [hi] using h
set_option maxRecDepth 65536 in
theorem w_c0 : (Jvm.Cond.code x code maxLocals ret).before args0 about1 = true := code_word (m := ⟨1, 4⟩) (meth := k1m4) (c := k1c4) (by decide +kernel) rfl rfl rfl (by decide +kernel)
set_option maxRecDepth 65536 in
theorem w_c1 : (Jvm.Cond.code ({ cls := "com/example/boughcheck/boughcheck/LinesTakePinLaw", name := "draw", desc := "(I)C" } : Jvm.MethodName) method_2_code (2 : Nat) (Option.some Jvm.ClassFile.FieldType.char)).before args0 about1 = true := code_word (m := ⟨1, 1⟩) (meth := k1m1) (c := k1c1) (by decide +kernel) rfl rfl rfl (by decide +kernel)
set_option maxRecDepth 65536 in
theorem w_c2 : (Jvm.Cond.code ({ cls := "com/example/boughcheck/boughcheck/DoctypeScan$Lines", name := "<init>", desc := "(Z)V" } : Jvm.MethodName) prog_102_method_1_code (2 : Nat) (Option.none : Option Jvm.ClassFile.FieldType)).before args0 about1 = true := code_word (m := ⟨2, 0⟩) (meth := k2m0) (c := k2c0) (by decide +kernel) rfl rfl rfl (by decide +kernel)
set_option maxRecDepth 65536 in
theorem w_c3 : (Jvm.Cond.code ({ cls := "java/lang/Object", name := "<init>", desc := "()V" } : Jvm.MethodName) object_method_1_code (1 : Nat) (Option.none : Option Jvm.ClassFile.FieldType)).before args0 about1 = true := code_word (m := ⟨0, 0⟩) (meth := k0m0) (c := k0c0) (by decide +kernel) rfl rfl rfl (by decide +kernel)
set_option maxRecDepth 65536 in
theorem w_c4 : (Jvm.Cond.code ({ cls := "com/example/boughcheck/boughcheck/DoctypeScan$Lines", name := "take", desc := "(C)V" } : Jvm.MethodName) prog_102_method_2_code (3 : Nat) (Option.none : Option Jvm.ClassFile.FieldType)).before args0 about1 = true := code_word (m := ⟨2, 1⟩) (meth := k2m1) (c := k2c1) (by decide +kernel) rfl rfl rfl (by decide +kernel)
set_option maxRecDepth 65536 in
theorem w_c5 : (Jvm.Cond.code ({ cls := "com/example/boughcheck/boughcheck/LinesTakePinLaw", name := "endsLine", desc := "(ZCZ)J" } : Jvm.MethodName) method_4_code (5 : Nat) (Option.some Jvm.ClassFile.FieldType.long)).before args0 about1 = true := code_word (m := ⟨1, 3⟩) (meth := k1m3) (c := k1c3) (by decide +kernel) rfl rfl rfl (by decide +kernel)
set_option maxRecDepth 65536 in
theorem w_c6 : (Jvm.Cond.code ({ cls := "com/example/boughcheck/boughcheck/LinesTakePinLaw", name := "breaks", desc := "(CZ)Z" } : Jvm.MethodName) method_3_code (2 : Nat) (Option.some Jvm.ClassFile.FieldType.boolean)).before args0 about1 = true := code_word (m := ⟨1, 2⟩) (meth := k1m2) (c := k1c2) (by decide +kernel) rfl rfl rfl (by decide +kernel)
set_option maxRecDepth 65536 in
theorem w_c7 : (Jvm.Cond.code ({ cls := "com/example/boughcheck/boughcheck/DoctypeScan$Lines", name := "line", desc := "()J" } : Jvm.MethodName) prog_102_method_4_code (1 : Nat) (Option.some Jvm.ClassFile.FieldType.long)).before args0 about1 = true := code_word (m := ⟨2, 2⟩) (meth := k2m2) (c := k2c2) (by decide +kernel) rfl rfl rfl (by decide +kernel)
set_option maxRecDepth 65536 in
theorem w_c8 : (Jvm.Cond.code ({ cls := "com/example/boughcheck/boughcheck/DoctypeScan$Lines", name := "columns", desc := "()J" } : Jvm.MethodName) prog_102_method_5_code (1 : Nat) (Option.some Jvm.ClassFile.FieldType.long)).before args0 about1 = true := code_word (m := ⟨2, 3⟩) (meth := k2m3) (c := k2c3) (by decide +kernel) rfl rfl rfl (by decide +kernel)
def codes1 : List Jvm.Cond := [Jvm.Cond.code x code maxLocals ret, Jvm.Cond.code ({ cls := "com/example/boughcheck/boughcheck/LinesTakePinLaw", name := "draw", desc := "(I)C" } : Jvm.MethodName) method_2_code (2 : Nat) (Option.some Jvm.ClassFile.FieldType.char), Jvm.Cond.code ({ cls := "com/example/boughcheck/boughcheck/DoctypeScan$Lines", name := "<init>", desc := "(Z)V" } : Jvm.MethodName) prog_102_method_1_code (2 : Nat) (Option.none : Option Jvm.ClassFile.FieldType), Jvm.Cond.code ({ cls := "java/lang/Object", name := "<init>", desc := "()V" } : Jvm.MethodName) object_method_1_code (1 : Nat) (Option.none : Option Jvm.ClassFile.FieldType), Jvm.Cond.code ({ cls := "com/example/boughcheck/boughcheck/DoctypeScan$Lines", name := "take", desc := "(C)V" } : Jvm.MethodName) prog_102_method_2_code (3 : Nat) (Option.none : Option Jvm.ClassFile.FieldType), Jvm.Cond.code ({ cls := "com/example/boughcheck/boughcheck/LinesTakePinLaw", name := "endsLine", desc := "(ZCZ)J" } : Jvm.MethodName) method_4_code (5 : Nat) (Option.some Jvm.ClassFile.FieldType.long), Jvm.Cond.code ({ cls := "com/example/boughcheck/boughcheck/LinesTakePinLaw", name := "breaks", desc := "(CZ)Z" } : Jvm.MethodName) method_3_code (2 : Nat) (Option.some Jvm.ClassFile.FieldType.boolean), Jvm.Cond.code ({ cls := "com/example/boughcheck/boughcheck/DoctypeScan$Lines", name := "line", desc := "()J" } : Jvm.MethodName) prog_102_method_4_code (1 : Nat) (Option.some Jvm.ClassFile.FieldType.long), Jvm.Cond.code ({ cls := "com/example/boughcheck/boughcheck/DoctypeScan$Lines", name := "columns", desc := "()J" } : Jvm.MethodName) prog_102_method_5_code (1 : Nat) (Option.some Jvm.ClassFile.FieldType.long)]
set_option maxRecDepth 65536 in
theorem codes_eq : words1.filter isCode = codes1 := rfl
theorem w_codes : ∀ c ∈ words1.filter isCode, c.before args0 about1 = true := by
  rw [codes_eq]
  intro c hc
  simp only [codes1, List.mem_cons, List.not_mem_nil, or_false] at hc
  rcases hc with rfl | rfl | rfl | rfl | rfl | rfl | rfl | rfl | rfl
  · exact w_c0
  · exact w_c1
  · exact w_c2
  · exact w_c3
  · exact w_c4
  · exact w_c5
  · exact w_c6
  · exact w_c7
  · exact w_c8
set_option maxRecDepth 65536 in
theorem w_t1 : (words1.take 24).all (fun c => isCode c || c.before args0 about1) = true := by decide +kernel
set_option maxRecDepth 65536 in
theorem w_t2 : (words1.drop 24).all (fun c => isCode c || c.before args0 about1) = true := by decide +kernel
theorem w_tables : (allAtoms (Jvm.Cond.code x code maxLocals ret :: tables_1)).before args0 about1 = true := by
  rw [allAtoms_all]
  show words1.all (fun c => c.before args0 about1) = true
  refine all_split ?_ w_codes
  rw [← List.take_append_drop 24 words1, List.all_append, w_t1, w_t2]
  rfl
set_option maxRecDepth 65536 in
theorem w_case : (Jvm.Cond.and given_1 narrow_1).before args0 about1 = true := by decide +kernel
theorem w_applies : (headSpec (Jvm.Cond.code x code maxLocals ret :: tables_1) room_1).applies x e0.platform about1 = true :=
  (Spec.applies_iff w_frames).mpr ⟨w_running, w_runnable, w_alone, w_named, w_hears, w_ripe, w_room, w_tables⟩
theorem atStart : AtStart classFile x code maxLocals ret World_1 tables_1 room_1 Calls_1 rest_1 Pre_1 launch0 p0 e0 about1 theMethod args0 below0 :=
  ⟨lists_1, trivial, launch0.admits_env _ _ _, launch0.least_env, fairChoices_fair.cas, fairChoices_fair.clock, w_frames, w_args, w_heap, w_applies, trivial, trivial, w_case⟩
end start1
theorem witness_1 : WitnessClaimed_1 := ⟨start1.p0, start1.e0, start1.about1, start1.theMethod, start1.args0, start1.below0, start1.atStart⟩
end Jvm.Pilot.@@N@@
